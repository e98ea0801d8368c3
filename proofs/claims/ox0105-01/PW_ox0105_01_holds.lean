import PyProof.Rows.All
import Wide.All
import OpenK.AllK
import Wide.FinOn
import Lean
import PySem.Challenge.RW_ox0105_01
set_option Elab.async false
set_option maxRecDepth 100000
set_option maxHeartbeats 0
set_option linter.all false
noncomputable section
namespace Mine
local macro_rules
  | `(s!$x:interpolatedStr) => do
    let some t := x.raw[0].isInterpolatedStrLit? | Lean.Macro.throwUnsupported
    let xs ← t.toList.mapM fun c => `(nat_lit $(Lean.Syntax.mkNumLit (toString c.toNat)))
    `((⟨⟨[$(xs.toArray),*]⟩⟩ : PySem.Str))
set_option hygiene false
local macro_rules (kind:=char)
| `($c:char)=>match c.getChar with
| 'a'=>`((fun _ _=>rfl))
| 'b'=>`((dqO 0 []))
| 'c'=>`((Tf w.params))
| 'd'=>`((zEX (y3.drop 2) (env697 L)))
| 'e'=>`((fun _ _=>all_nil))
| 'f'=>`(Nat->Tok)
| 'g'=>`(A.handled = none)
| 'h'=>`((rt4 P u a false es eT ⟨⟨[c]⟩⟩ nT))
| 'i'=>`((siDict P u x))
| 'j'=>`((rt4 P u a q es eT ⟨⟨[c]⟩⟩ nT))
| 'k'=>`((Nat->Addr))
| 'l'=>`({ x with pos:=p,posT:=f 1 })
| 'm'=>`((.ok (.ret .none)))
| 'n'=>`((spf6 P u pp q bg ro rT sg sT op))
| 'o'=>`((zi0 rfl))
| 'p'=>`((lxf6 P u pp q la laT ro rT sg sT g gT))
| 'q'=>`((Nat->Tok))
| 'r'=>`(TopIn 'c' h₀)
| _=>Lean.Macro.throwUnsupported
set_option hygiene true
section
open PySem PySem.W PyProof.Rows
noncomputable def pw : Program:=PySem.Challenge.pw_ox0105_01
noncomputable def st1 (i : Nat) : Stmt:=pw.main.body.getD i (.Pass default)
noncomputable def st2 (i j : Nat) : Stmt:=match st1 i with
 | .ClassDef _ _ _ b _ _ _ _ _ _ _=>b.getD j (.Pass default)
 | s=>s
noncomputable def fArgs : Stmt->Arguments
 | .FunctionDef _ a _ _ _ _ _ _ _ _=>a
 | _=>default
noncomputable def fBody : Stmt->List Stmt
 | .FunctionDef _ _ b _ _ _ _ _ _ _=>b
 | _=>[]
noncomputable def fScope : Stmt->Scope
 | .FunctionDef _ _ _ _ _ _ s _ _ _=>s
 | _=>default
noncomputable def fd (st : Stmt) (name qual : Str) (globals : Addr) (closure : List (Str × Addr)) (dV kV doc pm : Value) (an : Option Addr) (cd ct : Value) (bs : Addr) : FuncData :=
 ⟨name,qual,fArgs st,.stmts (fBody st),fScope st,globals,closure,dV,kV,doc,pm,an,cd,ct,bs⟩
noncomputable def en (P : Params) (x : Str) (t : Tok) (v : Value) : DictEntry:=⟨PyData.keyHash P x,.str x t,v⟩
noncomputable def lf : Life:={}
noncomputable def zd : Nat->Nat->Nat
 | 0,_=>0
 | f + 1,n=>match Nat.beq n 0 with
  | true=>0
  | false=>match Nat.blt (n % 16) 13 with
   | true=>256 ^ (n / 16 % 16) * (n % 16 + 256 * zd f (n / 256))
   | false=>256 ^ (n / 16 % 16) * (n % 16 + 240 + 256 * zd f (n / 256))
noncomputable def zJ : List Nat->List Value
 | a :: b :: c :: r=>.int (.ofNat a) 0 :: .int (.ofNat b) 0 :: .ref c :: zJ r
 | _=>[]
noncomputable abbrev WP {α : Type} (w : World) (A : Around) (t : Sem α) (Q : α->Shared->Prop) (E : Value->Shared->Prop) (s : Shared) : Prop:=(wpAny) (model pw w) A t Q E s
noncomputable abbrev CA (w : World) (A : Around) (c : Code) (R : Result->Shared->Prop) (s : Shared) : Prop:=(codeAny) (model pw w) A c R s
noncomputable abbrev zI (n t : Nat) : Value:=.int (.ofNat n) t
noncomputable abbrev zS (c : Value) (l : List Value) (n : Nat) : Obj:=⟨c,none,.seq ⟨l⟩ n,⟨[]⟩⟩
noncomputable abbrev zQ (c : Value) (l : List Value) : Obj:=⟨c,none,.seq ⟨l⟩ (nat_lit 0),⟨[]⟩⟩
noncomputable abbrev zW (c : Value) : Obj:=⟨c,none,.seq ⟨[]⟩ (nat_lit 0),⟨[]⟩⟩
noncomputable abbrev zF (c : Value) (l : List Value) : Obj:=⟨c,none,.fields ⟨l⟩,⟨[]⟩⟩
noncomputable abbrev zN : Obj:=⟨.none,none,.fields ⟨[]⟩,⟨[]⟩⟩
noncomputable abbrev zD (c : Value) (l : List DictEntry) (n : Nat) : Obj:=⟨c,none,.dict ⟨l⟩ n,⟨[]⟩⟩
noncomputable abbrev zE (P : Params) (x : Str) (t : Tok) (y : Str) (u : Tok) : DictEntry:=en P x t (.str y u)
noncomputable abbrev zB (id : String) (l : List Value) : Code:=.call (.builtin id) ⟨l,[]⟩
noncomputable abbrev zR (a : Addr) (l : List Value) : Code:=.call (.ref a) ⟨l,[]⟩
noncomputable abbrev zV (st : Stmt) (a b : Str) : Obj:=⟨.none,none,.func (fd st a b (nat_lit 0) [] .none .none .none .none none .none .none (nat_lit 0)),⟨[]⟩⟩
noncomputable abbrev zk (o : Obj) (l r : BT) : BT:=.node o l r
noncomputable abbrev zl (o : Obj) : BT:=.node o .nil .nil
noncomputable abbrev zt0 : Value:=.type SL.s14018661285674007319x4
noncomputable abbrev zt1 : Value:=.type SL.s11695548795398191787x4
noncomputable abbrev zt2 : Value:=.type SL.s4156966113859768872x10
noncomputable abbrev zt3 : Value:=.type SL.s9501651726347032510x9
noncomputable abbrev zt4 : Value:=.type SL.s15722918466584999320x5
noncomputable abbrev zt5 : Value:=.type SL.s591115383303110208x11
noncomputable abbrev zt6 : Value:=.type SL.s15721156781594690315x7
noncomputable abbrev zt7 : Value:=.type SL.s14340494229221121180x9
noncomputable abbrev zt8 : Value:=.type SL.s13429844117177748173x6
noncomputable abbrev zt9 : Value:=.type SL.s16463266125957815391x5
noncomputable abbrev zt10 : Value:=.type SL.s4922535414793169389x9
noncomputable abbrev zt11 : Value:=.type SL.s8101838861749082086x8
noncomputable abbrev zt12 : Value:=.type SL.s7066276694103001551x3
noncomputable abbrev zt13 : Value:=.type SL.s9222952809800978799x4
noncomputable abbrev zt14 : Value:=.type SL.s462964344163437139x3
noncomputable abbrev zt15 : Value:=.type SL.s2742458400755230247x6
noncomputable abbrev zt16 : Value:=.type SL.s1438033511350832697x5
noncomputable abbrev zt17 : Value:=.type SL.s14365286008749172514x8
noncomputable abbrev zt18 : Value:=.type SL.s3642769012341782148x3
noncomputable abbrev zt19 : Value:=.type SL.s4674234679698826739x5
noncomputable abbrev zt20 : Value:=.type SL.s16656946322747308186x12
noncomputable abbrev zt21 : Value:=.type SL.s10796804682411823810x3
noncomputable abbrev zt22 : Value:=.type SL.s4290257624100764138x5
noncomputable abbrev zt23 : Value:=.type SL.s2766695959194262286x5
noncomputable abbrev zt24 : Value:=.type SL.s17162191345867700912x4
noncomputable abbrev zt25 : Value:=.type SL.s14339709457334898076x3
noncomputable abbrev zt26 : Value:=.type SL.s4278001404047624695x13
noncomputable abbrev zt27 : Value:=.type SL.s6585700554429387442x18
noncomputable abbrev zt28 : Value:=.type SL.s5946037652744460706x9
noncomputable abbrev zt29 : Value:=.type SL.s7410770068591931388x13
noncomputable abbrev zt30 : Value:=.type SL.s11817881795495490833x17
noncomputable abbrev zt31 : Value:=.type SL.s15679963881808890155x10
noncomputable abbrev zt32 : Value:=.type SL.s3871700062485845797x15
noncomputable abbrev zt33 : Value:=.type SL.s7689518266570723881x14
noncomputable abbrev zt34 : Value:=.type SL.s9001593270443806431x14
noncomputable abbrev zt35 : Value:=.type SL.s6882542574934516792x11
noncomputable abbrev zt36 : Value:=.type SL.s14403400214490484960x8
noncomputable abbrev zt37 : Value:=.type SL.s14457978657717015782x11
noncomputable abbrev zt38 : Value:=.type SL.s1753610191782819921x11
noncomputable abbrev zt39 : Value:=.type SL.s14119380538032626715x11
noncomputable abbrev zt40 : Value:=.type SL.s11437920000406562045x9
noncomputable abbrev zt41 : Value:=.type SL.s10852414792293593619x7
noncomputable abbrev zt42 : Value:=.type SL.s14816307405966870543x14
noncomputable abbrev zt43 : Value:=.type SL.s8682627914449686677x12
noncomputable abbrev zt44 : Value:=.type SL.s4428170145600203450x18
noncomputable abbrev zt45 : Value:=.type SL.s5991306692159431302x13
noncomputable abbrev zt46 : Value:=.type SL.s16067994140765818257x11
noncomputable abbrev zt47 : Value:=.type SL.s2327743974964600596x11
noncomputable abbrev zt48 : Value:=.type SL.s2804747833354056582x9
noncomputable abbrev zt49 : Value:=.type SL.s6070975301684473832x10
noncomputable abbrev zt50 : Value:=.type SL.s14270485950484850486x7
noncomputable abbrev zt51 : Value:=.type SL.s12041534306414923332x18
noncomputable abbrev zt52 : Value:=.type SL.s2531307568338490285x13
noncomputable abbrev zt53 : Value:=.type SL.s631175304937289666x17
noncomputable abbrev zt54 : Value:=.type SL.s5144983644357021410x12
noncomputable abbrev zt55 : Value:=.type SL.s18039099521571816885x18
noncomputable abbrev zt56 : Value:=.type SL.s6011586214260557989x15
noncomputable abbrev zt57 : Value:=.type SL.s5430567037509283100x13
noncomputable abbrev zt58 : Value:=.type SL.s8117915138073963741x13
noncomputable abbrev zt59 : Value:=.type SL.s3423317712779056401x25
noncomputable abbrev zt60 : Value:=.type SL.s2007317383269046180x15
noncomputable abbrev zt61 : Value:=.type SL.s17481586968713580700x14
noncomputable abbrev zt62 : Value:=.type SL.s2450899226349176912x13
noncomputable abbrev zt63 : Value:=.type SL.s16626165730633575011x14
noncomputable abbrev zt64 : Value:=.type SL.s14288496050688921416x11
noncomputable abbrev zt65 : Value:=.type SL.s5735081916595925998x15
noncomputable abbrev zt66 : Value:=.type SL.s3865607918536308442x17
noncomputable abbrev zt67 : Value:=.type SL.s13337502604062700212x15
noncomputable abbrev zt68 : Value:=.type SL.s13114017843053701147x15
noncomputable abbrev zt69 : Value:=.type SL.s17467278006356818441x17
noncomputable abbrev zt70 : Value:=.type SL.s17722149559621369488x16
noncomputable abbrev zt71 : Value:=.type SL.s7855274175708717672x17
noncomputable abbrev zt72 : Value:=.type SL.s13351283678309829046x18
noncomputable abbrev zt73 : Value:=.type SL.s6668348653404991179x15
noncomputable abbrev zt74 : Value:=.type SL.s12913350958174193794x18
noncomputable abbrev zt75 : Value:=.type SL.s16115879512475548326x12
noncomputable abbrev zt76 : Value:=.type SL.s15920661018069861047x16
noncomputable abbrev zt77 : Value:=.type SL.s10779130036587390575x21
noncomputable abbrev zt78 : Value:=.type SL.s7801419657504700863x10
noncomputable abbrev zt79 : Value:=.type SL.s1688129525768580628x8
noncomputable abbrev zt80 : Value:=.type SL.s1031832959479892071x19
noncomputable abbrev zt81 : Value:=.type SL.s8991790508128307865x19
noncomputable abbrev zt82 : Value:=.type SL.s14539662485746970245x23
noncomputable abbrev zt83 : Value:=.type SL.s11643622729373238714x14
noncomputable abbrev zt84 : Value:=.type SL.s3386828779285465597x17
noncomputable abbrev zt85 : Value:=.type SL.s13042696260734638735x12
noncomputable abbrev zt86 : Value:=.type SL.s18239426817015966623x15
noncomputable abbrev zt87 : Value:=.type SL.s1270395311379034370x22
noncomputable abbrev zt88 : Value:=.type SL.s10696252587037064777x22
noncomputable abbrev zt89 : Value:=.type SL.s7852717498200857586x20
noncomputable abbrev zt90 : Value:=.type SL.s6377248116197321094x8
noncomputable abbrev zt91 : Value:=.type SL.s3834378056692298002x18
noncomputable abbrev zt92 : Value:=.type SL.s17586630440231065808x18
noncomputable abbrev zt93 : Value:=.type SL.s15234114252648025395x21
noncomputable abbrev zt94 : Value:=.type SL.s8496462677383758984x14
noncomputable abbrev zt95 : Value:=.type SL.s5314052453082223887x17
noncomputable abbrev zt96 : Value:=.type SL.s6658869562736209489x6
noncomputable abbrev zt97 : Value:=.type SL.s5856160107412720595x4
noncomputable abbrev zt98 : Value:=.type SL.s658472552662922059x5
noncomputable abbrev zt99 : Value:=.type SL.s9278979716766391425x23
noncomputable abbrev zt100 : Value:=.type SL.s13209474081997913071x24
noncomputable abbrev zt101 : Value:=.type SL.s8302156878143849030x23
noncomputable abbrev zt102 : Value:=.type SL.s14755015743595814543x17
noncomputable abbrev zt103 : Value:=.type SL.s7174869446012820540x8
noncomputable abbrev zt104 : Value:=.type SL.s11030030927630378310x26
noncomputable abbrev zt105 : Value:=.type SL.s13500813778147066322x18
noncomputable abbrev zb0:="len"
noncomputable abbrev zb1:="int.__ge__"
noncomputable abbrev zb2:="int.__lt__"
noncomputable abbrev zb3:="str.__getitem__"
noncomputable abbrev zb4:="str.find"
noncomputable abbrev zb5:="str.__eq__"
noncomputable abbrev zb6:="str.__contains__"
noncomputable abbrev zb7:="tuple.__contains__"
noncomputable abbrev zb8:="str.__add__"
noncomputable abbrev zb9:="str.__ne__"
noncomputable abbrev zb10:="dict.__getitem__"
noncomputable abbrev zb11:="str.maketrans"
noncomputable abbrev zb12:="str.translate"
noncomputable abbrev zb13:="list.__init__"
noncomputable abbrev zb14:="list.append"
noncomputable abbrev zb15:="list.__contains__"
noncomputable abbrev zb16:="list.__getitem__"
noncomputable abbrev zb17:="list.__setitem__"
noncomputable abbrev zb18:="int.__mod__"
noncomputable abbrev zb19:="int.__floordiv__"
noncomputable abbrev zb20:="str.split"
noncomputable abbrev zb21:="str.join"
noncomputable abbrev zw:=zW zt23
noncomputable def a0:=s!"__name__"
noncomputable def a1:=s!"builtins"
noncomputable def a2:=s!"__doc__"
noncomputable def a3:=s!"__package__"
noncomputable def a4:=s!"__loader__"
noncomputable def a5:=s!"__spec__"
noncomputable def a6:=s!"__build_class__"
noncomputable def a7:=s!"__\x69mport__"
noncomputable def a8:=s!"abs"
noncomputable def a9:=s!"all"
noncomputable def a10:=s!"any"
noncomputable def a11:=s!"ascii"
noncomputable def a12:=s!"bin"
noncomputable def a13:=s!"breakpoint"
noncomputable def a14:=s!"callable"
noncomputable def a15:=s!"chr"
noncomputable def a16:=s!"compile"
noncomputable def a17:=s!"delattr"
noncomputable def a18:=s!"dir"
noncomputable def a19:=s!"divmod"
noncomputable def a20:=s!"eval"
noncomputable def a21:=s!"exec"
noncomputable def a22:=s!"format"
noncomputable def a23:=s!"getattr"
noncomputable def a24:=s!"globals"
noncomputable def a25:=s!"hasattr"
noncomputable def a26:=s!"hash"
noncomputable def a27:=s!"hex"
noncomputable def a28:=s!"id"
noncomputable def a29:=s!"input"
noncomputable def a30:=s!"isinstance"
noncomputable def a31:=s!"issubclass"
noncomputable def a32:=s!"iter"
noncomputable def a33:=s!"aiter"
noncomputable def a34:=s!"len"
noncomputable def a35:=s!"locals"
noncomputable def a36:=s!"max"
noncomputable def a37:=s!"min"
noncomputable def a38:=s!"next"
noncomputable def a39:=s!"anext"
noncomputable def a40:=s!"oct"
noncomputable def a41:=s!"ord"
noncomputable def a42:=s!"pow"
noncomputable def a43:=s!"print"
noncomputable def a44:=s!"repr"
noncomputable def a45:=s!"round"
noncomputable def a46:=s!"setattr"
noncomputable def a47:=s!"sorted"
noncomputable def a48:=s!"sum"
noncomputable def a49:=s!"vars"
noncomputable def a50:=s!"None"
noncomputable def a51:=s!"Ellipsis"
noncomputable def a52:=s!"NotImplemented"
noncomputable def a53:=s!"False"
noncomputable def a54:=s!"True"
noncomputable def a55:=s!"bool"
noncomputable def a56:=s!"memoryview"
noncomputable def a57:=s!"bytearray"
noncomputable def a58:=s!"bytes"
noncomputable def a59:=s!"classmethod"
noncomputable def a60:=s!"complex"
noncomputable def a61:=s!"dict"
noncomputable def a62:=s!"enumerate"
noncomputable def a63:=s!"filter"
noncomputable def a64:=s!"float"
noncomputable def a65:=s!"frozenset"
noncomputable def a66:=s!"property"
noncomputable def a67:=s!"int"
noncomputable def a68:=s!"list"
noncomputable def a69:=s!"map"
noncomputable def a70:=s!"object"
noncomputable def a71:=s!"range"
noncomputable def a72:=s!"reversed"
noncomputable def a73:=s!"set"
noncomputable def a74:=s!"slice"
noncomputable def a75:=s!"staticmethod"
noncomputable def a76:=s!"str"
noncomputable def a77:=s!"super"
noncomputable def a78:=s!"tuple"
noncomputable def a79:=s!"type"
noncomputable def a80:=s!"zip"
noncomputable def a81:=s!"__debug__"
noncomputable def a82:=s!"BaseException"
noncomputable def a83:=s!"BaseExceptionGroup"
noncomputable def a84:=s!"Exception"
noncomputable def a85:=s!"GeneratorExit"
noncomputable def a86:=s!"KeyboardInterrupt"
noncomputable def a87:=s!"SystemExit"
noncomputable def a88:=s!"ArithmeticError"
noncomputable def a89:=s!"AssertionError"
noncomputable def a90:=s!"AttributeError"
noncomputable def a91:=s!"BufferError"
noncomputable def a92:=s!"EOFError"
noncomputable def a93:=s!"ImportError"
noncomputable def a94:=s!"LookupError"
noncomputable def a95:=s!"MemoryError"
noncomputable def a96:=s!"NameError"
noncomputable def a97:=s!"OSError"
noncomputable def a98:=s!"ReferenceError"
noncomputable def a99:=s!"RuntimeError"
noncomputable def a100:=s!"StopAsyncIteration"
noncomputable def a101:=s!"StopIteration"
noncomputable def a102:=s!"SyntaxError"
noncomputable def a103:=s!"SystemError"
noncomputable def a104:=s!"TypeError"
noncomputable def a105:=s!"ValueError"
noncomputable def a106:=s!"Warning"
noncomputable def a107:=s!"FloatingPointError"
noncomputable def a108:=s!"OverflowError"
noncomputable def a109:=s!"ZeroDivisionError"
noncomputable def a110:=s!"BytesWarning"
noncomputable def a111:=s!"DeprecationWarning"
noncomputable def a112:=s!"EncodingWarning"
noncomputable def a113:=s!"FutureWarning"
noncomputable def a114:=s!"ImportWarning"
noncomputable def a115:=s!"PendingDeprecationWarning"
noncomputable def a116:=s!"ResourceWarning"
noncomputable def a117:=s!"RuntimeWarning"
noncomputable def a118:=s!"SyntaxWarning"
noncomputable def a119:=s!"UnicodeWarning"
noncomputable def a120:=s!"UserWarning"
noncomputable def a121:=s!"BlockingIOError"
noncomputable def a122:=s!"ChildProcessError"
noncomputable def a123:=s!"ConnectionError"
noncomputable def a124:=s!"FileExistsError"
noncomputable def a125:=s!"FileNotFoundError"
noncomputable def a126:=s!"InterruptedError"
noncomputable def a127:=s!"IsADirectoryError"
noncomputable def a128:=s!"NotADirectoryError"
noncomputable def a129:=s!"PermissionError"
noncomputable def a130:=s!"ProcessLookupError"
noncomputable def a131:=s!"TimeoutError"
noncomputable def a132:=s!"IndentationError"
noncomputable def a133:=s!"_IncompleteInputError"
noncomputable def a134:=s!"IndexError"
noncomputable def a135:=s!"KeyError"
noncomputable def a136:=s!"ModuleNotFoundError"
noncomputable def a137:=s!"NotImplementedError"
noncomputable def a138:=s!"PythonFinalizationError"
noncomputable def a139:=s!"RecursionError"
noncomputable def a140:=s!"UnboundLocalError"
noncomputable def a141:=s!"UnicodeError"
noncomputable def a142:=s!"BrokenPipeError"
noncomputable def a143:=s!"ConnectionAbortedError"
noncomputable def a144:=s!"ConnectionRefusedError"
noncomputable def a145:=s!"ConnectionResetError"
noncomputable def a146:=s!"TabError"
noncomputable def a147:=s!"UnicodeDecodeError"
noncomputable def a148:=s!"UnicodeEncodeError"
noncomputable def a149:=s!"UnicodeTranslateError"
noncomputable def a150:=s!"ExceptionGroup"
noncomputable def a151:=s!"EnvironmentError"
noncomputable def a152:=s!"IOError"
noncomputable def a153:=s!"open"
noncomputable def a154:=s!"quit"
noncomputable def a155:=s!"exit"
noncomputable def a156:=s!"copyright"
noncomputable def a157:=s!"credits"
noncomputable def a158:=s!"license"
noncomputable def a159:=s!"help"
noncomputable def a160:=s!"__main__"
noncomputable def a161:=s!"_collections"
noncomputable def a162:=s!"\x69mport.loaded._collections"
noncomputable def a163:=s!"class._frozen_\x69mportlib.BuiltinImporter"
noncomputable def a164:=s!"watched.\x69mport"
noncomputable def a165:=s!"class._frozen_\x69mportlib.ModuleSpec"
noncomputable def a166:=s!"sys.modules.booked-epoch"
noncomputable def a167:=s!"sys.modules.landed._collections"
noncomputable def a168:=s!"\x69mport.later-laid._collections"
noncomputable def a169:=s!"watched.library"
noncomputable def a170:=s!"watched.library-objects"
noncomputable def a171:=s!"\r"
noncomputable def a172:=s!"watched.library-deep._collections"
noncomputable def a173:=s!"\x04\x00\x00\x0c\x04\x00\x00\x0c\x04\x00\x00\x03\x04\x00\x00\x0c\x08\x04dict\x02"
noncomputable def a174:=s!"__annotations__"
noncomputable def a175:=s!"__builtins__"
noncomputable def a176:=s!"__file__"
noncomputable def a177:=s!"/claim/cut.py"
noncomputable def a178:=s!"__cached__"
noncomputable def a179:=s!"deque"
noncomputable def a180:=s!"<module>"
noncomputable def a181 : Str:=⟨⟨[]⟩⟩
noncomputable def a182:=s!"_count_elements"
noncomputable def a183:=s!"defaultdict"
noncomputable def a184:=s!"_deque_iterator"
noncomputable def a185:=s!"_deque_reverse_iterator"
noncomputable def a186:=s!"_tuplegetter"
noncomputable def a187:=s!"OrderedDict"
noncomputable def a188:=s!"__module__"
noncomputable def a189:=s!"_frozen_\x69mportlib"
noncomputable def a190:=s!"__firstlineno__"
noncomputable def a191:=s!"_ORIGIN"
noncomputable def a192:=s!"built-in"
noncomputable def a193:=s!"find_spec"
noncomputable def a194:=s!"create_module"
noncomputable def a195:=s!"exec_module"
noncomputable def a196:=s!"get_code"
noncomputable def a197:=s!"get_source"
noncomputable def a198:=s!"is_package"
noncomputable def a199:=s!"load_module"
noncomputable def a200:=s!"__static_attributes__"
noncomputable def a201:=s!"__dict__"
noncomputable def a202:=s!"__weakref__"
noncomputable def a203:=s!"BuiltinImporter"
noncomputable def a204:=s!"\x06¿\n__module__\x06¼\x11_frozen_\x69mportlib\x06À\x0f__firstlineno__\x04½\x00\u03cb\x06Á\x07__doc__\t4_frozen_\x69mportlib.BuiltinImporter.__doc__:str#opaque\x06Â\x07_ORIGIN\x06¾\x08built-in\x06Ã\tfind_spec\t2_frozen_\x69mportlib.BuiltinImporter.find_spec#opaque\x06Ä\rcreate_module\t6_frozen_\x69mportlib.BuiltinImporter.create_module#opaque\x06Å\x0bexec_module\t4_frozen_\x69mportlib.BuiltinImporter.exec_module#opaque\x06Æ\x08get_code\t1_frozen_\x69mportlib.BuiltinImporter.get_code#opaque\x06Ç\nget_source\t3_frozen_\x69mportlib.BuiltinImporter.get_source#opaque\x06È\nis_package\t3_frozen_\x69mportlib.BuiltinImporter.is_package#opaque\x06É\x0bload_module\t4_frozen_\x69mportlib.BuiltinImporter.load_module#opaque\x06Ê\x15__static_attributes__\x04\x00\x00\x10\x06Ì\x08__dict__\x04\x00\x00\x11\x06Î\x0b__weakref__\x04\x00\x00\x12"
noncomputable def a205:=s!"\x06å\n__module__\x06Û\x11_frozen_\x69mportlib\x06æ\x0f__firstlineno__\x04Ü\x00Ȳ\x06ç\x07__doc__\t/_frozen_\x69mportlib.ModuleSpec.__doc__:str#opaque\x06è\x08__init__\t,_frozen_\x69mportlib.ModuleSpec.__init__#opaque\x06é\x08__repr__\t,_frozen_\x69mportlib.ModuleSpec.__repr__#opaque\x06ê\x06__eq__\t*_frozen_\x69mportlib.ModuleSpec.__eq__#opaque\x06ë\x06cached\t*_frozen_\x69mportlib.ModuleSpec.cached#opaque\x06ì\x06parent\t*_frozen_\x69mportlib.ModuleSpec.parent#opaque\x06í\x0chas_location\t0_frozen_\x69mportlib.ModuleSpec.has_location#opaque\x06î\x15__static_attributes__\x04\x00\x00\x18\x06ð\x08__dict__\x04\x00\x00\x19\x06ò\x0b__weakref__\x04\x00\x00\x1a\x06ó\x08__hash__\x00"
noncomputable def a206:=s!"name"
noncomputable def a207:=s!"loader"
noncomputable def a208:=s!"origin"
noncomputable def a209:=s!"loader_state"
noncomputable def a210:=s!"submodule_search_locations"
noncomputable def a211:=s!"_uninitialized_submodules"
noncomputable def a212:=s!"_set_fileattr"
noncomputable def a213:=s!"_cached"
noncomputable def a214:=s!"_initializing"
noncomputable def a215:=s!"__init__"
noncomputable def a216:=s!"__repr__"
noncomputable def a217:=s!"__eq__"
noncomputable def a218:=s!"cached"
noncomputable def a219:=s!"parent"
noncomputable def a220:=s!"has_location"
noncomputable def a221:=s!"__hash__"
noncomputable def a222:=s!"ModuleSpec"
noncomputable def a223:=s!"\x06ú\x08__name__\x06ù\x0c_collections\x06û\x07__doc__\t\x1f_collections.__doc__:str#opaque\x06ý\x0b__package__\x06ü\x00\x06þ\n__loader__\x04\x00\x00\x0f\x06ÿ\x08__spec__\x04\x00\x00\x1b\x06Ā\x0f_count_elements\t\x1c_collections._count_elements\x06ā\x05deque\x08\x11collections.deque\x06Ă\x0bdefaultdict\x08\x17collections.defaultdict\x06ă\x0f_deque_iterator\x08\x1bcollections._deque_iterator\x06Ą\x17_deque_reverse_iterator\x08#collections._deque_reverse_iterator\x06ą\x0c_tuplegetter\x08\x18collections._tuplegetter\x06Ć\x0bOrderedDict\x08\x17collections.OrderedDict"
noncomputable def a224:=s!"type.__subclasses__.OSError.0"
noncomputable def a225:=s!"type.__subclasses__.OSError.n"
noncomputable def a226:=s!"law_ox0105_01"
noncomputable def a227:=s!"_wall"
noncomputable def a228:=s!"replace"
noncomputable def a229:=s!"_whence"
noncomputable def a230:=s!"_index"
noncomputable def a231:=s!"UnsupportedOperation"
noncomputable def a232:=s!"IOBase"
noncomputable def a233:=s!"BufferedIOBase"
noncomputable def a234:=s!"TextIOBase"
noncomputable def a235:=s!"BytesIO"
noncomputable def a236:=s!"StringIO"
noncomputable def a237:=s!"_kind"
noncomputable def a238:=s!"_fspath"
noncomputable def a239:=s!"_check_arg_types"
noncomputable def a240:=s!"isabs"
noncomputable def a241:=s!"join"
noncomputable def a242:=s!"dirname"
noncomputable def a243:=s!"shlex"
noncomputable def a244:=s!"split"
noncomputable def a245:=s!"_law_sign"
noncomputable def a246:=s!"_law_parts"
noncomputable def a247:=s!"_law_of_lexer"
noncomputable def a248:=s!"_law_of_split"
noncomputable def a249:=s!"_law_lexed"
noncomputable def a250:=s!"_law_split"
noncomputable def a251:=s!"law"
noncomputable def a252:=s!"k"
noncomputable def a253:=s!"text"
noncomputable def a254:=s!"pairs"
noncomputable def a255:=s!"cpy313.pydoc"
noncomputable def a256:=s!"n"
noncomputable def a257:=s!"what"
noncomputable def a258:=s!"io"
noncomputable def a259:=s!"__qualname__"
noncomputable def a260:=s!"__new__"
noncomputable def a261:=s!"cls"
noncomputable def a262:=s!"args"
noncomputable def a263:=s!"kwargs"
noncomputable def a264:=s!"IOBase.__new__"
noncomputable def a265:=s!"_io"
noncomputable def a266:=s!"_BytesIO__check"
noncomputable def a267:=s!"_BytesIO__line"
noncomputable def a268:=s!"closed"
noncomputable def a269:=s!"close"
noncomputable def a270:=s!"__enter__"
noncomputable def a271:=s!"__exit__"
noncomputable def a272:=s!"readable"
noncomputable def a273:=s!"writable"
noncomputable def a274:=s!"seekable"
noncomputable def a275:=s!"isatty"
noncomputable def a276:=s!"flush"
noncomputable def a277:=s!"fileno"
noncomputable def a278:=s!"detach"
noncomputable def a279:=s!"getvalue"
noncomputable def a280:=s!"getbuffer"
noncomputable def a281:=s!"tell"
noncomputable def a282:=s!"seek"
noncomputable def a283:=s!"truncate"
noncomputable def a284:=s!"read"
noncomputable def a285:=s!"read1"
noncomputable def a286:=s!"readinto"
noncomputable def a287:=s!"readinto1"
noncomputable def a288:=s!"readline"
noncomputable def a289:=s!"readlines"
noncomputable def a290:=s!"__iter__"
noncomputable def a291:=s!"__next__"
noncomputable def a292:=s!"write"
noncomputable def a293:=s!"writelines"
noncomputable def a294:=s!"self"
noncomputable def a295:=s!"initial_bytes"
noncomputable def a296:=s!"BytesIO.__init__"
noncomputable def a297:=s!"__check"
noncomputable def a298:=s!"BytesIO.__check"
noncomputable def a299:=s!"limit"
noncomputable def a300:=s!"start"
noncomputable def a301:=s!"stop"
noncomputable def a302:=s!"i"
noncomputable def a303:=s!"__line"
noncomputable def a304:=s!"BytesIO.__line"
noncomputable def a305:=s!"BytesIO.closed"
noncomputable def a306:=s!"BytesIO.close"
noncomputable def a307:=s!"BytesIO.__enter__"
noncomputable def a308:=s!"BytesIO.__exit__"
noncomputable def a309:=s!"BytesIO.readable"
noncomputable def a310:=s!"BytesIO.writable"
noncomputable def a311:=s!"BytesIO.seekable"
noncomputable def a312:=s!"BytesIO.isatty"
noncomputable def a313:=s!"BytesIO.flush"
noncomputable def a314:=s!"BytesIO.fileno"
noncomputable def a315:=s!"BytesIO.detach"
noncomputable def a316:=s!"BytesIO.getvalue"
noncomputable def a317:=s!"BytesIO.getbuffer"
noncomputable def a318:=s!"BytesIO.tell"
noncomputable def a319:=s!"pos"
noncomputable def a320:=s!"whence"
noncomputable def a321:=s!"BytesIO.seek"
noncomputable def a322:=s!"size"
noncomputable def a323:=s!"BytesIO.truncate"
noncomputable def a324:=s!"BytesIO.read"
noncomputable def a325:=s!"BytesIO.read1"
noncomputable def a326:=s!"buffer"
noncomputable def a327:=s!"BytesIO.readinto"
noncomputable def a328:=s!"BytesIO.readinto1"
noncomputable def a329:=s!"BytesIO.readline"
noncomputable def a330:=s!"BytesIO.readlines"
noncomputable def a331:=s!"BytesIO.__iter__"
noncomputable def a332:=s!"line"
noncomputable def a333:=s!"BytesIO.__next__"
noncomputable def a334:=s!"b"
noncomputable def a335:=s!"BytesIO.write"
noncomputable def a336:=s!"lines"
noncomputable def a337:=s!"BytesIO.writelines"
noncomputable def a338:=s!"BytesIO.__repr__"
noncomputable def a339:=s!"__buf"
noncomputable def a340:=s!"__pos"
noncomputable def a341:=s!"_StringIO__translated"
noncomputable def a342:=s!"_StringIO__check"
noncomputable def a343:=s!"_StringIO__check_dot"
noncomputable def a344:=s!"_StringIO__line"
noncomputable def a345:=s!"line_buffering"
noncomputable def a346:=s!"newlines"
noncomputable def a347:=s!"encoding"
noncomputable def a348:=s!"errors"
noncomputable def a349:=s!"\n"
noncomputable def a350:=s!"initial_value"
noncomputable def a351:=s!"newline"
noncomputable def a352:=s!"StringIO.__init__"
noncomputable def a353:=s!"s"
noncomputable def a354:=s!"__translated"
noncomputable def a355:=s!"StringIO.__translated"
noncomputable def a356:=s!"StringIO.__check"
noncomputable def a357:=s!"__check_dot"
noncomputable def a358:=s!"StringIO.__check_dot"
noncomputable def a359:=s!"cut"
noncomputable def a360:=s!"j"
noncomputable def a361:=s!"end"
noncomputable def a362:=s!"StringIO.__line"
noncomputable def a363:=s!"StringIO.closed"
noncomputable def a364:=s!"StringIO.line_buffering"
noncomputable def a365:=s!"StringIO.newlines"
noncomputable def a366:=s!"StringIO.encoding"
noncomputable def a367:=s!"StringIO.errors"
noncomputable def a368:=s!"StringIO.close"
noncomputable def a369:=s!"StringIO.__enter__"
noncomputable def a370:=s!"StringIO.__exit__"
noncomputable def a371:=s!"StringIO.readable"
noncomputable def a372:=s!"StringIO.writable"
noncomputable def a373:=s!"StringIO.seekable"
noncomputable def a374:=s!"StringIO.isatty"
noncomputable def a375:=s!"StringIO.flush"
noncomputable def a376:=s!"StringIO.fileno"
noncomputable def a377:=s!"StringIO.detach"
noncomputable def a378:=s!"StringIO.getvalue"
noncomputable def a379:=s!"StringIO.tell"
noncomputable def a380:=s!"StringIO.seek"
noncomputable def a381:=s!"StringIO.truncate"
noncomputable def a382:=s!"StringIO.read"
noncomputable def a383:=s!"StringIO.readline"
noncomputable def a384:=s!"hint"
noncomputable def a385:=s!"StringIO.readlines"
noncomputable def a386:=s!"StringIO.__iter__"
noncomputable def a387:=s!"StringIO.__next__"
noncomputable def a388:=s!"m"
noncomputable def a389:=s!"buf"
noncomputable def a390:=s!"StringIO.write"
noncomputable def a391:=s!"StringIO.writelines"
noncomputable def a392:=s!"StringIO.__repr__"
noncomputable def a393:=s!"__newline"
noncomputable def a394:=s!"x"
noncomputable def a395:=s!"t"
noncomputable def a396:=s!"os.path"
noncomputable def a397:=s!"funcname"
noncomputable def a398:=s!"a"
noncomputable def a399:=s!"p"
noncomputable def a400:=s!"sep"
noncomputable def a401:=s!"path"
noncomputable def a402:=s!"head"
noncomputable def a403:=s!"cpy313.shlex"
noncomputable def a404:=s!"punctuation_chars"
noncomputable def a405:=s!"push_token"
noncomputable def a406:=s!"push_source"
noncomputable def a407:=s!"pop_source"
noncomputable def a408:=s!"get_token"
noncomputable def a409:=s!"read_token"
noncomputable def a410:=s!"sourcehook"
noncomputable def a411:=s!"error_leader"
noncomputable def a412:=s!"instream"
noncomputable def a413:=s!"infile"
noncomputable def a414:=s!"posix"
noncomputable def a415:=s!"shlex.__init__"
noncomputable def a416:=s!"shlex.punctuation_chars"
noncomputable def a417:=s!"tok"
noncomputable def a418:=s!"shlex.push_token"
noncomputable def a419:=s!"newstream"
noncomputable def a420:=s!"newfile"
noncomputable def a421:=s!"shlex.push_source"
noncomputable def a422:=s!"shlex.pop_source"
noncomputable def a423:=s!"raw"
noncomputable def a424:=s!"spec"
noncomputable def a425:=s!"shlex.get_token"
noncomputable def a426:=s!"quoted"
noncomputable def a427:=s!"escapedstate"
noncomputable def a428:=s!"nextchar"
noncomputable def a429:=s!"result"
noncomputable def a430:=s!"shlex.read_token"
noncomputable def a431:=s!"shlex.sourcehook"
noncomputable def a432:=s!"lineno"
noncomputable def a433:=s!"shlex.error_leader"
noncomputable def a434:=s!"shlex.__iter__"
noncomputable def a435:=s!"token"
noncomputable def a436:=s!"shlex.__next__"
noncomputable def a437:=s!"_punctuation_chars"
noncomputable def a438:=s!"_pushback_chars"
noncomputable def a439:=s!"commenters"
noncomputable def a440:=s!"debug"
noncomputable def a441:=s!"eof"
noncomputable def a442:=s!"escape"
noncomputable def a443:=s!"escapedquotes"
noncomputable def a444:=s!"filestack"
noncomputable def a445:=s!"pushback"
noncomputable def a446:=s!"quotes"
noncomputable def a447:=s!"source"
noncomputable def a448:=s!"state"
noncomputable def a449:=s!"whitespace"
noncomputable def a450:=s!"whitespace_split"
noncomputable def a451:=s!"wordchars"
noncomputable def a452:=s!"comments"
noncomputable def a453:=s!"lex"
noncomputable def a454:=s!"kind"
noncomputable def a455:=s!"parts"
noncomputable def a456:=s!"place"
noncomputable def a457:=s!"sign"
noncomputable def a458:=s!"tokens"
noncomputable def a459:=s!"last"
noncomputable def a460:=s!"role"
noncomputable def a461:=s!"group"
noncomputable def a462:=s!"words"
noncomputable def a463:=s!"begun"
noncomputable def a464:=s!"operator"
noncomputable def a465:=s!"fault"
noncomputable def zC (c : Value) (a b : Str) (t m l i j k h R : Nat) (d : Bool) (r : List Value) : Obj:=zF c (.str a t :: .str b (t + 1) :: .str a177 (t + 2) :: zI l 0 :: zI i 0 :: zI 0 0 :: zI j 0 :: zI k 0 :: .ref R :: .bool d :: zI h 0 :: .ref (R + 1) :: (r ++ [zI m 0,zI l 0,.str a177 (m + 1)]))
noncomputable def zU (c : Value) (st : Stmt) (a b : Str) (v : Value) (R : Nat) : Obj:=⟨c,none,.func (fd st a b (nat_lit 3) [] v .none .none (.str a258 296) none (.ref R) .none (nat_lit 0)),⟨[]⟩⟩
variable (P : Params)
local macro_rules (kind:=num)
 | `($n:num)=>`(nat_lit $n)
def o0:=zD zt0 [zE P a0 1 a1 160,en P a2 2 (.builtin "builtins.__doc__:str#opaque"),en P a3 3 (.builtin "builtins.__package__:str#opaque"),en P a4 4 (.builtin "builtins.__loader__:shared#opaque"),en P a5 5 (.builtin SL.s11665532747177232413x24),en P a6 6 (.builtin SL.s15183661809925369436x15),en P a7 7 (.builtin SL.s13915890719876406383x10),en P a8 8 (.builtin SL.s13459172003223722735x3),en P a9 9 (.builtin SL.s10557405761357834076x3),en P a10 10 (.builtin SL.s4233737765568776869x3),en P a11 11 (.builtin SL.s2508922471967985374x5),en P a12 12 (.builtin SL.s15574269061696679450x3),en P a13 13 (.builtin SL.s6016482663378992977x10),en P a14 14 (.builtin SL.s5596568736180474577x8),en P a15 15 (.builtin SL.s2839554839881490554x3),en P a16 16 (.builtin SL.s725004073602090463x7),en P a17 17 (.builtin SL.s9436932552931045734x7),en P a18 18 (.builtin SL.s2754603736356183583x3),en P a19 19 (.builtin SL.s15185746759980889043x6),en P a20 20 (.builtin SL.s8192189862530294059x4),en P a21 21 (.builtin SL.s7038307821325472102x4),en P a22 22 (.builtin SL.s5662562618415449548x6),en P a23 23 (.builtin SL.s15281542589158584767x7),en P a24 24 (.builtin SL.s17651547275483570877x7),en P a25 25 (.builtin SL.s4036449017235975746x7),en P a26 26 (.builtin SL.s8879979712987360175x4),en P a27 27 (.builtin SL.s1801250619170735830x3),en P a28 28 (.builtin SL.s17659931425627118568x2),en P a29 29 (.builtin SL.s6063217899685152688x5),en P a30 30 (.builtin SL.s8008927332132565319x10),en P a31 31 (.builtin SL.s3544116645089599534x10),en P a32 32 (.builtin SL.s13761710972054866084x4),en P a33 33 (.builtin SL.s12896375587409280029x5),en P a34 34 (.builtin SL.s13014049009108672802x3),en P a35 35 (.builtin SL.s13935586738268321596x6),en P a36 36 (.builtin SL.s8200498257699607233x3),en P a37 37 (.builtin SL.s14114244577727609259x3),en P a38 38 (.builtin SL.s1499430450269397089x4),en P a39 39 (.builtin SL.s8755793994789770505x5),en P a40 40 (.builtin SL.s15725212667919936108x3),en P a41 41 (.builtin SL.s15791221867095933363x3),en P a42 42 (.builtin SL.s81309575031448614x3),en P a43 43 (.builtin SL.s8069831620301644142x5),en P a44 44 (.builtin SL.s10061844253413749634x4),en P a45 45 (.builtin SL.s9496514870978017513x5),en P a46 46 (.builtin SL.s8899691144933366716x7),en P a47 47 (.builtin SL.s15201008993051130160x6),en P a48 48 (.builtin SL.s741896355592496720x3),en P a49 49 (.builtin SL.s17925004256654032244x4),en P a50 50 .none,en P a51 51 .ellipsis,en P a52 52 .notImplemented,en P a53 53 (.bool false),en P a54 54 (.bool true),en P a55 55 zt1,en P a56 56 zt2,en P a57 57 zt3,en P a58 58 zt4,en P a59 59 zt5,en P a60 60 zt6,en P a61 61 zt0,en P a62 62 zt7,en P a63 63 zt8,en P a64 64 zt9,en P a65 65 zt10,en P a66 66 zt11,en P a67 67 zt12,en P a68 68 zt13,en P a69 69 zt14,en P a70 70 zt15,en P a71 71 zt16,en P a72 72 zt17,en P a73 73 zt18,en P a74 74 zt19,en P a75 75 zt20,en P a76 76 zt21,en P a77 77 zt22,en P a78 78 zt23,en P a79 79 zt24,en P a80 80 zt25,en P a81 81 (.bool true),en P a82 82 zt26,en P a83 83 zt27,en P a84 84 zt28,en P a85 85 zt29,en P a86 86 zt30,en P a87 87 zt31,en P a88 88 zt32,en P a89 89 zt33,en P a90 90 zt34,en P a91 91 zt35,en P a92 92 zt36,en P a93 93 zt37,en P a94 94 zt38,en P a95 95 zt39,en P a96 96 zt40,en P a97 97 zt41,en P a98 98 zt42,en P a99 99 zt43,en P a100 100 zt44,en P a101 101 zt45,en P a102 102 zt46,en P a103 103 zt47,en P a104 104 zt48,en P a105 105 zt49,en P a106 106 zt50,en P a107 107 zt51,en P a108 108 zt52,en P a109 109 zt53,en P a110 110 zt54,en P a111 111 zt55,en P a112 112 zt56,en P a113 113 zt57,en P a114 114 zt58,en P a115 115 zt59,en P a116 116 zt60,en P a117 117 zt61,en P a118 118 zt62,en P a119 119 zt63,en P a120 120 zt64,en P a121 121 zt65,en P a122 122 zt66,en P a123 123 zt67,en P a124 124 zt68,en P a125 125 zt69,en P a126 126 zt70,en P a127 127 zt71,en P a128 128 zt72,en P a129 129 zt73,en P a130 130 zt74,en P a131 131 zt75,en P a132 132 zt76,en P a133 133 zt77,en P a134 134 zt78,en P a135 135 zt79,en P a136 136 zt80,en P a137 137 zt81,en P a138 138 zt82,en P a139 139 zt83,en P a140 140 zt84,en P a141 141 zt85,en P a142 142 zt86,en P a143 143 zt87,en P a144 144 zt88,en P a145 145 zt89,en P a146 146 zt90,en P a147 147 zt91,en P a148 148 zt92,en P a149 149 zt93,en P a150 150 zt94,en P a151 151 zt41,en P a152 152 zt41,en P a153 153 (.builtin SL.s16789243406116112673x4),en P a154 154 (.builtin SL.s14400166428656793546x20),en P a155 155 (.builtin SL.s5857708277339239366x20),en P a156 156 (.builtin "builtins.copyright#opaque"),en P a157 157 (.builtin "builtins.credits#opaque"),en P a158 158 (.builtin "builtins.license#opaque"),en P a159 159 (.builtin SL.s7804999707787243718x20)] 159
def o1:=zD zt0 [en P a1 162 (.ref 4),en P a160 163 (.ref 5),en P a161 246 (.ref 13)] 3
def o2:=zD .none [en P a162 185 (.bool true),en P a163 187 (.ref 15),en P a164 208 (.ref 19),en P a165 218 (.ref 23),en P a166 247 (zI 3 0),en P a167 248 (.bool true),en P a168 263 (.bool true),en P a169 265 (.ref 28),zE P a170 0 a171 0,zE P a172 266 a173 0,en P a224 332 (zI 70 0),en P a225 333 (zI 1 0)] 12
def o3:=zD zt0 [zE P a0 165 a226 1162,en P a2 166 .none,en P a3 167 .none,en P a4 168 (.builtin SL.s7097527257260152453x26),en P a5 169 .none,en P a174 170 (.ref 6),en P a175 171 (.ref 4),zE P a176 173 a177 172,en P a178 174 .none,en P a179 272 zt95,en P a227 285 (.ref 39),en P a228 295 (.ref 46),en P a229 305 (.ref 53),en P a230 313 (.ref 60),en P a231 335 (.ref 70),en P a232 367 (.ref 90),en P a233 385 (.ref 105),en P a234 403 (.ref 117),en P a235 665 (.ref 347),en P a236 952 (.ref 594),en P a237 963 (.ref 603),en P a238 972 (.ref 610),en P a239 982 (.ref 617),en P a240 989 (.ref 624),en P a241 1000 (.ref 631),en P a242 1010 (.ref 638),en P a243 1151 (.ref 729),en P a244 1161 (.ref 741),en P a245 1171 (.ref 748),en P a246 1181 (.ref 755),en P a247 1193 (.ref 762),en P a248 1205 (.ref 769),en P a249 1213 (.ref 776),en P a250 1221 (.ref 783),en P a251 1227 (.ref 788)] 35
def o4 : Obj:=⟨zt96,(some 0),.plain,⟨[]⟩⟩
def o5 : Obj:=⟨zt96,(some 3),.plain,⟨[]⟩⟩
def o6:=zD zt0 [] 0
def o9:=zC zt97 a180 a180 176 179 1 0 0 0 175 7 false [.none,.none,.none,.none]
def o10 : Obj:=⟨zt98,none,.plain,⟨[some (.ref 9),some (.ref 3),some (.ref 3),none,some (.str a160 164),none,some (.ref 0)]⟩⟩
def o11:=zQ zt23 [(.str a179 182)]
def o12:=zD zt0 [zE P a0 250 a161 249,en P a2 251 (.builtin "off-the-table:_collections.__doc__:shared#opaque"),zE P a3 253 a181 252,en P a4 254 (.builtin "off-the-table:_collections.__loader__:shared#opaque"),en P a5 255 (.builtin "off-the-table:_collections.__spec__:shared#opaque"),en P a182 256 (.builtin SL.s5957113450721151568x28),en P a179 257 zt95,en P a183 258 zt99,en P a184 259 (.builtin "off-the-table:_collections._deque_iterator:shared#opaque"),en P a185 260 (.builtin "off-the-table:_collections._deque_reverse_iterator:shared#opaque"),en P a186 261 zt100,en P a187 262 zt101] 12
def o13 : Obj:=⟨zt96,(some 12),.plain,⟨[]⟩⟩
def o14:=zD zt0 [zE P a188 191 a189 188,en P a190 192 (zI 971 189),en P a2 193 (.builtin "_frozen_importlib.BuiltinImporter.__doc__:str#opaque"),zE P a191 194 a192 190,en P a193 195 (.builtin "_frozen_importlib.BuiltinImporter.find_spec#opaque"),en P a194 196 (.builtin "_frozen_importlib.BuiltinImporter.create_module#opaque"),en P a195 197 (.builtin "_frozen_importlib.BuiltinImporter.exec_module#opaque"),en P a196 198 (.builtin "_frozen_importlib.BuiltinImporter.get_code#opaque"),en P a197 199 (.builtin "_frozen_importlib.BuiltinImporter.get_source#opaque"),en P a198 200 (.builtin "_frozen_importlib.BuiltinImporter.is_package#opaque"),en P a199 201 (.builtin "_frozen_importlib.BuiltinImporter.load_module#opaque"),en P a200 202 (.ref 16),en P a201 204 (.ref 17),en P a202 206 (.ref 18)] 14
def o15 : Obj:=⟨zt24,none,(.cls ⟨a203,[zt15],[(.ref 15),zt15],14,a203,true,[],[],false,none,false⟩),⟨[]⟩⟩
def o17:=zF zt102 [(.str a201 203),(.ref 15),(.builtin SL.s6511155373996960695x17),(.builtin SL.s12411053484034534018x21)]
def o18:=zF zt102 [(.str a202 205),(.ref 15),(.builtin SL.s10220274742760427390x26),.none]
def o19:=zS .none [(zI 14 0),(.str a204 0),(.bool true),(.bool true),(.str a181 207),(zI 22 0),(.str a205 0),(.bool true),(.bool true),(.str a181 244)] 1
def o20:=zW zt13
def o21:=zD zt0 [zE P a206 210 a161 209,en P a207 211 (.ref 15),zE P a208 212 a192 186,en P a209 213 .none,en P a210 214 .none,en P a211 215 (.ref 20),en P a212 216 (.bool false),en P a213 217 .none,en P a214 245 (.bool false)] 9
def o22:=zD zt0 [zE P a188 229 a189 219,en P a190 230 (zI 562 220),en P a2 231 (.builtin "_frozen_importlib.ModuleSpec.__doc__:str#opaque"),en P a215 232 (.builtin "_frozen_importlib.ModuleSpec.__init__#opaque"),en P a216 233 (.builtin "_frozen_importlib.ModuleSpec.__repr__#opaque"),en P a217 234 (.builtin "_frozen_importlib.ModuleSpec.__eq__#opaque"),en P a218 235 (.builtin "_frozen_importlib.ModuleSpec.cached#opaque"),en P a219 236 (.builtin "_frozen_importlib.ModuleSpec.parent#opaque"),en P a220 237 (.builtin "_frozen_importlib.ModuleSpec.has_location#opaque"),en P a200 238 (.ref 24),en P a201 240 (.ref 25),en P a202 242 (.ref 26),en P a221 243 .none] 13
def o23 : Obj:=⟨zt24,none,(.cls ⟨a222,[zt15],[(.ref 23),zt15],22,a222,true,[],[],false,none,false⟩),⟨[]⟩⟩
def o24:=zQ zt23 [(.str a213 221),(.str a212 222),(.str a211 223),(.str a207 224),(.str a209 225),(.str a206 226),(.str a208 227),(.str a210 228)]
def o25:=zF zt102 [(.str a201 239),(.ref 23),(.builtin SL.s6511155373996960695x17),(.builtin SL.s12411053484034534018x21)]
def o26:=zF zt102 [(.str a202 241),(.ref 23),(.builtin SL.s10220274742760427390x26),.none]
def o27 : Obj:=⟨(.ref 23),(some 21),.plain,⟨[]⟩⟩
def o28:=zQ .none [(zI 12 0),(.str a223 0),(.bool true),(.bool false),(.str a161 264)]
def o30:=zF .none (zJ [2,0,38,6,0,45,12,0,52,17,0,59,24,0,66,26,0,79,33,0,101,35,0,113,37,0,125,207,0,355,413,0,602,434,0,609,439,0,616,444,0,623,447,0,630,467,0,637,476,0,644,728,0,740,737,0,747,744,0,754,777,0,761,788,0,768,801,0,775,806,0,782,811,0,787])
def o31:=zC zt97 a180 a180 274 277 1 0 0 0 273 29 false [.none,.none,.none,.none]
def o32 : Obj:=⟨zt98,none,.plain,⟨[some (.ref 31),some (.ref 3),some (.ref 3),none,some (.str a160 164),none,some (.ref 0)]⟩⟩
def o35:=zQ zt23 [(.str a252 282)]
def o37:=zV (st1 1) a227 a227
def o38:=zC zt97 a227 a227 279 283 2 1 0 3 273 33 true [.none,(.ref 35),(.ref 36),(.ref 37)]
def o39 : Obj:=⟨zt103,none,(.func (fd (st1 1) a227 a227 3 [] .none .none .none (.str a160 164) none (.ref 38) .none 0)),⟨[]⟩⟩
def o42:=zQ zt23 [(.str a253 291),(.str a254 292)]
def o44:=zV (st1 3) a228 a228
def o45:=zC zt97 a228 a228 288 293 6 1 0 7 273 40 true [.none,(.ref 42),(.ref 43),(.ref 44)]
def o46 : Obj:=⟨zt103,none,(.func (fd (st1 3) a228 a228 3 [] .none .none .none (.str a255 286) none (.ref 45) .none 0)),⟨[]⟩⟩
def o49:=zQ zt23 [(.str a256 301),(.str a257 302)]
def o51:=zV (st1 5) a229 a229
def o52:=zC zt97 a229 a229 298 303 12 2 0 3 273 47 true [.none,(.ref 49),(.ref 50),(.ref 51)]
def o53:=zU zt103 (st1 5) a229 a229 .none 52
def o56:=zQ zt23 [(.str a256 309),(.str a257 310)]
def o58:=zV (st1 6) a230 a230
def o59:=zC zt97 a230 a230 306 311 17 2 0 3 273 54 true [.none,(.ref 56),(.ref 57),(.ref 58)]
def o60:=zU zt103 (st1 6) a230 a230 .none 59
def o61:=zQ zt23 [zt41,zt49]
def o62:=zF zt104 [(.builtin SL.s10062305145149207511x16),zt24]
def o63:=zD zt0 [zE P a188 321 a258 326,zE P a259 323 a231 322,en P a190 325 (zI 24 324),en P a200 328 (.ref 68)] 4
def o66:=zC zt97 a231 a231 316 319 24 0 0 0 273 64 false [.none,.none,.none,.none]
def o67 : Obj:=⟨zt98,none,.plain,⟨[some (.ref 66),some (.ref 3),some (.ref 63),none,some (.str a258 296),none,some (.ref 0)]⟩⟩
def o69:=zD zt0 [zE P a188 321 a258 326,en P a190 325 (zI 24 324),en P a200 328 (.ref 68),en P a202 330 (.ref 71),en P a2 331 .none] 3
def o70 : Obj:=⟨zt24,none,(.cls ⟨a231,[zt41,zt49],[(.ref 70),zt41,zt49,zt28,zt26,zt15],69,a231,true,[],[],false,none,false⟩),⟨[some (.ref 61),none,some (.str a231 314),some (.str a231 322),some (.builtin SL.s2438369993680799366x15),some (.bool true)]⟩⟩
def o71:=zF zt102 [(.str a202 329),(.ref 70),(.builtin SL.s10220274742760427390x26),.none]
def o72:=zF zt22 [(.ref 70),(.ref 70),(.ref 70)]
def o73:=zF zt104 [(.builtin SL.s4860613602091757760x24),(.ref 70)]
def o75:=zF zt104 [(.builtin SL.s10062305145149207511x16),zt24]
def o76:=zD zt0 [zE P a188 343 a258 348,zE P a259 345 a232 344,en P a190 347 (zI 26 346),en P a260 358 (.ref 87),en P a200 359 (.ref 88)] 5
def o78:=zF .none [(zI 29 0),(zI 4 0),(.ref 86)]
def o79:=zC zt97 a232 a232 338 341 26 0 0 0 273 77 false [.none,.none,.none,.none]
def o80 : Obj:=⟨zt98,none,.plain,⟨[some (.ref 79),some (.ref 3),some (.ref 76),none,some (.str a258 296),none,some (.ref 0)]⟩⟩
def o83:=zQ zt23 [(.str a261 353),(.str a262 354),(.str a263 355)]
def o85:=zV (st2 8 1) a260 a264
def o86:=zF zt97 [(.str a260 350),(.str a264 351),(.str a177 352),(zI 29 0),(zI 1 0),(zI 1 0),(zI 0 0),(zI 15 0),(.ref 81),(.bool true),(zI 273 0),(.ref 82),.none,(.ref 83),(.ref 84),(.ref 85),(zI 356 0),(zI 29 0),(.str a177 357)]
def o87:=zU zt103 (st2 8 1) a260 a264 .none 86
def o89:=zD zt0 [zE P a188 343 a258 348,en P a190 347 (zI 26 346),en P a260 358 (.ref 91),en P a200 359 (.ref 88),en P a201 362 (.ref 92),en P a202 364 (.ref 93),en P a2 365 .none] 4
def o90 : Obj:=⟨zt24,none,(.cls ⟨a232,[zt15],[(.ref 90),zt15],89,a232,true,[],[(.ref 105),(.ref 117)],false,none,false⟩),⟨[none,none,some (.str a232 336),some (.str a232 344),some .none,some (.bool true)]⟩⟩
def o91:=zF zt20 [(.ref 87)]
def o92:=zF zt102 [(.str a201 361),(.ref 90),(.builtin SL.s6511155373996960695x17),(.builtin SL.s12411053484034534018x21)]
def o93:=zF zt102 [(.str a202 363),(.ref 90),(.builtin SL.s10220274742760427390x26),.none]
def o94:=zF zt22 [(.ref 90),(.ref 90),(.ref 90)]
def o95:=zF zt104 [(.builtin SL.s4860613602091757760x24),(.ref 90)]
def o96:=zQ zt23 [(.ref 90)]
def o97:=zF zt104 [(.builtin SL.s10062305145149207511x16),zt24]
def o98:=zD zt0 [zE P a188 375 a258 380,zE P a259 377 a233 376,en P a190 379 (zI 33 378),en P a200 382 (.ref 103)] 4
def o101:=zC zt97 a233 a233 370 373 33 0 0 0 273 99 false [.none,.none,.none,.none]
def o102 : Obj:=⟨zt98,none,.plain,⟨[some (.ref 101),some (.ref 3),some (.ref 98),none,some (.str a258 296),none,some (.ref 0)]⟩⟩
def o104:=zD zt0 [zE P a188 375 a258 380,en P a190 379 (zI 33 378),en P a200 382 (.ref 103),en P a2 383 .none] 2
def o105 : Obj:=⟨zt24,none,(.cls ⟨a233,[(.ref 90)],[(.ref 105),(.ref 90),zt15],104,a233,true,[],[(.ref 347)],false,none,false⟩),⟨[some (.ref 96),none,some (.str a233 368),some (.str a233 376),some .none,some (.bool true)]⟩⟩
def o106:=zF zt22 [(.ref 105),(.ref 105),(.ref 105)]
def o107:=zF zt104 [(.builtin SL.s4860613602091757760x24),(.ref 105)]
def o108:=zQ zt23 [(.ref 90)]
def o109:=zF zt104 [(.builtin SL.s10062305145149207511x16),zt24]
def o110:=zD zt0 [zE P a188 393 a258 398,zE P a259 395 a234 394,en P a190 397 (zI 35 396),en P a200 400 (.ref 115)] 4
def o113:=zC zt97 a234 a234 388 391 35 0 0 0 273 111 false [.none,.none,.none,.none]
def o114 : Obj:=⟨zt98,none,.plain,⟨[some (.ref 113),some (.ref 3),some (.ref 110),none,some (.str a258 296),none,some (.ref 0)]⟩⟩
def o116:=zD zt0 [zE P a188 393 a258 398,en P a190 397 (zI 35 396),en P a200 400 (.ref 115),en P a2 401 .none] 2
def o117 : Obj:=⟨zt24,none,(.cls ⟨a234,[(.ref 90)],[(.ref 117),(.ref 90),zt15],116,a234,true,[],[(.ref 594)],false,none,false⟩),⟨[some (.ref 108),none,some (.str a234 386),some (.str a234 394),some .none,some (.bool true)]⟩⟩
def o118:=zF zt22 [(.ref 117),(.ref 117),(.ref 117)]
def o119:=zF zt104 [(.builtin SL.s4860613602091757760x24),(.ref 117)]
def o120:=zQ zt23 [(.ref 105)]
def o121:=zF zt104 [(.builtin SL.s10062305145149207511x16),zt24]
def o122:=zD zt0 [zE P a188 411 a265 416,zE P a259 413 a235 412,en P a190 415 (zI 37 414),en P a215 425 (.ref 134),en P a266 432 (.ref 141),en P a267 443 (.ref 148),en P a268 451 (.ref 156),en P a269 458 (.ref 163),en P a270 465 (.ref 170),en P a271 473 (.ref 177),en P a272 480 (.ref 184),en P a273 487 (.ref 191),en P a274 494 (.ref 198),en P a275 501 (.ref 205),en P a276 508 (.ref 212),en P a277 515 (.ref 219),en P a278 522 (.ref 226),en P a279 529 (.ref 233),en P a280 536 (.ref 240),en P a281 543 (.ref 247),en P a282 553 (.ref 255),en P a283 561 (.ref 263),en P a284 573 (.ref 271),en P a285 583 (.ref 279),en P a286 593 (.ref 286),en P a287 601 (.ref 293),en P a288 611 (.ref 301),en P a289 619 (.ref 309),en P a290 626 (.ref 316),en P a291 634 (.ref 323),en P a292 644 (.ref 330),en P a293 652 (.ref 337),en P a216 659 (.ref 344),en P a200 662 (.ref 345)] 34
def o124:=zF .none (zJ [40,4,133,46,4,140,50,4,147,64,4,154,67,4,162,70,4,169,74,4,176,77,4,183,81,4,190,85,4,197,89,4,204,93,4,211,96,4,218,99,4,225,102,4,232,105,4,239,108,4,246,112,4,254,129,4,262,132,4,270,146,4,278,149,4,285,163,4,292,166,4,300,173,4,308,176,4,315,179,4,322,186,4,329,202,4,336,205,4,343])
def o125:=zC zt97 a235 a235 406 409 37 0 0 0 273 123 false [.none,.none,.none,.none]
def o126 : Obj:=⟨zt98,none,.plain,⟨[some (.ref 125),some (.ref 3),some (.ref 122),none,some (.str a258 296),none,some (.ref 0)]⟩⟩
def o127:=zQ zt23 [.none]
def o130:=zQ zt23 [(.str a294 421),(.str a295 422)]
def o132:=zV (st2 11 1) a215 a296
def o133:=zC zt97 a215 a296 418 423 40 2 0 3 273 128 true [.none,(.ref 130),(.ref 131),(.ref 132)]
def o134:=zU zt103 (st2 11 1) a215 a296 (.ref 127) 133
def o137:=zQ zt23 [(.str a294 429)]
def o139:=zV (st2 11 2) a297 a298
def o140:=zC zt97 a297 a298 426 430 46 1 0 3 273 135 true [.none,(.ref 137),(.ref 138),(.ref 139)]
def o141:=zU zt103 (st2 11 2) a297 a298 .none 140
def o144:=zQ zt23 [(.str a294 436),(.str a299 437),(.str a300 438),(.str a301 439),(.str a302 440)]
def o146:=zV (st2 11 3) a303 a304
def o147:=zC zt97 a303 a304 433 441 50 2 0 3 273 142 true [.none,(.ref 144),(.ref 145),(.ref 146)]
def o148:=zU zt103 (st2 11 3) a303 a304 .none 147
def o151:=zQ zt23 [(.str a294 447)]
def o153:=zV (st2 11 4) a268 a305
def o154:=zC zt97 a268 a305 444 448 63 1 0 3 273 149 true [.none,(.ref 151),(.ref 152),(.ref 153)]
def o155:=zU zt103 (st2 11 4) a268 a305 .none 154
def o156:=zF zt11 [(.ref 155),.none,.none,.none,(.str a268 451),(.bool false)]
def o159:=zQ zt23 [(.str a294 455)]
def o161:=zV (st2 11 5) a269 a306
def o162:=zC zt97 a269 a306 452 456 67 1 0 3 273 157 true [.none,(.ref 159),(.ref 160),(.ref 161)]
def o163:=zU zt103 (st2 11 5) a269 a306 .none 162
def o166:=zQ zt23 [(.str a294 462)]
def o168:=zV (st2 11 6) a270 a307
def o169:=zC zt97 a270 a307 459 463 70 1 0 3 273 164 true [.none,(.ref 166),(.ref 167),(.ref 168)]
def o170:=zU zt103 (st2 11 6) a270 a307 .none 169
def o173:=zQ zt23 [(.str a294 469),(.str a262 470)]
def o175:=zV (st2 11 7) a271 a308
def o176:=zC zt97 a271 a308 466 471 74 1 0 7 273 171 true [.none,(.ref 173),(.ref 174),(.ref 175)]
def o177:=zU zt103 (st2 11 7) a271 a308 .none 176
def o180:=zQ zt23 [(.str a294 477)]
def o182:=zV (st2 11 8) a272 a309
def o183:=zC zt97 a272 a309 474 478 77 1 0 3 273 178 true [.none,(.ref 180),(.ref 181),(.ref 182)]
def o184:=zU zt103 (st2 11 8) a272 a309 .none 183
def o187:=zQ zt23 [(.str a294 484)]
def o189:=zV (st2 11 9) a273 a310
def o190:=zC zt97 a273 a310 481 485 81 1 0 3 273 185 true [.none,(.ref 187),(.ref 188),(.ref 189)]
def o191:=zU zt103 (st2 11 9) a273 a310 .none 190
def o194:=zQ zt23 [(.str a294 491)]
def o196:=zV (st2 11 10) a274 a311
def o197:=zC zt97 a274 a311 488 492 85 1 0 3 273 192 true [.none,(.ref 194),(.ref 195),(.ref 196)]
def o198:=zU zt103 (st2 11 10) a274 a311 .none 197
def o201:=zQ zt23 [(.str a294 498)]
def o203:=zV (st2 11 11) a275 a312
def o204:=zC zt97 a275 a312 495 499 89 1 0 3 273 199 true [.none,(.ref 201),(.ref 202),(.ref 203)]
def o205:=zU zt103 (st2 11 11) a275 a312 .none 204
def o208:=zQ zt23 [(.str a294 505)]
def o210:=zV (st2 11 12) a276 a313
def o211:=zC zt97 a276 a313 502 506 93 1 0 3 273 206 true [.none,(.ref 208),(.ref 209),(.ref 210)]
def o212:=zU zt103 (st2 11 12) a276 a313 .none 211
def o215:=zQ zt23 [(.str a294 512)]
def o217:=zV (st2 11 13) a277 a314
def o218:=zC zt97 a277 a314 509 513 96 1 0 3 273 213 true [.none,(.ref 215),(.ref 216),(.ref 217)]
def o219:=zU zt103 (st2 11 13) a277 a314 .none 218
def o222:=zQ zt23 [(.str a294 519)]
def o224:=zV (st2 11 14) a278 a315
def o225:=zC zt97 a278 a315 516 520 99 1 0 3 273 220 true [.none,(.ref 222),(.ref 223),(.ref 224)]
def o226:=zU zt103 (st2 11 14) a278 a315 .none 225
def o229:=zQ zt23 [(.str a294 526)]
def o231:=zV (st2 11 15) a279 a316
def o232:=zC zt97 a279 a316 523 527 102 1 0 3 273 227 true [.none,(.ref 229),(.ref 230),(.ref 231)]
def o233:=zU zt103 (st2 11 15) a279 a316 .none 232
def o236:=zQ zt23 [(.str a294 533)]
def o238:=zV (st2 11 16) a280 a317
def o239:=zC zt97 a280 a317 530 534 105 1 0 3 273 234 true [.none,(.ref 236),(.ref 237),(.ref 238)]
def o240:=zU zt103 (st2 11 16) a280 a317 .none 239
def o243:=zQ zt23 [(.str a294 540)]
def o245:=zV (st2 11 17) a281 a318
def o246:=zC zt97 a281 a318 537 541 108 1 0 3 273 241 true [.none,(.ref 243),(.ref 244),(.ref 245)]
def o247:=zU zt103 (st2 11 17) a281 a318 .none 246
def o248:=zQ zt23 [(zI 0 544)]
def o251:=zQ zt23 [(.str a294 548),(.str a319 549),(.str a320 550)]
def o253:=zV (st2 11 18) a282 a321
def o254:=zF zt97 [(.str a282 545),(.str a321 546),(.str a177 547),(zI 112 0),(zI 3 0),(zI 3 0),(zI 0 0),(zI 3 0),(.ref 249),(.bool true),(zI 273 0),(.ref 250),.none,(.ref 251),(.ref 252),(.ref 253),(zI 551 0),(zI 112 0),(.str a177 552)]
def o255:=zU zt103 (st2 11 18) a282 a321 (.ref 248) 254
def o256:=zQ zt23 [.none]
def o259:=zQ zt23 [(.str a294 557),(.str a322 558)]
def o261:=zV (st2 11 19) a283 a323
def o262:=zF zt97 [(.str a283 554),(.str a323 555),(.str a177 556),(zI 129 0),(zI 2 0),(zI 2 0),(zI 0 0),(zI 3 0),(.ref 257),(.bool true),(zI 273 0),(.ref 258),.none,(.ref 259),(.ref 260),(.ref 261),(zI 559 0),(zI 129 0),(.str a177 560)]
def o263:=zU zt103 (st2 11 19) a283 a323 (.ref 256) 262
def o264:=zQ zt23 [(.int (.negSucc 0) 563)]
def o267:=zQ zt23 [(.str a294 567),(.str a322 568),(.str a300 569),(.str a301 570)]
def o269:=zV (st2 11 20) a284 a324
def o270:=zF zt97 [(.str a284 564),(.str a324 565),(.str a177 566),(zI 132 0),(zI 2 0),(zI 2 0),(zI 0 0),(zI 3 0),(.ref 265),(.bool true),(zI 273 0),(.ref 266),.none,(.ref 267),(.ref 268),(.ref 269),(zI 571 0),(zI 132 0),(.str a177 572)]
def o271:=zU zt103 (st2 11 20) a284 a324 (.ref 264) 270
def o272:=zQ zt23 [(.int (.negSucc 0) 575)]
def o275:=zQ zt23 [(.str a294 579),(.str a322 580)]
def o277:=zV (st2 11 21) a285 a325
def o278:=zF zt97 [(.str a285 576),(.str a325 577),(.str a177 578),(zI 146 0),(zI 2 0),(zI 2 0),(zI 0 0),(zI 3 0),(.ref 273),(.bool true),(zI 273 0),(.ref 274),.none,(.ref 275),(.ref 276),(.ref 277),(zI 581 0),(zI 146 0),(.str a177 582)]
def o279:=zU zt103 (st2 11 21) a285 a325 (.ref 272) 278
def o282:=zQ zt23 [(.str a294 587),(.str a326 588),(.str a300 589),(.str a256 590)]
def o284:=zV (st2 11 22) a286 a327
def o285:=zF zt97 [(.str a286 584),(.str a327 585),(.str a177 586),(zI 149 0),(zI 2 0),(zI 2 0),(zI 0 0),(zI 3 0),(.ref 280),(.bool true),(zI 273 0),(.ref 281),.none,(.ref 282),(.ref 283),(.ref 284),(zI 591 0),(zI 149 0),(.str a177 592)]
def o286:=zU zt103 (st2 11 22) a286 a327 .none 285
def o289:=zQ zt23 [(.str a294 597),(.str a326 598)]
def o291:=zV (st2 11 23) a287 a328
def o292:=zF zt97 [(.str a287 594),(.str a328 595),(.str a177 596),(zI 163 0),(zI 2 0),(zI 2 0),(zI 0 0),(zI 3 0),(.ref 287),(.bool true),(zI 273 0),(.ref 288),.none,(.ref 289),(.ref 290),(.ref 291),(zI 599 0),(zI 163 0),(.str a177 600)]
def o293:=zU zt103 (st2 11 23) a287 a328 .none 292
def o294:=zQ zt23 [(.int (.negSucc 0) 603)]
def o297:=zQ zt23 [(.str a294 607),(.str a322 608)]
def o299:=zV (st2 11 24) a288 a329
def o300:=zF zt97 [(.str a288 604),(.str a329 605),(.str a177 606),(zI 166 0),(zI 2 0),(zI 2 0),(zI 0 0),(zI 3 0),(.ref 295),(.bool true),(zI 273 0),(.ref 296),.none,(.ref 297),(.ref 298),(.ref 299),(zI 609 0),(zI 166 0),(.str a177 610)]
def o301:=zU zt103 (st2 11 24) a288 a329 (.ref 294) 300
def o302:=zQ zt23 [.none]
def o305:=zQ zt23 [(.str a294 615),(.str a322 616)]
def o307:=zV (st2 11 25) a289 a330
def o308:=zF zt97 [(.str a289 612),(.str a330 613),(.str a177 614),(zI 173 0),(zI 2 0),(zI 2 0),(zI 0 0),(zI 3 0),(.ref 303),(.bool true),(zI 273 0),(.ref 304),.none,(.ref 305),(.ref 306),(.ref 307),(zI 617 0),(zI 173 0),(.str a177 618)]
def o309:=zU zt103 (st2 11 25) a289 a330 (.ref 302) 308
def o312:=zQ zt23 [(.str a294 623)]
def o314:=zV (st2 11 26) a290 a331
def o315:=zC zt97 a290 a331 620 624 176 1 0 3 273 310 true [.none,(.ref 312),(.ref 313),(.ref 314)]
def o316:=zU zt103 (st2 11 26) a290 a331 .none 315
def o319:=zQ zt23 [(.str a294 630),(.str a332 631)]
def o321:=zV (st2 11 27) a291 a333
def o322:=zC zt97 a291 a333 627 632 179 1 0 3 273 317 true [.none,(.ref 319),(.ref 320),(.ref 321)]
def o323:=zU zt103 (st2 11 27) a291 a333 .none 322
def o326:=zQ zt23 [(.str a294 638),(.str a334 639),(.str a256 640),(.str a300 641)]
def o328:=zV (st2 11 28) a292 a335
def o329:=zF zt97 [(.str a292 635),(.str a335 636),(.str a177 637),(zI 186 0),(zI 2 0),(zI 2 0),(zI 0 0),(zI 3 0),(.ref 324),(.bool true),(zI 273 0),(.ref 325),.none,(.ref 326),(.ref 327),(.ref 328),(zI 642 0),(zI 186 0),(.str a177 643)]
def o330:=zU zt103 (st2 11 28) a292 a335 .none 329
def o333:=zQ zt23 [(.str a294 648),(.str a336 649)]
def o335:=zV (st2 11 29) a293 a337
def o336:=zF zt97 [(.str a293 645),(.str a337 646),(.str a177 647),(zI 202 0),(zI 2 0),(zI 2 0),(zI 0 0),(zI 3 0),(.ref 331),(.bool true),(zI 273 0),(.ref 332),.none,(.ref 333),(.ref 334),(.ref 335),(zI 650 0),(zI 202 0),(.str a177 651)]
def o337:=zU zt103 (st2 11 29) a293 a337 .none 336
def o340:=zQ zt23 [(.str a294 656)]
def o342:=zV (st2 11 30) a216 a338
def o343:=zC zt97 a216 a338 653 657 205 1 0 3 273 338 true [.none,(.ref 340),(.ref 341),(.ref 342)]
def o344:=zU zt103 (st2 11 30) a216 a338 .none 343
def o345:=zQ zt23 [(.str a339 660),(.str a340 661)]
def o346:=zD zt0 [zE P a188 411 a265 416,en P a190 415 (zI 37 414),en P a215 425 (.ref 134),en P a266 432 (.ref 141),en P a267 443 (.ref 148),en P a268 451 (.ref 156),en P a269 458 (.ref 163),en P a270 465 (.ref 170),en P a271 473 (.ref 177),en P a272 480 (.ref 184),en P a273 487 (.ref 191),en P a274 494 (.ref 198),en P a275 501 (.ref 205),en P a276 508 (.ref 212),en P a277 515 (.ref 219),en P a278 522 (.ref 226),en P a279 529 (.ref 233),en P a280 536 (.ref 240),en P a281 543 (.ref 247),en P a282 553 (.ref 255),en P a283 561 (.ref 263),en P a284 573 (.ref 271),en P a285 583 (.ref 279),en P a286 593 (.ref 286),en P a287 601 (.ref 293),en P a288 611 (.ref 301),en P a289 619 (.ref 309),en P a290 626 (.ref 316),en P a291 634 (.ref 323),en P a292 644 (.ref 330),en P a293 652 (.ref 337),en P a216 659 (.ref 344),en P a200 662 (.ref 345),en P a2 663 .none] 2
def o347 : Obj:=⟨zt24,none,(.cls ⟨a235,[(.ref 105)],[(.ref 347),(.ref 105),(.ref 90),zt15],346,a235,true,[],[],false,none,false⟩),⟨[some (.ref 120),none,some (.str a235 404),some (.str a235 412),some .none,some (.bool true)]⟩⟩
def o348:=zF zt22 [(.ref 347),(.ref 347),(.ref 347)]
def o349:=zF zt104 [(.builtin SL.s4860613602091757760x24),(.ref 347)]
def o350:=zQ zt23 [(.ref 117)]
def o351:=zF zt104 [(.builtin SL.s10062305145149207511x16),zt24]
def o352:=zD zt0 [zE P a188 673 a265 678,zE P a259 675 a236 674,en P a190 677 (zI 207 676),en P a215 690 (.ref 364),en P a341 699 (.ref 371),en P a342 706 (.ref 378),en P a343 713 (.ref 385),en P a344 728 (.ref 392),en P a268 736 (.ref 400),en P a345 744 (.ref 408),en P a346 752 (.ref 416),en P a347 760 (.ref 424),en P a348 768 (.ref 432),en P a269 775 (.ref 439),en P a270 782 (.ref 446),en P a271 790 (.ref 453),en P a272 797 (.ref 460),en P a273 804 (.ref 467),en P a274 811 (.ref 474),en P a275 818 (.ref 481),en P a276 825 (.ref 488),en P a277 832 (.ref 495),en P a278 839 (.ref 502),en P a279 846 (.ref 509),en P a281 853 (.ref 516),en P a282 863 (.ref 524),en P a283 871 (.ref 532),en P a284 883 (.ref 540),en P a288 893 (.ref 548),en P a289 903 (.ref 556),en P a290 910 (.ref 563),en P a291 918 (.ref 570),en P a292 930 (.ref 577),en P a293 938 (.ref 584),en P a216 945 (.ref 591),en P a200 949 (.ref 592)] 36
def o354:=zF .none (zJ [210,4,363,223,4,370,231,4,377,235,4,384,239,4,391,272,4,398,276,4,406,280,4,414,284,4,422,288,4,430,291,4,438,294,4,445,298,4,452,301,4,459,305,4,466,309,4,473,313,4,480,317,4,487,320,4,494,323,4,501,326,4,508,329,4,515,333,4,523,350,4,531,353,4,539,367,4,547,374,4,555,377,4,562,381,4,569,388,4,576,407,4,583,410,4,590])
def o355:=zC zt97 a236 a236 668 671 207 0 0 0 273 353 false [.none,.none,.none,.none]
def o356 : Obj:=⟨zt98,none,.plain,⟨[some (.ref 355),some (.ref 3),some (.ref 352),none,some (.str a258 296),none,some (.ref 0)]⟩⟩
def o357:=zQ zt23 [(.str a181 680),(.str a349 681)]
def o360:=zQ zt23 [(.str a294 685),(.str a350 686),(.str a351 687)]
def o362:=zV (st2 12 1) a215 a352
def o363:=zC zt97 a215 a352 682 688 210 3 0 3 273 358 true [.none,(.ref 360),(.ref 361),(.ref 362)]
def o364:=zU zt103 (st2 12 1) a215 a352 (.ref 357) 363
def o367:=zQ zt23 [(.str a294 694),(.str a353 695),(.str a351 696)]
def o369:=zV (st2 12 2) a354 a355
def o370:=zC zt97 a354 a355 691 697 223 2 0 3 273 365 true [.none,(.ref 367),(.ref 368),(.ref 369)]
def o371:=zU zt103 (st2 12 2) a354 a355 .none 370
def o374:=zQ zt23 [(.str a294 703)]
def o376:=zV (st2 12 3) a297 a356
def o377:=zC zt97 a297 a356 700 704 231 1 0 3 273 372 true [.none,(.ref 374),(.ref 375),(.ref 376)]
def o378:=zU zt103 (st2 12 3) a297 a356 .none 377
def o381:=zQ zt23 [(.str a294 710)]
def o383:=zV (st2 12 4) a357 a358
def o384:=zC zt97 a357 a358 707 711 235 1 0 3 273 379 true [.none,(.ref 381),(.ref 382),(.ref 383)]
def o385:=zU zt103 (st2 12 4) a357 a358 .none 384
def o388:=zQ zt23 [(.str a294 717),(.str a299 718),(.str a300 719),(.str a301 720),(.str a359 721),(.str a351 722),(.str a302 723),(.str a360 724),(.str a361 725)]
def o390:=zV (st2 12 5) a303 a362
def o391:=zC zt97 a303 a362 714 726 239 2 0 3 273 386 true [.none,(.ref 388),(.ref 389),(.ref 390)]
def o392:=zU zt103 (st2 12 5) a303 a362 .none 391
def o395:=zQ zt23 [(.str a294 732)]
def o397:=zV (st2 12 6) a268 a363
def o398:=zC zt97 a268 a363 729 733 271 1 0 3 273 393 true [.none,(.ref 395),(.ref 396),(.ref 397)]
def o399:=zU zt103 (st2 12 6) a268 a363 .none 398
def o400:=zF zt11 [(.ref 399),.none,.none,.none,(.str a268 736),(.bool false)]
def o403:=zQ zt23 [(.str a294 740)]
def o405:=zV (st2 12 7) a345 a364
def o406:=zC zt97 a345 a364 737 741 275 1 0 3 273 401 true [.none,(.ref 403),(.ref 404),(.ref 405)]
def o407:=zU zt103 (st2 12 7) a345 a364 .none 406
def o408:=zF zt11 [(.ref 407),.none,.none,.none,(.str a345 744),(.bool false)]
def o411:=zQ zt23 [(.str a294 748)]
def o413:=zV (st2 12 8) a346 a365
def o414:=zC zt97 a346 a365 745 749 279 1 0 3 273 409 true [.none,(.ref 411),(.ref 412),(.ref 413)]
def o415:=zU zt103 (st2 12 8) a346 a365 .none 414
def o416:=zF zt11 [(.ref 415),.none,.none,.none,(.str a346 752),(.bool false)]
def o419:=zQ zt23 [(.str a294 756)]
def o421:=zV (st2 12 9) a347 a366
def o422:=zC zt97 a347 a366 753 757 283 1 0 3 273 417 true [.none,(.ref 419),(.ref 420),(.ref 421)]
def o423:=zU zt103 (st2 12 9) a347 a366 .none 422
def o424:=zF zt11 [(.ref 423),.none,.none,.none,(.str a347 760),(.bool false)]
def o427:=zQ zt23 [(.str a294 764)]
def o429:=zV (st2 12 10) a348 a367
def o430:=zC zt97 a348 a367 761 765 287 1 0 3 273 425 true [.none,(.ref 427),(.ref 428),(.ref 429)]
def o431:=zU zt103 (st2 12 10) a348 a367 .none 430
def o432:=zF zt11 [(.ref 431),.none,.none,.none,(.str a348 768),(.bool false)]
def o435:=zQ zt23 [(.str a294 772)]
def o437:=zV (st2 12 11) a269 a368
def o438:=zC zt97 a269 a368 769 773 291 1 0 3 273 433 true [.none,(.ref 435),(.ref 436),(.ref 437)]
def o439:=zU zt103 (st2 12 11) a269 a368 .none 438
def o442:=zQ zt23 [(.str a294 779)]
def o444:=zV (st2 12 12) a270 a369
def o445:=zC zt97 a270 a369 776 780 294 1 0 3 273 440 true [.none,(.ref 442),(.ref 443),(.ref 444)]
def o446:=zU zt103 (st2 12 12) a270 a369 .none 445
def o449:=zQ zt23 [(.str a294 786),(.str a262 787)]
def o451:=zV (st2 12 13) a271 a370
def o452:=zC zt97 a271 a370 783 788 298 1 0 7 273 447 true [.none,(.ref 449),(.ref 450),(.ref 451)]
def o453:=zU zt103 (st2 12 13) a271 a370 .none 452
def o456:=zQ zt23 [(.str a294 794)]
def o458:=zV (st2 12 14) a272 a371
def o459:=zC zt97 a272 a371 791 795 301 1 0 3 273 454 true [.none,(.ref 456),(.ref 457),(.ref 458)]
def o460:=zU zt103 (st2 12 14) a272 a371 .none 459
def o463:=zQ zt23 [(.str a294 801)]
def o465:=zV (st2 12 15) a273 a372
def o466:=zC zt97 a273 a372 798 802 305 1 0 3 273 461 true [.none,(.ref 463),(.ref 464),(.ref 465)]
def o467:=zU zt103 (st2 12 15) a273 a372 .none 466
def o470:=zQ zt23 [(.str a294 808)]
def o472:=zV (st2 12 16) a274 a373
def o473:=zC zt97 a274 a373 805 809 309 1 0 3 273 468 true [.none,(.ref 470),(.ref 471),(.ref 472)]
def o474:=zU zt103 (st2 12 16) a274 a373 .none 473
def o477:=zQ zt23 [(.str a294 815)]
def o479:=zV (st2 12 17) a275 a374
def o480:=zC zt97 a275 a374 812 816 313 1 0 3 273 475 true [.none,(.ref 477),(.ref 478),(.ref 479)]
def o481:=zU zt103 (st2 12 17) a275 a374 .none 480
def o484:=zQ zt23 [(.str a294 822)]
def o486:=zV (st2 12 18) a276 a375
def o487:=zC zt97 a276 a375 819 823 317 1 0 3 273 482 true [.none,(.ref 484),(.ref 485),(.ref 486)]
def o488:=zU zt103 (st2 12 18) a276 a375 .none 487
def o491:=zQ zt23 [(.str a294 829)]
def o493:=zV (st2 12 19) a277 a376
def o494:=zC zt97 a277 a376 826 830 320 1 0 3 273 489 true [.none,(.ref 491),(.ref 492),(.ref 493)]
def o495:=zU zt103 (st2 12 19) a277 a376 .none 494
def o498:=zQ zt23 [(.str a294 836)]
def o500:=zV (st2 12 20) a278 a377
def o501:=zC zt97 a278 a377 833 837 323 1 0 3 273 496 true [.none,(.ref 498),(.ref 499),(.ref 500)]
def o502:=zU zt103 (st2 12 20) a278 a377 .none 501
def o505:=zQ zt23 [(.str a294 843)]
def o507:=zV (st2 12 21) a279 a378
def o508:=zC zt97 a279 a378 840 844 326 1 0 3 273 503 true [.none,(.ref 505),(.ref 506),(.ref 507)]
def o509:=zU zt103 (st2 12 21) a279 a378 .none 508
def o512:=zQ zt23 [(.str a294 850)]
def o514:=zV (st2 12 22) a281 a379
def o515:=zC zt97 a281 a379 847 851 329 1 0 3 273 510 true [.none,(.ref 512),(.ref 513),(.ref 514)]
def o516:=zU zt103 (st2 12 22) a281 a379 .none 515
def o517:=zQ zt23 [(zI 0 854)]
def o520:=zQ zt23 [(.str a294 858),(.str a319 859),(.str a320 860)]
def o522:=zV (st2 12 23) a282 a380
def o523:=zF zt97 [(.str a282 855),(.str a380 856),(.str a177 857),(zI 333 0),(zI 3 0),(zI 3 0),(zI 0 0),(zI 3 0),(.ref 518),(.bool true),(zI 273 0),(.ref 519),.none,(.ref 520),(.ref 521),(.ref 522),(zI 861 0),(zI 333 0),(.str a177 862)]
def o524:=zU zt103 (st2 12 23) a282 a380 (.ref 517) 523
def o525:=zQ zt23 [.none]
def o528:=zQ zt23 [(.str a294 867),(.str a319 868)]
def o530:=zV (st2 12 24) a283 a381
def o531:=zF zt97 [(.str a283 864),(.str a381 865),(.str a177 866),(zI 350 0),(zI 2 0),(zI 2 0),(zI 0 0),(zI 3 0),(.ref 526),(.bool true),(zI 273 0),(.ref 527),.none,(.ref 528),(.ref 529),(.ref 530),(zI 869 0),(zI 350 0),(.str a177 870)]
def o532:=zU zt103 (st2 12 24) a283 a381 (.ref 525) 531
def o533:=zQ zt23 [(.int (.negSucc 0) 873)]
def o536:=zQ zt23 [(.str a294 877),(.str a322 878),(.str a300 879),(.str a301 880)]
def o538:=zV (st2 12 25) a284 a382
def o539:=zF zt97 [(.str a284 874),(.str a382 875),(.str a177 876),(zI 353 0),(zI 2 0),(zI 2 0),(zI 0 0),(zI 3 0),(.ref 534),(.bool true),(zI 273 0),(.ref 535),.none,(.ref 536),(.ref 537),(.ref 538),(zI 881 0),(zI 353 0),(.str a177 882)]
def o540:=zU zt103 (st2 12 25) a284 a382 (.ref 533) 539
def o541:=zQ zt23 [(.int (.negSucc 0) 885)]
def o544:=zQ zt23 [(.str a294 889),(.str a322 890)]
def o546:=zV (st2 12 26) a288 a383
def o547:=zF zt97 [(.str a288 886),(.str a383 887),(.str a177 888),(zI 367 0),(zI 2 0),(zI 2 0),(zI 0 0),(zI 3 0),(.ref 542),(.bool true),(zI 273 0),(.ref 543),.none,(.ref 544),(.ref 545),(.ref 546),(zI 891 0),(zI 367 0),(.str a177 892)]
def o548:=zU zt103 (st2 12 26) a288 a383 (.ref 541) 547
def o549:=zQ zt23 [(.int (.negSucc 0) 895)]
def o552:=zQ zt23 [(.str a294 899),(.str a384 900)]
def o554:=zV (st2 12 27) a289 a385
def o555:=zF zt97 [(.str a289 896),(.str a385 897),(.str a177 898),(zI 374 0),(zI 2 0),(zI 2 0),(zI 0 0),(zI 3 0),(.ref 550),(.bool true),(zI 273 0),(.ref 551),.none,(.ref 552),(.ref 553),(.ref 554),(zI 901 0),(zI 374 0),(.str a177 902)]
def o556:=zU zt103 (st2 12 27) a289 a385 (.ref 549) 555
def o559:=zQ zt23 [(.str a294 907)]
def o561:=zV (st2 12 28) a290 a386
def o562:=zC zt97 a290 a386 904 908 377 1 0 3 273 557 true [.none,(.ref 559),(.ref 560),(.ref 561)]
def o563:=zU zt103 (st2 12 28) a290 a386 .none 562
def o566:=zQ zt23 [(.str a294 914),(.str a332 915)]
def o568:=zV (st2 12 29) a291 a387
def o569:=zC zt97 a291 a387 911 916 381 1 0 3 273 564 true [.none,(.ref 566),(.ref 567),(.ref 568)]
def o570:=zU zt103 (st2 12 29) a291 a387 .none 569
def o573:=zQ zt23 [(.str a294 922),(.str a353 923),(.str a256 924),(.str a388 925),(.str a300 926),(.str a389 927)]
def o575:=zV (st2 12 30) a292 a390
def o576:=zF zt97 [(.str a292 919),(.str a390 920),(.str a177 921),(zI 388 0),(zI 2 0),(zI 2 0),(zI 0 0),(zI 3 0),(.ref 571),(.bool true),(zI 273 0),(.ref 572),.none,(.ref 573),(.ref 574),(.ref 575),(zI 928 0),(zI 388 0),(.str a177 929)]
def o577:=zU zt103 (st2 12 30) a292 a390 .none 576
def o580:=zQ zt23 [(.str a294 934),(.str a336 935)]
def o582:=zV (st2 12 31) a293 a391
def o583:=zF zt97 [(.str a293 931),(.str a391 932),(.str a177 933),(zI 407 0),(zI 2 0),(zI 2 0),(zI 0 0),(zI 3 0),(.ref 578),(.bool true),(zI 273 0),(.ref 579),.none,(.ref 580),(.ref 581),(.ref 582),(zI 936 0),(zI 407 0),(.str a177 937)]
def o584:=zU zt103 (st2 12 31) a293 a391 .none 583
def o587:=zQ zt23 [(.str a294 942)]
def o589:=zV (st2 12 32) a216 a392
def o590:=zC zt97 a216 a392 939 943 410 1 0 3 273 585 true [.none,(.ref 587),(.ref 588),(.ref 589)]
def o591:=zU zt103 (st2 12 32) a216 a392 .none 590
def o592:=zQ zt23 [(.str a339 946),(.str a393 947),(.str a340 948)]
def o593:=zD zt0 [zE P a188 673 a265 678,en P a190 677 (zI 207 676),en P a215 690 (.ref 364),en P a341 699 (.ref 371),en P a342 706 (.ref 378),en P a343 713 (.ref 385),en P a344 728 (.ref 392),en P a268 736 (.ref 400),en P a345 744 (.ref 408),en P a346 752 (.ref 416),en P a347 760 (.ref 424),en P a348 768 (.ref 432),en P a269 775 (.ref 439),en P a270 782 (.ref 446),en P a271 790 (.ref 453),en P a272 797 (.ref 460),en P a273 804 (.ref 467),en P a274 811 (.ref 474),en P a275 818 (.ref 481),en P a276 825 (.ref 488),en P a277 832 (.ref 495),en P a278 839 (.ref 502),en P a279 846 (.ref 509),en P a281 853 (.ref 516),en P a282 863 (.ref 524),en P a283 871 (.ref 532),en P a284 883 (.ref 540),en P a288 893 (.ref 548),en P a289 903 (.ref 556),en P a290 910 (.ref 563),en P a291 918 (.ref 570),en P a292 930 (.ref 577),en P a293 938 (.ref 584),en P a216 945 (.ref 591),en P a200 949 (.ref 592),en P a2 950 .none] 2
def o594 : Obj:=⟨zt24,none,(.cls ⟨a236,[(.ref 117)],[(.ref 594),(.ref 117),(.ref 90),zt15],593,a236,true,[],[],false,none,false⟩),⟨[some (.ref 350),none,some (.str a236 666),some (.str a236 674),some .none,some (.bool true)]⟩⟩
def o595:=zF zt22 [(.ref 594),(.ref 594),(.ref 594)]
def o596:=zF zt104 [(.builtin SL.s4860613602091757760x24),(.ref 594)]
def o599:=zQ zt23 [(.str a206 958),(.str a394 959),(.str a395 960)]
def o601:=zV (st1 14) a237 a237
def o602:=zC zt97 a237 a237 955 961 413 2 0 3 273 597 true [.none,(.ref 599),(.ref 600),(.ref 601)]
def o603 : Obj:=⟨zt103,none,(.func (fd (st1 14) a237 a237 3 [] .none .none .none (.str a396 953) none (.ref 602) .none 0)),⟨[]⟩⟩
def o606:=zQ zt23 [(.str a206 967),(.str a394 968),(.str a252 969)]
def o608:=zV (st1 15) a238 a238
def o609:=zC zt97 a238 a238 964 970 434 2 0 3 273 604 true [.none,(.ref 606),(.ref 607),(.ref 608)]
def o610 : Obj:=⟨zt103,none,(.func (fd (st1 15) a238 a238 3 [] .none .none .none (.str a396 953) none (.ref 609) .none 0)),⟨[]⟩⟩
def o613:=zQ zt23 [(.str a397 976),(.str a262 977),(.str a353 978),(.str a252 979)]
def o615:=zV (st1 16) a239 a239
def o616:=zC zt97 a239 a239 973 980 439 1 0 7 273 611 true [.none,(.ref 613),(.ref 614),(.ref 615)]
def o617 : Obj:=⟨zt103,none,(.func (fd (st1 16) a239 a239 3 [] .none .none .none (.str a396 953) none (.ref 616) .none 0)),⟨[]⟩⟩
def o620:=zQ zt23 [(.str a353 986)]
def o622:=zV (st1 17) a240 a240
def o623:=zC zt97 a240 a240 983 987 444 1 0 3 273 618 true [.none,(.ref 620),(.ref 621),(.ref 622)]
def o624 : Obj:=⟨zt103,none,(.func (fd (st1 17) a240 a240 3 [] .none .none .none (.str a396 953) none (.ref 623) .none 0)),⟨[]⟩⟩
def o627:=zQ zt23 [(.str a398 993),(.str a399 994),(.str a334 995),(.str a400 996),(.str a401 997)]
def o629:=zV (st1 18) a241 a241
def o630:=zC zt97 a241 a241 990 998 447 1 0 7 273 625 true [.none,(.ref 627),(.ref 628),(.ref 629)]
def o631 : Obj:=⟨zt103,none,(.func (fd (st1 18) a241 a241 3 [] .none .none .none (.str a396 953) none (.ref 630) .none 0)),⟨[]⟩⟩
def o634:=zQ zt23 [(.str a399 1004),(.str a400 1005),(.str a302 1006),(.str a402 1007)]
def o636:=zV (st1 19) a242 a242
def o637:=zC zt97 a242 a242 1001 1008 467 1 0 3 273 632 true [.none,(.ref 634),(.ref 635),(.ref 636)]
def o638 : Obj:=⟨zt103,none,(.func (fd (st1 19) a242 a242 3 [] .none .none .none (.str a396 953) none (.ref 637) .none 0)),⟨[]⟩⟩
def o640:=zF zt104 [(.builtin SL.s10062305145149207511x16),zt24]
def o641:=zD zt0 [zE P a188 1020 a403 1011,zE P a259 1022 a243 1021,en P a190 1024 (zI 476 1023),en P a215 1036 (.ref 653),en P a404 1044 (.ref 661),en P a405 1052 (.ref 668),en P a406 1061 (.ref 676),en P a407 1068 (.ref 683),en P a408 1080 (.ref 690),en P a409 1091 (.ref 697),en P a410 1099 (.ref 704),en P a411 1108 (.ref 712),en P a290 1115 (.ref 719),en P a291 1123 (.ref 726),en P a200 1144 (.ref 727)] 15
def o643:=zF .none (zJ [478,4,652,520,4,659,523,4,667,526,4,675,539,4,682,546,4,689,573,4,696,710,4,703,717,4,711,720,4,718,723,4,725])
def o644:=zC zt97 a243 a243 1015 1018 476 0 0 0 273 642 false [.none,.none,.none,.none]
def o645 : Obj:=⟨zt98,none,.plain,⟨[some (.ref 644),some (.ref 3),some (.ref 641),none,some (.str a403 1011),none,some (.ref 0)]⟩⟩
def o646:=zQ zt23 [.none,.none,(.bool false),(.bool false)]
def o649:=zQ zt23 [(.str a294 1028),(.str a412 1029),(.str a413 1030),(.str a414 1031),(.str a404 1032),(.str a395 1033)]
def o651:=zV (st2 21 0) a215 a415
def o652:=zC zt97 a215 a415 1025 1034 478 5 0 3 273 647 true [.none,(.ref 649),(.ref 650),(.ref 651)]
def o653 : Obj:=⟨zt103,none,(.func (fd (st2 21 0) a215 a415 3 [] (.ref 646) .none .none (.str a403 1011) none (.ref 652) .none 0)),⟨[]⟩⟩
def o656:=zQ zt23 [(.str a294 1040)]
def o658:=zV (st2 21 1) a404 a416
def o659:=zC zt97 a404 a416 1037 1041 519 1 0 3 273 654 true [.none,(.ref 656),(.ref 657),(.ref 658)]
def o660 : Obj:=⟨zt103,none,(.func (fd (st2 21 1) a404 a416 3 [] .none .none .none (.str a403 1011) none (.ref 659) .none 0)),⟨[]⟩⟩
def o661:=zF zt11 [(.ref 660),.none,.none,.none,(.str a404 1044),(.bool false)]
def o664:=zQ zt23 [(.str a294 1048),(.str a417 1049)]
def o666:=zV (st2 21 2) a405 a418
def o667:=zC zt97 a405 a418 1045 1050 523 2 0 3 273 662 true [.none,(.ref 664),(.ref 665),(.ref 666)]
def o668 : Obj:=⟨zt103,none,(.func (fd (st2 21 2) a405 a418 3 [] .none .none .none (.str a403 1011) none (.ref 667) .none 0)),⟨[]⟩⟩
def o669:=zQ zt23 [.none]
def o672:=zQ zt23 [(.str a294 1056),(.str a419 1057),(.str a420 1058)]
def o674:=zV (st2 21 3) a406 a421
def o675:=zC zt97 a406 a421 1053 1059 526 3 0 3 273 670 true [.none,(.ref 672),(.ref 673),(.ref 674)]
def o676 : Obj:=⟨zt103,none,(.func (fd (st2 21 3) a406 a421 3 [] (.ref 669) .none .none (.str a403 1011) none (.ref 675) .none 0)),⟨[]⟩⟩
def o679:=zQ zt23 [(.str a294 1065)]
def o681:=zV (st2 21 4) a407 a422
def o682:=zC zt97 a407 a422 1062 1066 539 1 0 3 273 677 true [.none,(.ref 679),(.ref 680),(.ref 681)]
def o683 : Obj:=⟨zt103,none,(.func (fd (st2 21 4) a407 a422 3 [] .none .none .none (.str a403 1011) none (.ref 682) .none 0)),⟨[]⟩⟩
def o686:=zQ zt23 [(.str a294 1072),(.str a417 1073),(.str a423 1074),(.str a424 1075),(.str a420 1076),(.str a419 1077)]
def o688:=zV (st2 21 5) a408 a425
def o689:=zC zt97 a408 a425 1069 1078 546 1 0 3 273 684 true [.none,(.ref 686),(.ref 687),(.ref 688)]
def o690 : Obj:=⟨zt103,none,(.func (fd (st2 21 5) a408 a425 3 [] .none .none .none (.str a403 1011) none (.ref 689) .none 0)),⟨[]⟩⟩
def o693:=zQ zt23 [(.str a294 1084),(.str a426 1085),(.str a427 1086),(.str a428 1087),(.str a429 1088)]
def o695:=zV (st2 21 6) a409 a430
def o696:=zC zt97 a409 a430 1081 1089 573 1 0 3 273 691 true [.none,(.ref 693),(.ref 694),(.ref 695)]
def o697 : Obj:=⟨zt103,none,(.func (fd (st2 21 6) a409 a430 3 [] .none .none .none (.str a403 1011) none (.ref 696) .none 0)),⟨[]⟩⟩
def o700:=zQ zt23 [(.str a294 1095),(.str a420 1096)]
def o702:=zV (st2 21 7) a410 a431
def o703:=zC zt97 a410 a431 1092 1097 710 2 0 3 273 698 true [.none,(.ref 700),(.ref 701),(.ref 702)]
def o704 : Obj:=⟨zt103,none,(.func (fd (st2 21 7) a410 a431 3 [] .none .none .none (.str a403 1011) none (.ref 703) .none 0)),⟨[]⟩⟩
def o705:=zQ zt23 [.none,.none]
def o708:=zQ zt23 [(.str a294 1103),(.str a413 1104),(.str a432 1105)]
def o710:=zV (st2 21 8) a411 a433
def o711:=zC zt97 a411 a433 1100 1106 717 3 0 3 273 706 true [.none,(.ref 708),(.ref 709),(.ref 710)]
def o712 : Obj:=⟨zt103,none,(.func (fd (st2 21 8) a411 a433 3 [] (.ref 705) .none .none (.str a403 1011) none (.ref 711) .none 0)),⟨[]⟩⟩
def o715:=zQ zt23 [(.str a294 1112)]
def o717:=zV (st2 21 9) a290 a434
def o718:=zC zt97 a290 a434 1109 1113 720 1 0 3 273 713 true [.none,(.ref 715),(.ref 716),(.ref 717)]
def o719 : Obj:=⟨zt103,none,(.func (fd (st2 21 9) a290 a434 3 [] .none .none .none (.str a403 1011) none (.ref 718) .none 0)),⟨[]⟩⟩
def o722:=zQ zt23 [(.str a294 1119),(.str a435 1120)]
def o724:=zV (st2 21 10) a291 a436
def o725:=zC zt97 a291 a436 1116 1121 723 1 0 3 273 720 true [.none,(.ref 722),(.ref 723),(.ref 724)]
def o726 : Obj:=⟨zt103,none,(.func (fd (st2 21 10) a291 a436 3 [] .none .none .none (.str a403 1011) none (.ref 725) .none 0)),⟨[]⟩⟩
def o727:=zQ zt23 [(.str a437 1124),(.str a438 1125),(.str a439 1126),(.str a440 1127),(.str a441 1128),(.str a442 1129),(.str a443 1130),(.str a444 1131),(.str a413 1132),(.str a412 1133),(.str a432 1134),(.str a414 1135),(.str a445 1136),(.str a446 1137),(.str a447 1138),(.str a448 1139),(.str a435 1140),(.str a449 1141),(.str a450 1142),(.str a451 1143)]
def o728:=zD zt0 [zE P a188 1020 a403 1011,en P a190 1024 (zI 476 1023),en P a215 1036 (.ref 653),en P a404 1044 (.ref 661),en P a405 1052 (.ref 668),en P a406 1061 (.ref 676),en P a407 1068 (.ref 683),en P a408 1080 (.ref 690),en P a409 1091 (.ref 697),en P a410 1099 (.ref 704),en P a411 1108 (.ref 712),en P a290 1115 (.ref 719),en P a291 1123 (.ref 726),en P a200 1144 (.ref 727),en P a201 1146 (.ref 730),en P a202 1148 (.ref 731),en P a2 1149 .none] 4
def o729 : Obj:=⟨zt24,none,(.cls ⟨a243,[zt15],[(.ref 729),zt15],728,a243,true,[],[],false,none,false⟩),⟨[none,none,some (.str a243 1013),some (.str a243 1021),some (.builtin SL.s11443829558043349243x14),some (.bool true)]⟩⟩
def o730:=zF zt102 [(.str a201 1145),(.ref 729),(.builtin SL.s6511155373996960695x17),(.builtin SL.s12411053484034534018x21)]
def o731:=zF zt102 [(.str a202 1147),(.ref 729),(.builtin SL.s10220274742760427390x26),.none]
def o732:=zF zt22 [(.ref 729),(.ref 729),(.ref 729)]
def o733:=zF zt104 [(.builtin SL.s4860613602091757760x24),(.ref 729)]
def o734:=zQ zt23 [(.bool false),(.bool true)]
def o737:=zQ zt23 [(.str a353 1155),(.str a452 1156),(.str a414 1157),(.str a453 1158)]
def o739:=zV (st1 22) a244 a244
def o740:=zC zt97 a244 a244 1152 1159 728 3 0 3 273 735 true [.none,(.ref 737),(.ref 738),(.ref 739)]
def o741 : Obj:=⟨zt103,none,(.func (fd (st1 22) a244 a244 3 [] (.ref 734) .none .none (.str a403 1011) none (.ref 740) .none 0)),⟨[]⟩⟩
def o744:=zQ zt23 [(.str a394 1167),(.str a454 1168)]
def o746:=zV (st1 24) a245 a245
def o747:=zC zt97 a245 a245 1164 1169 737 1 0 3 273 742 true [.none,(.ref 744),(.ref 745),(.ref 746)]
def o748 : Obj:=⟨zt103,none,(.func (fd (st1 24) a245 a245 3 [] .none .none .none (.str a226 1162) none (.ref 747) .none 0)),⟨[]⟩⟩
def o751:=zQ zt23 [(.str a253 1175),(.str a455 1176),(.str a456 1177),(.str a457 1178)]
def o753:=zV (st1 25) a246 a246
def o754:=zC zt97 a246 a246 1172 1179 744 1 0 3 273 749 true [.none,(.ref 751),(.ref 752),(.ref 753)]
def o755 : Obj:=⟨zt103,none,(.func (fd (st1 25) a246 a246 3 [] .none .none .none (.str a226 1162) none (.ref 754) .none 0)),⟨[]⟩⟩
def o758:=zQ zt23 [(.str a455 1185),(.str a458 1186),(.str a459 1187),(.str a460 1188),(.str a457 1189),(.str a461 1190)]
def o760:=zV (st1 26) a247 a247
def o761:=zC zt97 a247 a247 1182 1191 777 1 0 3 273 756 true [.none,(.ref 758),(.ref 759),(.ref 760)]
def o762 : Obj:=⟨zt103,none,(.func (fd (st1 26) a247 a247 3 [] .none .none .none (.str a226 1162) none (.ref 761) .none 0)),⟨[]⟩⟩
def o765:=zQ zt23 [(.str a455 1197),(.str a462 1198),(.str a463 1199),(.str a460 1200),(.str a457 1201),(.str a464 1202)]
def o767:=zV (st1 27) a248 a248
def o768:=zC zt97 a248 a248 1194 1203 788 1 0 3 273 763 true [.none,(.ref 765),(.ref 766),(.ref 767)]
def o769 : Obj:=⟨zt103,none,(.func (fd (st1 27) a248 a248 3 [] .none .none .none (.str a226 1162) none (.ref 768) .none 0)),⟨[]⟩⟩
def o772:=zQ zt23 [(.str a253 1209),(.str a465 1210)]
def o774:=zV (st1 28) a249 a249
def o775:=zC zt97 a249 a249 1206 1211 801 1 0 3 273 770 true [.none,(.ref 772),(.ref 773),(.ref 774)]
def o776 : Obj:=⟨zt103,none,(.func (fd (st1 28) a249 a249 3 [] .none .none .none (.str a226 1162) none (.ref 775) .none 0)),⟨[]⟩⟩
def o779:=zQ zt23 [(.str a253 1217),(.str a465 1218)]
def o781:=zV (st1 29) a250 a250
def o782:=zC zt97 a250 a250 1214 1219 806 1 0 3 273 777 true [.none,(.ref 779),(.ref 780),(.ref 781)]
def o783 : Obj:=⟨zt103,none,(.func (fd (st1 29) a250 a250 3 [] .none .none .none (.str a226 1162) none (.ref 782) .none 0)),⟨[]⟩⟩
def o786:=zV (st1 30) a251 a251
def o787:=zC zt97 a251 a251 1222 1225 811 1 0 3 273 784 true [.none,.none,.none,(.ref 786)]
def o788 : Obj:=⟨zt103,none,(.func (fd (st1 30) a251 a251 3 [] .none .none .none (.str a226 1162) none (.ref 787) .none 0)),⟨[]⟩⟩
def p2:=zD .none [en P a162 185 (.bool true),en P a163 187 (.ref 15),en P a164 208 (.ref 19),en P a165 218 (.ref 23),en P a166 247 (zI 3 0),en P a167 248 (.bool true),en P a168 263 (.bool true),en P a169 265 (.ref 28),zE P a170 0 a171 0,zE P a172 266 a173 0] 10
def p3:=zD zt0 [zE P a0 165 a160 164,en P a2 166 .none,en P a3 167 .none,en P a4 168 (.builtin SL.s7097527257260152453x26),en P a5 169 .none,en P a174 170 (.ref 6),en P a175 171 (.ref 4),zE P a176 173 a177 172,en P a178 174 .none,en P a179 272 zt95] 10
def q30 : Obj:=zN
noncomputable def H0 : Heap:=⟨⟨[o0 P,o1 P,p2 P,p3 P,o4,o5,o6,zw,zN,o9,o10,o11,o12 P,o13,o14 P,o15,zw,o17,o18,o19,o20,o21 P,o22 P,o23,o24,o25,o26,o27,o28]⟩,lf⟩
noncomputable def T0 : BT:=(zk (o0 P) (zk (o1 P) (zk (p3 P) (zk zw (zl o15) (zl o23)) (zk o11 (zl o19) (zl o27))) (zk o5 (zk o9 (zl o17) (zl o25)) (zk o13 (zl (o21 P)) .nil))) (zk (p2 P) (zk o4 (zk zN (zl zw) (zl o24)) (zk (o12 P) (zl o20) (zl o28))) (zk o6 (zk o10 (zl o18) (zl o26)) (zk (o14 P) (zl (o22 P)) .nil))))
noncomputable def Tf : BT:=(zk (o0 P) (zk (o1 P) (zk (o3 P) (zk zw (zk o15 (zk o31 (zk (o63 P) (zk o127 (zk o255 (zl zN) (zl o767)) (zk o383 (zl zw) .nil)) (zk o191 (zk o319 (zl o575) .nil) (zk zw (zl o703) .nil))) (zk o95 (zk o159 (zk zw (zl zN) .nil) (zk o415 (zl zN) .nil)) (zk zw (zk o351 (zl zw) .nil) (zk o479 (zl zw) .nil)))) (zk zw (zk o79 (zk zN (zk o271 (zl zN) (zl o783)) (zk o399 (zl zN) .nil)) (zk zN (zk o335 (zl o591) .nil) (zk o463 (zl o719) .nil))) (zk zw (zk o175 (zk zw (zl o559) .nil) (zk o431 (zl zw) .nil)) (zk o239 (zk o367 (zl o623) .nil) (zk o495 (zl o751) .nil))))) (zk o23 (zk o39 (zk o71 (zk zw (zk o263 (zl zN) (zl o775)) (zk o391 (zl zw) .nil)) (zk zw (zk zw (zl o583) .nil) (zk zN (zl o711) .nil))) (zk zw (zk zw (zk zw (zl zN) .nil) (zk o423 (zl o679) .nil)) (zk o231 (zk zN (zl o615) .nil) (zk o487 (zl zN) .nil)))) (zk zN (zk o87 (zk o151 (zk o279 (zl zN) .nil) (zk o407 (zl zN) .nil)) (zk o215 (zk o343 (zl o599) .nil) (zk zw (zl o727) .nil))) (zk o119 (zk o183 (zk zN (zl zw) .nil) (zk o439 (zl o695) .nil)) (zk o247 (zk zw (zl o631) .nil) (zk zw (zl zw) .nil)))))) (zk o11 (zk o19 (zk o35 (zk o67 (zk zw (zk o259 (zl o515) (zl zN)) (zk zN (zl o643) .nil)) (zk zw (zk o323 (zl zN) .nil) (zk o451 (zl zN) .nil))) (zk zw (zk o163 (zk o291 (zl o547) .nil) (zk o419 (zl o675) .nil)) (zk zw (zk o355 (zl zw) .nil) (zk zN (zl o739) .nil)))) (zk o51 (zk o83 (zk o147 (zk o275 (zl o531) (zl o787)) (zk o403 (zl o659) .nil)) (zk o211 (zk zN (zl o595) .nil) (zk o467 (zl zw) .nil))) (zk zw (zk zN (zk o307 (zl o563) .nil) (zk o435 (zl zw) .nil)) (zk o243 (zk o371 (zl o627) .nil) (zk zw (zl o755) .nil))))) (zk o27 (zk zw (zk o75 (zk o139 (zk o267 (zl o523) (zl o779)) (zk o395 (zl o651) .nil)) (zk o203 (zk zw (zl o587) .nil) (zk o459 (zl o715) .nil))) (zk o107 (zk zw (zk o299 (zl o555) .nil) (zk o427 (zl o683) .nil)) (zk zN (zk o363 (zl zN) .nil) (zk o491 (zl o747) .nil)))) (zk o59 (zk o91 (zk o155 (zk zw (zl o539) .nil) (zk o411 (zl o667) .nil)) (zk o219 (zk o347 (zl o603) .nil) (zk zw (zl o731) .nil))) (zk zw (zk o187 (zk o315 (zl zw) .nil) (zk zw (zl zN) .nil)) (zk o251 (zk zw (zl zw) .nil) (zk o507 (zl zw) .nil))))))) (zk o5 (zk o9 (zk o17 (zk zw (zk zN (zk zN (zk zw (zl zw) (zl o769)) (zk o385 (zl (o641 P)) .nil)) (zk zN (zk o321 (zl o577) .nil) (zk o449 (zl o705) .nil))) (zk o97 (zk o161 (zk o289 (zl zw) .nil) (zk zw (zl zw) .nil)) (zk o225 (zk zw (zl o609) .nil) (zk o481 (zl o737) .nil)))) (zk o49 (zk zw (zk zw (zk zw (zl zw) (zl zN)) (zk zw (zl zw) .nil)) (zk zw (zk o337 (zl (o593 P)) .nil) (zk o465 (zl zN) .nil))) (zk o113 (zk o177 (zk o305 (zl o561) .nil) (zk zw (zl o689) .nil)) (zk zw (zk o369 (zl zw) .nil) (zk zN (zl o753) .nil))))) (zk o25 (zk zN (zk o73 (zk o137 (zk zw (zl zw) (zl zw)) (zk zw (zl o649) .nil)) (zk o201 (zk o329 (zl zw) .nil) (zk zw (zl zw) .nil))) (zk o105 (zk o169 (zk o297 (zl zw) .nil) (zk zw (zl o681) .nil)) (zk o233 (zk zw (zl o617) .nil) (zk zw (zl zw) .nil)))) (zk zw (zk (o89 P) (zk o153 (zk zN (zl zw) .nil) (zk zw (zl zw) .nil)) (zk o217 (zk o345 (zl o601) .nil) (zk o473 (zl o729) .nil))) (zk o121 (zk zw (zk zw (zl o569) .nil) (zk zN (zl o697) .nil)) (zk zw (zk o377 (zl zN) .nil) (zk o505 (zl o761) .nil)))))) (zk o13 (zk (o21 P) (zk o37 (zk (o69 P) (zk o133 (zk o261 (zl o517) (zl zw)) (zk zw (zl o645) .nil)) (zk o197 (zk zN (zl zw) .nil) (zk o453 (zl zw) .nil))) (zk o101 (zk zN (zk o293 (zl o549) .nil) (zk o421 (zl zw) .nil)) (zk o229 (zk o357 (zl o613) .nil) (zk zw (zl o741) .nil)))) (zk o53 (zk o85 (zk zw (zk o277 (zl o533) .nil) (zk o405 (zl o661) .nil)) (zk zw (zk zw (zl zw) .nil) (zk zN (zl o725) .nil))) (zk o117 (zk zw (zk o309 (zl zN) .nil) (zk o437 (zl o693) .nil)) (zk o245 (zk zN (zl o629) .nil) (zk o501 (zl zN) .nil))))) (zk zw (zk o45 (zk zw (zk o141 (zk o269 (zl o525) (zl o781)) (zk o397 (zl o653) .nil)) (zk o205 (zk o333 (zl o589) .nil) (zk zw (zl o717) .nil))) (zk o109 (zk o173 (zk o301 (zl zw) .nil) (zk o429 (zl zN) .nil)) (zk zw (zk zw (zl zw) .nil) (zk o493 (zl zw) .nil)))) (zk o61 (zk o93 (zk zw (zk o285 (zl o541) .nil) (zk o413 (zl o669) .nil)) (zk zN (zk o349 (zl zN) .nil) (zk o477 (zl o733) .nil))) (zk o125 (zk o189 (zk zw (zl o573) .nil) (zk o445 (zl zw) .nil)) (zk o253 (zk o381 (zl o637) .nil) (zk o509 (zl o765) .nil)))))))) (zk (o2 P) (zk o4 (zk zN (zk zw (zk o32 (zk zw (zk zw (zk o256 (zl o512) (zl o768)) (zk o384 (zl o640) .nil)) (zk zw (zk zw (zl o576) .nil) (zk zN (zl o704) .nil))) (zk o96 (zk zw (zk zN (zl o544) .nil) (zk o416 (zl o672) .nil)) (zk o224 (zk (o352 P) (zl o608) .nil) (zk o480 (zl zN) .nil)))) (zk zN (zk o80 (zk o144 (zk o272 (zl o528) (zl zw)) (zk o400 (zl o656) .nil)) (zk o208 (zk o336 (zl o592) .nil) (zk zw (zl zw) .nil))) (zk zN (zk o176 (zk zN (zl zw) .nil) (zk o432 (zl o688) .nil)) (zk o240 (zk zw (zl o624) .nil) (zk zw (zl zw) .nil))))) (zk o24 (zk zw (zk o72 (zk zN (zk o264 (zl o520) (zl o776)) (zk o392 (zl zN) .nil)) (zk zN (zk o328 (zl o584) .nil) (zk o456 (zl o712) .nil))) (zk (o104 P) (zk o168 (zk zN (zl o552) .nil) (zk o424 (zl zw) .nil)) (zk o232 (zk o360 (zl o616) .nil) (zk o488 (zl o744) .nil)))) (zk o56 (zk zw (zk zw (zk zw (zl o536) .nil) (zk o408 (zl o664) .nil)) (zk zw (zk o344 (zl zw) .nil) (zk o472 (zl (o728 P)) .nil))) (zk o120 (zk o184 (zk o312 (zl o568) .nil) (zk zw (zl o696) .nil)) (zk o248 (zk o376 (zl zw) .nil) (zk zN (zl o760) .nil)))))) (zk (o12 P) (zk o20 (zk zw (zk zw (zk o132 (zk zw (zl o516) (zl o772)) (zk o388 (zl o644) .nil)) (zk o196 (zk zw (zl o580) .nil) (zk o452 (zl o708) .nil))) (zk zN (zk zw (zk o292 (zl o548) .nil) (zk zw (zl o676) .nil)) (zk zN (zk o356 (zl zN) .nil) (zk o484 (zl o740) .nil)))) (zk o52 (zk zw (zk o148 (zk zw (zl o532) (zl o788)) (zk zw (zl o660) .nil)) (zk o212 (zk o340 (zl o596) .nil) (zk zw (zl o724) .nil))) (zk (o116 P) (zk o180 (zk o308 (zl zw) .nil) (zk zw (zl zN) .nil)) (zk zw (zk zw (zl zw) .nil) (zk o500 (zl zw) .nil))))) (zk o28 (zk o44 (zk (o76 P) (zk o140 (zk zw (zl o524) (zl zw)) (zk zw (zl o652) .nil)) (zk o204 (zk zN (zl zw) .nil) (zk o460 (zl zw) .nil))) (zk o108 (zk zN (zk o300 (zl o556) .nil) (zk zw (zl zw) .nil)) (zk o236 (zk o364 (zl o620) .nil) (zk zw (zl o748) .nil)))) (zk o60 (zk o92 (zk o156 (zk o284 (zl o540) .nil) (zk zw (zl o668) .nil)) (zk zw (zk o348 (zl zw) .nil) (zk zN (zl o732) .nil))) (zk o124 (zk zw (zk o316 (zl zN) .nil) (zk o444 (zl o700) .nil)) (zk zw (zk zN (zl o636) .nil) (zk o508 (zl zN) .nil))))))) (zk o6 (zk o10 (zk o18 (zk zN (zk o66 (zk o130 (zk zN (zl o514) (zl zw)) (zk zw (zl zw) .nil)) (zk o194 (zk o322 (zl zw) .nil) (zk zw (zl zw) .nil))) (zk (o98 P) (zk o162 (zk zw (zl o546) .nil) (zk zN (zl o674) .nil)) (zk o226 (zk o354 (zl o610) .nil) (zk zw (zl zw) .nil)))) (zk zw (zk zN (zk o146 (zk zN (zl o530) (zl o786)) (zk zN (zl o658) .nil)) (zk o210 (zk zw (zl o594) .nil) (zk o466 (zl o722) .nil))) (zk o114 (zk zw (zk zw (zl o562) .nil) (zk zN (zl o690) .nil)) (zk zN (zk o370 (zl zN) .nil) (zk o498 (zl o754) .nil))))) (zk o26 (zk o42 (zk zw (zk zw (zk zN (zl o522) (zl zN)) (zk zN (zl zw) .nil)) (zk zw (zk o330 (zl zN) .nil) (zk o458 (zl zN) .nil))) (zk o106 (zk o170 (zk zw (zl o554) .nil) (zk zN (zl o682) .nil)) (zk zw (zk o362 (zl zw) .nil) (zk zN (zl o746) .nil)))) (zk o58 (zk o90 (zk o154 (zk o282 (zl o538) .nil) (zk zN (zl o666) .nil)) (zk o218 (zk (o346 P) (zl o602) .nil) (zk o474 (zl o730) .nil))) (zk (o122 P) (zk zN (zk o314 (zl o570) .nil) (zk o442 (zl zw) .nil)) (zk zN (zk o378 (zl o634) .nil) (zk zw (zl o762) .nil)))))) (zk (o14 P) (zk (o22 P) (zk o38 (zk o70 (zk o134 (zk o262 (zl zw) (zl o774)) (zk o390 (zl o646) .nil)) (zk o198 (zk o326 (zl o582) .nil) (zk zw (zl o710) .nil))) (zk o102 (zk o166 (zk o294 (zl zw) .nil) (zk o422 (zl zN) .nil)) (zk zw (zk zw (zl zw) .nil) (zk o486 (zl zw) .nil)))) (zk zw (zk o86 (zk zN (zk o278 (zl zw) .nil) (zk o406 (zl zw) .nil)) (zk zN (zk o342 (zl zN) .nil) (zk o470 (zl o726) .nil))) (zk o118 (zk o182 (zk zw (zl o566) .nil) (zk o438 (zl zw) .nil)) (zk o246 (zk o374 (zl o630) .nil) (zk o502 (zl o758) .nil))))) (zk o30 (zk o46 (zk o78 (zk zw (zk o270 (zl zw) (zl o782)) (zk o398 (zl zw) .nil)) (zk zw (zk zw (zl o590) .nil) (zk zN (zl o718) .nil))) (zk (o110 P) (zk zw (zk o302 (zl zN) .nil) (zk o430 (zl o686) .nil)) (zk o238 (zk zN (zl o622) .nil) (zk o494 (zl zN) .nil)))) (zk o62 (zk o94 (zk zN (zk o286 (zl zw) .nil) (zk o414 (zl zw) .nil)) (zk o222 (zk o350 (zl o606) .nil) (zk zw (zl o734) .nil))) (zk o126 (zk o190 (zk zN (zl zw) .nil) (zk o446 (zl o702) .nil)) (zk o254 (zk zw (zl o638) .nil) (zk zw (zl zw) .nil)))))))))
end
section
open PySem PySem.W PyProof.Rows
noncomputable def denF : Code->Sem Fin:=Fast.tw11892475500146522536 Fast.tw14364793385576792824
theorem denF_eq : denote treeTable = denF:=by
 unfold denF
 rw [← Fast.te11892475500146522536,← Fast.te14364793385576792824]
noncomputable def runT (w : World) : Nat->SharedT->Thread->Option SharedT
 | 0,_,_=>none
 | n + 1,s,t=>match through t with
  | true=>some s
  | false=>match Fast.tw6613529449190102663 29 (some (.ref 6)) t with
   | false=>none
   | true=>match Fast.tw10156331382660048174 denF pw w s t with
    | some (s',t')=>runT w n s' t'
    | none=>none
theorem runT_spec (w : World) : ∀ (n : Nat) (s s' : SharedT) (t : Thread),runT w n s t = some s'->topRun treeTable pw w 29 (some (.ref 6)) n s.abs t = some s'.abs
 | 0,_,_,_,h=>by cases h
 | n + 1,s,s',t,h=>by
  unfold runT at h
  unfold topRun
  rw [← Fast.te6613529449190102663,← Fast.te10156331382660048174,← denF_eq] at h
  cases ht : through t with
  | true =>
   rw [ht] at h
   cases h
   rfl
  | false =>
   rw [ht] at h
   dsimp only at h ⊢
   cases hk : stepOk 29 (some (.ref 6)) t with
   | false=>rw [hk] at h; cases h
   | true =>
    rw [hk] at h
    dsimp only at h ⊢
    cases hs : stepT (denote treeTable) pw w s t with
    | none=>rw [hs] at h; cases h
    | some y =>
     obtain ⟨s2,t2⟩:=y
     rw [hs] at h
     rw [stepT_spec hs]
     exact runT_spec w n s2 s' t2 h
theorem top (w : World) (os : OsState) : runT w 5200 ⟨T0 w.params,29,lf,#[],{},273,os⟩ (topStub pw) = some ⟨Tf w.params,789,lf,#[],{},1228,os⟩:=by
 kernel_rfl
theorem opened (w : World) : (fencedOpening treeTable pw w 5300).map (fun s=>(s.heap,s.gens,s.drawn,s.toks)) = some (H0 w.params,#[],{},273):=by
 unfold fencedOpening
 rw [Fast.te10274390034422433532,Fast.te14364793385576792824,Fast.te14289696077712309145,Fast.te1435165496053646825]
 kernel_rfl
noncomputable def qv : Program:={ pw with main:={ pw.main with body:=[st1 30] } }
noncomputable def loose : List Str:=["deque","_wall","replace","_whence","_index","UnsupportedOperation","IOBase","BufferedIOBase","TextIOBase","BytesIO","StringIO","_kind","_fspath","_check_arg_types","isabs","join","dirname","shlex","split","_law_sign","_law_parts","_law_of_lexer","_law_of_split","_law_lexed","_law_split"]
noncomputable def H1 (P : Params) : Heap:=absHeap (Tf P) 789 lf
theorem sized (w : World) : ((H0 w.params).isNs mainGlobals && (#[] : Array GenState).size == 0,(H0 w.params).objs.size,(H0 w.params).nsMap mainGlobals "__annotations__") = (true,29,some (.ref 6)):=by
 kernel_rfl
theorem look1 (w : World) (os : OsState) : (staticsOk (importedModules pw.main.body) (H0 w.params) (H1 w.params) && namesBound pw (H1 w.params) && gensDone ⟨H1 w.params,#[],{},1228,os⟩ && laidKept (H0 w.params) (H1 w.params)) = true:=by
 kernel_rfl
theorem look2 (w : World) (os : OsState) : openSeen qv loose (importedModules pw.main.body) (fun _=>true) true ⟨H1 w.params,#[],{},1228,os⟩ = openGood qv loose:=by
 rw [Fast.te4187177175401517315]
 kernel_rfl
abbrev rwl : OpenLaw:=PySem.Challenge.rw_ox0105_01
noncomputable def Yf (s : Shared) : Heap × Nat:=(s.heap,s.toks)
noncomputable def Ya (w : World) : Heap × Nat:=(H1 w.params,1228)
theorem ran (w : World) (os : OsState) : topRun treeTable pw w 29 (some (.ref 6)) 5200 ⟨H0 w.params,#[],{},273,os⟩ (topStub pw) = some ⟨H1 w.params,#[],{},1228,os⟩:=by
 have h:=runT_spec w 5200 _ _ _ (top w os)
 have e : absHeap (T0 w.params) 29 lf = H0 w.params:=by kernel_rfl
 unfold SharedT.abs at h
 dsimp only at h
 rw [e] at h
 exact h
theorem left : LeftO pw qv loose (fun _=>true) Yf Ya 5300:=by
 refine LeftO.of_pieces opened sized ran (by decide) fun w=>?_
 funext os
 rw [look1 w os,look2 w os]
 rfl
theorem said1 : noRoadLSs { strict:=!(importedModules pw.main.body).all cThrough.contains,foot:=none,bare:=List.filter (readsOut pw pw.main.body) ["vars","dir","locals"] } pw.main.body = true:=by
 rw [Fast.te17691160309236699985,Fast.te13343964577679436407,Fast.te8326940854005059898]; kernel_rfl
theorem looks : looksOpen pw = true:=by
 unfold looksOpen
 rw [said1,Fast.te8377067652309620493,Fast.te17119622794617984870,Fast.te17868728402115742887,Fast.te11788848310118352699]
 kernel_rfl
theorem said : rwl.wellSaid = true:=by
 refine (congrFun Fast.te9446332074065402090 _).trans ?_
 unfold Fast.tw9446332074065402090 Fast.tw17960256430627541270 Fast.tw2436336058641802641
 rw [show Fast.tw12908688711261696721 (Fast.tw2368527892694137696 rwl).prog = true from (congrFun Fast.te12908688711261696721 pw).symm.trans looks]
 decide +kernel
end
section
open PySem PySem.W PySem.W.X PyProof.Rows
noncomputable def lawRec : DefRec:=⟨"law",fArgs (st1 30),fBody (st1 30),fScope (st1 30),⟨811,0,818,81⟩⟩
theorem chains : chainsOk qv = true:=by kernel_rfl
theorem opens : opensWell pw = true:=by kernel_rfl
theorem whole : pw.tablesWhole = true:=by kernel_rfl
theorem head0 (call : WalkX qv loose (fun _ _=>True) Yf Ya rwl.row.toRowW lawRec [] fun f vs=>PySem.call f vs) : rwl.Holds:=by
 refine ⟨said,?_⟩
 refine holds_openX (r:=rwl.row) (q:=qv) (loose:=loose) (d:=lawRec) (kwd:=[]) left (fun _ _=>trivial) (fun _ _ _ _ _=>trivial) ?_ ?_ ?_ (fun _ _=>recFacts_nil rfl) ?_ (row_said said) ?_ ?_ ?_ call
 ·kernel_rfl
 ·kernel_rfl
 ·kernel_rfl
 ·rfl
 ·show (chainsOk qv && opensWell pw && _) = true
  rw [chains,opens]
  kernel_rfl
 ·exact ⟨rfl,rfl,rfl,rfl,rfl,whole⟩
 ·w_witness2
/-! A machine of my own: it runs a tree over a ledger of objects ("cells") whose addresses are letters.
A certificate `ct` (digits by 256) says at each load or store which cell is meant (0: an object of the top). -/
structure KF where
 k : Result->Sem Fin
 h : Option Value
 c : Code
inductive TT (α : Type) where
 | base (t : Sem α)
 | inn (t : Sem Fin) (c : Code) (κ : List KF) (kb : Result->Sem α) (hb : Option Value)
inductive RE (α : Type) where
 | val (v : α)
 | exc (e : Value)
 | thr (c : Code) (un : Nat) (e : Value) (a : Addr)
 | cut (c : Code) (un : Nat) (hd : Option Value) (tt : Result->TT α)
structure Ext where
 k : Nat
 r : (Nat->Addr)->(Nat->Tok)->Result
 up : (Nat->Addr)->(Nat->Tok)->List Obj->List Obj
 nw : (Nat->Addr)->(Nat->Tok)->List Obj
 p : Bool
structure Ev where
 c : Code
 i : Nat
 cs : List Obj
 wt : Nat
 un : Nat
 x : Ext
structure RR (α : Type) where
 ob : List (Addr × Addr)
 cl : List Ev
 cs : List Obj
 i : Nat
 j : Nat
 e : RE α
noncomputable def nth : List Obj->Nat->Option Obj
 | [],_=>none
 | o :: _,0=>some o
 | _ :: l,m + 1=>nth l m
noncomputable def setK {β : Type} : List Obj->Nat->Obj->(List Obj->β)->β
 | [],_,_,k=>k []
 | _ :: l,0,x,k=>k (x :: l)
 | o :: l,m + 1,x,k=>setK l m x fun l'=>k (o :: l')
noncomputable def snocK {β : Type} : List Obj->Obj->(List Obj->β)->β
 | [],x,k=>k [x]
 | o :: l,x,k=>snocK l x fun l'=>k (o :: l')
noncomputable def frcL {β : Type} : List Obj->(List Obj->β)->β
 | [],k=>k []
 | o :: l,k=>frcL l fun l'=>k (o :: l')
noncomputable def appK {β : Type} : List Obj->List Obj->(List Obj->β)->β
 | [],m,k=>frcL m k
 | o :: l,m,k=>appK l m fun l'=>k (o :: l')
theorem frcL_eq {β : Type} : ∀ (l : List Obj) (k : List Obj->β),frcL l k = k l
 | [],_=>rfl
 | _ :: l,k=>by rw [frcL,frcL_eq l]
theorem appK_eq {β : Type} : ∀ (l m : List Obj) (k : List Obj->β),appK l m k = k (l ++ m)
 | [],m,k=>by rw [appK,frcL_eq]; rfl
 | _ :: l,m,k=>by rw [appK,appK_eq l]; rfl
noncomputable def adr : List Addr->(Nat->Addr)->Nat->Addr
 | [],ad,m=>ad m
 | a :: _,_,0=>a
 | _ :: l,ad,m + 1=>adr l ad m
noncomputable def spineV {β : Type} : List Value->(List Value->β)->β
 | [],k=>k []
 | v :: l,k=>spineV l fun l'=>k (v :: l')
noncomputable def spineE {β : Type} : List DictEntry->(List DictEntry->β)->β
 | [],k=>k []
 | ⟨h,y,v⟩ :: l,k=>spineE l fun l'=>k (⟨h,y,v⟩ :: l')
noncomputable def frc {β : Type} (o : Obj) (k : Obj->β) : β:=match o with
 | ⟨c,d,dt,sl⟩=>match dt with
  | .dict ⟨es⟩ n=>spineE es fun es'=>k ⟨c,d,.dict ⟨es'⟩ n,sl⟩
  | .seq ⟨vs⟩ n=>spineV vs fun vs'=>k ⟨c,d,.seq ⟨vs'⟩ n,sl⟩
  | .fields ⟨vs⟩=>spineV vs fun vs'=>k ⟨c,d,.fields ⟨vs'⟩,sl⟩
  | dt=>k ⟨c,d,dt,sl⟩
theorem setK_eq {β : Type} : ∀ (l : List Obj) (m : Nat) (x : Obj) (k : List Obj->β),setK l m x k = k (l.set m x)
 | [],_,_,_=>rfl
 | _ :: _,0,_,_=>rfl
 | _ :: l,m + 1,x,k=>by rw [setK,setK_eq l m x]; rfl
theorem snocK_eq {β : Type} : ∀ (l : List Obj) (x : Obj) (k : List Obj->β),snocK l x k = k (l ++ [x])
 | [],_,_=>rfl
 | _ :: l,x,k=>by rw [snocK,snocK_eq l x]; rfl
theorem spineV_eq {β : Type} : ∀ (l : List Value) (k : List Value->β),spineV l k = k l
 | [],_=>rfl
 | _ :: l,k=>by rw [spineV,spineV_eq l]
theorem spineE_eq {β : Type} : ∀ (l : List DictEntry) (k : List DictEntry->β),spineE l k = k l
 | [],_=>rfl
 | ⟨_,_,_⟩ :: l,k=>by rw [spineE,spineE_eq l]
theorem frc_eq {β : Type} (o : Obj) (k : Obj->β) : frc o k = k o:=by
 obtain ⟨c,d,dt,sl⟩:=o
 unfold frc
 cases dt with
 | dict es n=>obtain ⟨es⟩:=es; exact spineE_eq _ _
 | seq vs n=>obtain ⟨vs⟩:=vs; exact spineV_eq _ _
 | fields vs=>obtain ⟨vs⟩:=vs; exact spineV_eq _ _
 | _=>rfl
theorem nth_eq : ∀ (l : List Obj) (m : Nat),nth l m = l[m]?
 | [],_=>by simp [nth]
 | o :: l,0=>rfl
 | o :: l,m + 1=>by rw [nth,nth_eq l m]; simp
inductive Act (β : Type) where
 | val (v : β)
 | exc (e : Value)
 | call (c : Code) (h : Option Value) (k : Result->Sem β)
 | go (t : Sem β) (dig : Bool) (ob : Option (Addr × Addr)) (cs : List Obj) (di dj : Nat)
 | stop
noncomputable def act {β : Type} (S : Setting) (T : BT) (as : List Addr) (ad : Nat->Addr) (tk : Nat->Tok) (ct : Nat) (cs : List Obj) (i j : Nat) (hd : Option Value) (t : Sem β) : Act β :=
 match t with
 | .pure v=>.val v
 | .raise e=>.exc e
 | .call c h _ _ k=>.call c h k
 | .rule _ k=>.go (k ()) false none cs 0 0
 | .at _ k=>.go (k ()) false none cs 0 0
 | .point _ k=>.go (k ()) false none cs 0 0
 | .ask k=>.go (k S) false none cs 0 0
 | .fresh k=>.go (k (tk j)) false none cs 0 1
 | .handled own k=>match own with
  | false=>.go (k hd) false none cs 0 0
  | true=>.stop
 | .load a _ k=>match ct % 256 with
  | 0=>match T.get a with
   | some o=>match o.isFreed with
    | false=>.go (k o) true none cs 0 0
    | true=>.stop
   | none=>.stop
  | m + 1=>match nth cs m with
   | some o=>.go (k o) true (some (a,adr as ad m)) cs 0 0
   | none=>.stop
 | .loadIfAlive a k=>match ct % 256 with
  | 0=>match T.get a with
   | some o=>match o.isFreed with
    | false=>.go (k (some o)) true none cs 0 0
    | true=>.stop
   | none=>.stop
  | m + 1=>match nth cs m with
   | some o=>.go (k (some o)) true (some (a,adr as ad m)) cs 0 0
   | none=>.stop
 | .update a _ f k=>match ct % 256 with
  | 0=>.stop
  | m + 1=>match Nat.ble 200 m with
   | false=>match nth cs m with
    | some o=>frc (f o) fun o'=>match o'.isFreed with
     | false=>setK cs m o' fun cs'=>.go (k ()) true (some (a,adr as ad m)) cs' 0 0
     | true=>.stop
    | none=>.stop
   | true=>match nth cs (m - 200) with
    | some o=>match (f o).isFreed with
     | false=>setK cs (m - 200) (f o) fun cs'=>.go (k ()) true (some (a,adr as ad (m - 200))) cs' 0 0
     | true=>.stop
    | none=>.stop
 | .alloc o k=>frc o fun o'=>match o'.isFreed with
  | false=>snocK cs o' fun cs'=>.go (k (ad i)) false none cs' 1 0
  | true=>.stop
 | _=>.stop
noncomputable def obPut {α : Type} (ob : Option (Addr × Addr)) (r : Option (RR α)) : Option (RR α):=match ob with
 | none=>r
 | some p=>match r with
  | some r=>some ⟨p :: r.ob,r.cl,r.cs,r.i,r.j,r.e⟩
  | none=>none
noncomputable def clPut {α : Type} (p : Ev) (r : Option (RR α)) : Option (RR α):=match r with
 | some r=>some ⟨r.ob,p :: r.cl,r.cs,r.i,r.j,r.e⟩
 | none=>none
noncomputable def orH (h hd : Option Value) : Option Value:=match h with
 | some v=>some v
 | none=>hd
noncomputable def noneB {α : Type} : Option α->Bool
 | none=>true
 | some _=>false
noncomputable def cut8 (f : Nat->Tok) (m : Nat) : Tok:=match Nat.blt m 8 with
 | true=>f m
 | false=>0
noncomputable def cutN (k : Nat) (f : Nat->Addr) (m : Nat) : Addr:=match Nat.blt m k with
 | true=>f m
 | false=>0
noncomputable def dull {β : Type} : Nat->Sem β->Option Value
 | 0,_=>none
 | n + 1,t=>match t with
  | .raise e=>some e
  | .rule _ k=>dull n (k ())
  | .at _ k=>dull n (k ())
  | .point _ k=>dull n (k ())
  | _=>none
noncomputable def dullS {α : Type} (kb : Result->Sem α) : List KF->Value->Option Value
 | [],e=>dull 64 (kb (.error e))
 | y :: κ,e=>match dull 64 (y.k (.error e)) with
  | some e'=>dullS kb κ e'
  | none=>none
noncomputable def thrEnd {α : Type} (cs : List Obj) (i j : Nat) (c : Code) (un : Nat) (a : Addr) (e : Option Value) : Option (RR α):=match e with
 | some e=>some ⟨[],[],cs,i,j,.thr c un e a⟩
 | none=>none
noncomputable def hdOf (hb : Option Value) : List KF->Option Value
 | []=>hb
 | y :: _=>y.h
noncomputable def bkTo {α : Type} (kb : Result->Sem α) (hb : Option Value) (κ : List KF) (r : Result) : TT α:=match κ with
 | []=>.base (kb r)
 | y :: κ'=>.inn (y.k r) y.c κ' kb hb
noncomputable def wts : List KF->Nat
 | []=>0
 | y :: κ=>y.c.weight + wts κ
noncomputable def uns : List KF->Nat
 | []=>0
 | y :: κ=>y.c.cUnits + uns κ
noncomputable def dgt (d : Bool) (ct : Nat) : Nat:=match d with
 | true=>ct / 256
 | false=>ct
noncomputable def evOf (c : Code) (i : Nat) (cs : List Obj) (wt un : Nat) (x : Ext) : Ev:=match x.p with
 | true=>⟨c,0,[],wt,un,x⟩
 | false=>⟨c,i,cs,wt,un,x⟩
noncomputable abbrev RunT (α : Type):=Nat->List Ext->List Obj->Nat->Nat->Option Value->TT α->Option (RR α)
noncomputable def leaveTo {α : Type} (R : RunT α) (ct : Nat) (xs : List Ext) (cs : List Obj) (i j : Nat) (κ : List KF) (kb : Result->Sem α) (hb : Option Value) (r : Result) : Option (RR α):=match κ with
 | []=>R ct xs cs i j hb (.base (kb r))
 | y :: κ'=>R ct xs cs i j y.h (.inn (y.k r) y.c κ' kb hb)
noncomputable def nextB {α : Type} (R : RunT α) (den : Code->Sem Fin) (ad : Nat->Addr) (tk : Nat->Tok) (ct : Nat) (xs : List Ext) (cs : List Obj) (i j : Nat) (hd : Option Value) (a : Act α) : Option (RR α):=match a with
  | .val v=>some ⟨[],[],cs,i,j,.val v⟩
  | .exc e=>some ⟨[],[],cs,i,j,.exc e⟩
  | .call c h k=>match Nat.beq (ct % 256) 255 with
    | true=>match noneB h && noneB hd,xs with
      | true,x :: xs'=>clPut (evOf c i cs 0 0 x) (appK (x.up (cutN x.k fun m=>ad (i + m)) (cut8 fun m=>tk (j + m)) cs) (x.nw (cutN x.k fun m=>ad (i + m)) (cut8 fun m=>tk (j + m))) fun cs'=>R (ct / 256) xs' cs' (i + x.k) (j + 8) hd (.base (k (x.r (cutN x.k fun m=>ad (i + m)) (cut8 fun m=>tk (j + m))))))
      | _,_=>none
    | false=>match Nat.beq (ct % 256) 254 with
      | true=>match noneB h && noneB hd with
        | true=>thrEnd cs i j c 0 (ad i) (dull 64 (k (.error (.ref (ad i)))))
        | false=>none
      | false=>match Nat.beq (ct % 256) 253 with
       | true=>match noneB h && noneB hd with
        | true=>some ⟨[],[],cs,i,j,.cut c 0 hd fun r=>.base (k r)⟩
        | false=>none
       | false=>match okMark h with
        | true=>R (ct / 256) xs cs i j (orH h hd) (.inn (den c) c [] k hd)
        | false=>none
  | .go t' dig ob cs' di dj=>obPut ob (R (dgt dig ct) xs cs' (i + di) (j + dj) hd (.base t'))
  | .stop=>none
noncomputable def nextI {α : Type} (R : RunT α) (den : Code->Sem Fin) (ad : Nat->Addr) (tk : Nat->Tok) (ct : Nat) (xs : List Ext) (cs : List Obj) (i j : Nat) (hd : Option Value) (cc : Code) (κ : List KF) (kb : Result->Sem α) (hb : Option Value) (a : Act Fin) : Option (RR α):=match a with
  | .val fin=>match fin with
    | .done f=>leaveTo R ct xs cs i j κ kb hb (.ok f)
    | .again c=>match c.quiet with
      | true=>match Nat.beq (ct % 256) 255 with
        | true=>match noneB hd,xs with
          | true,x :: xs'=>clPut (evOf c i cs (wts κ) (uns κ) x) (appK (x.up (cutN x.k fun m=>ad (i + m)) (cut8 fun m=>tk (j + m)) cs) (x.nw (cutN x.k fun m=>ad (i + m)) (cut8 fun m=>tk (j + m))) fun cs'=>leaveTo R (ct / 256) xs' cs' (i + x.k) (j + 8) κ kb hb (x.r (cutN x.k fun m=>ad (i + m)) (cut8 fun m=>tk (j + m))))
          | _,_=>none
        | false=>match Nat.beq (ct % 256) 254 with
          | true=>match noneB hd && Nat.beq (wts κ) 0 with
            | true=>thrEnd cs i j c (uns κ) (ad i) (dullS kb κ (.ref (ad i)))
            | false=>none
          | false=>match Nat.beq (ct % 256) 253 with
           | true=>match noneB hd && Nat.beq (wts κ) 0 with
            | true=>some ⟨[],[],cs,i,j,.cut c (uns κ) (hdOf hb κ) (bkTo kb hb κ)⟩
            | false=>none
           | false=>R (ct / 256) xs cs i j hd (.inn (den c) c κ kb hb)
      | false=>none
  | .exc e=>leaveTo R ct xs cs i j κ kb hb (.error e)
  | .call c h k=>match Nat.beq (ct % 256) 255 with
    | true=>match noneB h && noneB hd,xs with
      | true,x :: xs'=>clPut (evOf c i cs (cc.weight + wts κ) (cc.cUnits + uns κ) x) (appK (x.up (cutN x.k fun m=>ad (i + m)) (cut8 fun m=>tk (j + m)) cs) (x.nw (cutN x.k fun m=>ad (i + m)) (cut8 fun m=>tk (j + m))) fun cs'=>R (ct / 256) xs' cs' (i + x.k) (j + 8) hd (.inn (k (x.r (cutN x.k fun m=>ad (i + m)) (cut8 fun m=>tk (j + m)))) cc κ kb hb))
      | _,_=>none
    | false=>match Nat.beq (ct % 256) 254 with
      | true=>match noneB h && noneB hd && Nat.beq (cc.weight + wts κ) 0 with
        | true=>thrEnd cs i j c (cc.cUnits + uns κ) (ad i) (dullS kb (⟨k,hd,cc⟩ :: κ) (.ref (ad i)))
        | false=>none
      | false=>match Nat.beq (ct % 256) 253 with
       | true=>match noneB h && noneB hd && Nat.beq (cc.weight + wts κ) 0 with
        | true=>some ⟨[],[],cs,i,j,.cut c (cc.cUnits + uns κ) hd fun r=>.inn (k r) cc κ kb hb⟩
        | false=>none
       | false=>match okMark h with
        | true=>R (ct / 256) xs cs i j (orH h hd) (.inn (den c) c (⟨k,hd,cc⟩ :: κ) kb hb)
        | false=>none
  | .go t' dig ob cs' di dj=>obPut ob (R (dgt dig ct) xs cs' (i + di) (j + dj) hd (.inn t' cc κ kb hb))
  | .stop=>none
noncomputable def run {α : Type} (den : Code->Sem Fin) (S : Setting) (T : BT) (as : List Addr) (ad : Nat->Addr) (tk : Nat->Tok) : Nat->RunT α
 | 0,_,_,_,_,_,_,_=>none
 | n + 1,ct,xs,cs,i,j,hd,x=>match x with
  | .base t=>nextB (run den S T as ad tk n) den ad tk ct xs cs i j hd (act S T as ad tk ct cs i j hd t)
  | .inn t cc κ kb hb=>nextI (run den S T as ad tk n) den ad tk ct xs cs i j hd cc κ kb hb (act S T as ad tk ct cs i j hd t)
theorem den_eq : denote table = denF:=by rw [table_eq_tree,denF_eq]
noncomputable def TopIn (T : BT) (h : Heap) : Prop:=∀ a o,T.get a = some o->o.isFreed = false->h.get? a = some o
structure Rep (h₀ : Heap) (as : List Addr) (cs : List Obj) (h : Heap) : Prop where
 len : as.length = cs.length
 nd : as.Nodup
 cell : ∀ (m : Nat) a o,as[m]? = some a->cs[m]? = some o->h.get? a = some o
 fresh : ∀ a ∈ as,h₀.get? a = none
 keep : ∀ b o,h₀.get? b = some o->h.get? b = some o
theorem Rep.has {h₀ h : Heap} {as : List Addr} {cs : List Obj} (R : Rep h₀ as cs h) {a : Addr} (ha : a ∈ as) : ∃ o,h.get? a = some o:=by
 obtain ⟨m,hm,rfl⟩:=List.getElem_of_mem ha
 have hc : m < cs.length:=R.len ▸ hm
 exact ⟨cs[m],R.cell m _ _ (List.getElem?_eq_getElem hm) (List.getElem?_eq_getElem hc)⟩
theorem Rep.alloc {h₀ h : Heap} {as : List Addr} {cs : List Obj} (R : Rep h₀ as cs h) {o : Obj} (hf : o.isFreed = false) : Rep h₀ (as ++ [h.objs.size]) (cs ++ [o]) (h.push o):=by
 refine ⟨by simp [R.len],?_,?_,?_,fun b x e=>Heap.get?_push_of_some _ (R.keep b x e)⟩
 ·refine List.nodup_append.mpr ⟨R.nd,by simp,?_⟩
  intro a ha b hb e
  rw [List.mem_singleton] at hb
  subst hb e
  obtain ⟨o',e'⟩:=R.has ha
  exact absurd (Heap.lt_size e') (Nat.lt_irrefl _)
 ·intro m a x h1 h2
  by_cases hm : m < as.length
  ·rw [List.getElem?_append_left hm] at h1
   rw [List.getElem?_append_left (R.len ▸ hm)] at h2
   exact Heap.get?_push_of_some _ (R.cell m a x h1 h2)
  ·rw [List.getElem?_append_right (Nat.le_of_not_lt hm)] at h1
   rw [List.getElem?_append_right (R.len ▸ Nat.le_of_not_lt hm)] at h2
   rw [R.len] at h1
   generalize hk : m - cs.length = k at h1 h2
   cases k with
   | zero =>
    simp at h1 h2
    subst h1 h2
    exact Heap.get?_push_size _ hf
   | succ k=>simp at h1
 ·intro a ha
  rcases List.mem_append.mp ha with ha | ha
  ·exact R.fresh a ha
  ·rw [List.mem_singleton] at ha
   subst ha
   cases e : h₀.get? h.objs.size with
   | none=>rfl
   | some x=>exact absurd (Heap.lt_size (R.keep _ _ e)) (Nat.lt_irrefl _)
theorem Rep.update {h₀ h : Heap} {as : List Addr} {cs : List Obj} (R : Rep h₀ as cs h) {m : Nat} {a : Addr} {o : Obj} {f : Obj->Obj} (ha : as[m]? = some a) (ho : cs[m]? = some o) (hf : (f o).isFreed = false) :
  Rep h₀ as (cs.set m (f o)) (h.update a f):=by
 have hma : a ∈ as:=List.mem_of_getElem? ha
 refine ⟨by simp [R.len],R.nd,?_,R.fresh,fun b x e=>?_⟩
 ·intro k b x h1 h2
  by_cases hk : m = k
  ·subst hk
   rw [ha] at h1
   cases h1
   obtain ⟨hl,_⟩:=List.getElem?_eq_some_iff.mp ho
   rw [List.getElem?_set_self hl] at h2
   cases h2
   exact Heap.get?_update_self f (R.cell m a o ha ho) hf
  ·rw [List.getElem?_set_ne hk] at h2
   have hne : b ≠ a:=by
    intro e
    subst e
    obtain ⟨l1,e1⟩:=List.getElem?_eq_some_iff.mp ha
    obtain ⟨l2,e2⟩:=List.getElem?_eq_some_iff.mp h1
    exact hk ((List.getElem_inj R.nd).mp (e1.trans e2.symm))
   exact (Heap.get?_update_ne _ _ _ _ hne).trans (R.cell k b x h1 h2)
 ·have hne : b ≠ a:=by
   intro e'
   subst e'
   rw [R.fresh b hma] at e
   cases e
  exact (Heap.get?_update_ne _ _ _ _ hne).trans (R.keep b x e)
theorem Rep.hideRest {h₀ h : Heap} {as la : List Addr} {cs : List Obj} (R : Rep h₀ (as ++ la) cs h) : Rep (hideAll h as) as (cs.take as.length) h:=by
 have hl : as.length ≤ cs.length:=by have:=R.len; simp at this; omega
 refine ⟨by simp [Nat.min_eq_left hl],(List.nodup_append.mp R.nd).1,?_,fun a ha=>hideAll_none _ ha,fun b o e=>of_hideAll _ e⟩
 intro m a o h1 h2
 obtain ⟨hm,_⟩:=List.getElem?_eq_some_iff.mp h1
 rw [List.getElem?_take_of_lt hm] at h2
 exact R.cell m a o (by rw [List.getElem?_append_left hm]; exact h1) h2
theorem Rep.back {h₀ h h' : Heap} {as la gs : List Addr} {cs cs' nw : List Obj} (R : Rep h₀ (as ++ la) cs h) (hc : cs'.length = as.length) (R' : Rep (hideAll h as) (as ++ gs) (cs' ++ nw) h') :
  Rep h₀ (as ++ (la ++ gs)) (cs' ++ (cs.drop as.length ++ nw)) h':=by
 have hl:=R.len
 have hl':=R'.len
 simp at hl hl'
 have hla : ∀ a ∈ la,a ∉ as:=fun a ha hb=>(List.nodup_append.mp R.nd).2.2 a hb a ha rfl
 have hal : ∀ (m : Nat) a o,la[m]? = some a->(cs.drop as.length)[m]? = some o->(hideAll h as).get? a = some o:=by
  intro m a o h1 h2
  rw [List.getElem?_drop] at h2
  refine hideAll_get _ (R.cell (as.length + m) a o ?_ h2) (hla a (List.mem_of_getElem? h1))
  rw [List.getElem?_append_right (by omega),Nat.add_sub_cancel_left]; exact h1
 have hex : ∀ a ∈ la,∃ o,(hideAll h as).get? a = some o:=by
  intro a ha
  obtain ⟨m,hm,rfl⟩:=List.getElem_of_mem ha
  have : m < (cs.drop as.length).length:=by simp; omega
  exact ⟨_,hal m _ _ (List.getElem?_eq_getElem hm) (List.getElem?_eq_getElem this)⟩
 refine ⟨by simp; omega,?_,?_,?_,fun b o e=>?_⟩
 ·have n1:=List.nodup_append.mp R'.nd
  refine List.nodup_append.mpr ⟨n1.1,List.nodup_append.mpr ⟨(List.nodup_append.mp R.nd).2.1,n1.2.1,?_⟩,?_⟩
  ·intro a ha b hb e
   subst e
   obtain ⟨o,eo⟩:=hex a ha
   rw [R'.fresh a (List.mem_append.mpr (.inr hb))] at eo
   cases eo
  ·intro a ha b hb e
   subst e
   rcases List.mem_append.mp hb with hb | hb
   ·exact hla a hb ha
   ·exact n1.2.2 a ha a hb rfl
 ·intro m a o h1 h2
  by_cases hm : m < as.length
  ·refine R'.cell m a o ?_ ?_
   ·rw [List.getElem?_append_left hm] at h1 ⊢; exact h1
   ·rw [List.getElem?_append_left (hc ▸ hm)] at h2 ⊢; exact h2
  ·have hm':=Nat.le_of_not_lt hm
   rw [List.getElem?_append_right hm'] at h1
   rw [List.getElem?_append_right (hc ▸ hm'),hc] at h2
   by_cases hk : m - as.length < la.length
   ·rw [List.getElem?_append_left hk] at h1
    rw [List.getElem?_append_left (by simp; omega)] at h2
    exact R'.keep a o (hal _ a o h1 h2)
   ·have hk':=Nat.le_of_not_lt hk
    rw [List.getElem?_append_right hk'] at h1
    rw [List.getElem?_append_right (by simp; omega)] at h2
    have e1 : (cs.drop as.length).length = la.length:=by simp; omega
    rw [e1] at h2
    refine R'.cell (as.length + (m - as.length - la.length)) a o ?_ ?_
    ·rw [List.getElem?_append_right (by omega),Nat.add_sub_cancel_left]; exact h1
    ·rw [List.getElem?_append_right (by omega),hc,Nat.add_sub_cancel_left]; exact h2
 ·intro a ha
  rcases List.mem_append.mp ha with ha | ha
  ·exact R.fresh a (List.mem_append.mpr (.inl ha))
  ·rcases List.mem_append.mp ha with ha | ha
   ·exact R.fresh a (List.mem_append.mpr (.inr ha))
   ·cases e : h₀.get? a with
    | none=>rfl
    | some o =>
     have q:=R'.fresh a (List.mem_append.mpr (.inr ha))
     have n : a ∉ as:=fun hb=>(List.nodup_append.mp R'.nd).2.2 a hb a ha rfl
     rw [hideAll_get _ (R.keep a o e) n] at q
     cases q
 ·refine R'.keep b o (hideAll_get _ (R.keep b o e) ?_)
  intro hb
  rw [R.fresh b (List.mem_append.mpr (.inl hb))] at e
  cases e
theorem TopIn.hide {T : BT} {h₀ h : Heap} {as la : List Addr} {cs : List Obj} (X : TopIn T h₀) (R : Rep h₀ (as ++ la) cs h) : TopIn T (hideAll h as):=by
 intro a o e1 e2
 have e:=X a o e1 e2
 refine hideAll_get _ (R.keep _ _ e) ?_
 intro ha
 rw [R.fresh a (List.mem_append.mpr (.inl ha))] at e
 cases e
noncomputable def Same (s s' : Shared) : Prop:=s'.gens = s.gens ∧ s'.drawn = s.drawn ∧ s'.os = s.os
theorem Same.refl (s : Shared) : Same s s:=⟨rfl,rfl,rfl⟩
theorem Same.trans {a b c : Shared} (x : Same a b) (y : Same b c) : Same a c:=⟨y.1.trans x.1,y.2.1.trans x.2.1,y.2.2.trans x.2.2⟩
noncomputable def Told (h₀ : Heap) (as : List Addr) (cs : List Obj) (x : Ext) (s : Shared) (r : Result) (s' : Shared) : Prop :=
 ∃ g f,r = x.r (cutN x.k g) (cut8 f) ∧
  Rep h₀ (as ++ (List.range x.k).map g) (x.up (cutN x.k g) (cut8 f) cs ++ x.nw (cutN x.k g) (cut8 f)) s'.heap ∧ Same s s'
noncomputable def Con (w : World) (T : BT) (as : List Addr) (c : Code) (cs : List Obj) (x : Ext) (D U : Nat) : Prop :=
 ∀ (A : Around) (h₀ : Heap) (s : Shared),A.depth ≤ D->A.units ≤ U->A.handled = none->TopIn T h₀->Rep h₀ as cs s.heap →
  CA w A c (fun r s'=>Told h₀ as cs x s r s') s
noncomputable def Agree (ad : Nat->Nat) (l : List Nat) : Prop:=∀ (m : Nat) a,l[m]? = some a->ad m = a
theorem Agree.snoc {ad : Nat->Nat} {l : List Nat} {a : Nat} (h : Agree ad (l ++ [a])) : Agree ad l ∧ ad l.length = a:=by
 refine ⟨fun m x e=>h m x ?_,h _ _ (by simp)⟩
 obtain ⟨hm,_⟩:=List.getElem?_eq_some_iff.mp e
 rw [List.getElem?_append_left hm]; exact e
theorem adr_eq : ∀ {as : List Addr} {ad : Nat->Addr} {la : List Addr} (h : Agree ad la) (m : Nat),m < (as ++ la).length->(as ++ la)[m]? = some (adr as ad m)
 | [],ad,la,h,m,hm=>by
  simp at hm ⊢
  have e:=h m _ (List.getElem?_eq_getElem hm)
  rw [List.getElem?_eq_getElem hm,adr,e]
 | a :: as,ad,la,h,0,_=>by simp [adr]
 | a :: as,ad,la,h,m + 1,hm=>by
  simp only [List.cons_append,List.length_cons] at hm
  simp only [List.cons_append,List.getElem?_cons_succ,adr]
  exact adr_eq h m (by omega)
theorem cut8_eq {f g : 'f'} (h : ∀ m,m < 8->f m = g m) : cut8 f = cut8 g:=by
 funext m
 unfold cut8
 cases hb : Nat.blt m 8 with
 | false=>rfl
 | true=>exact h m (Nat.le_of_ble_eq_true hb)
theorem cutN_eq {k : Nat} {f g : Nat->Addr} (h : ∀ m,m < k->f m = g m) : cutN k f = cutN k g:=by
 funext m
 unfold cutN
 cases hb : Nat.blt m k with
 | false=>rfl
 | true=>exact h m (Nat.le_of_ble_eq_true hb)
noncomputable abbrev finP (w : World) (A₁ : Around) (R : Result->Shared->Prop) : Fin->Shared->Prop:=fun fin s'=>match fin with
 | .done f=>R (.ok f) s'
 | .again c'=>c'.quiet = true ∧ CA w A₁ c' R s'
noncomputable abbrev errP (R : Result->Shared->Prop) : Value->Shared->Prop:=fun e s'=>R (.error e) s'
section
variable {α : Type} (w : World) (A : Around) (Q : α->Shared->Prop) (E : Value->Shared->Prop)
inductive Stk (kb : Result->Sem α) (hb : Option Value) : List KF->(Result->Shared->Prop)->Prop
 | nil : hb = A.handled->Stk kb hb [] (fun r s=>WP w A (kb r) Q E s)
 | cons {y : KF} {κ : List KF} {A₁ : Around} {R : Result->Shared->Prop} : Stk kb hb κ R->A₁.handled = y.h->A₁.depth ≤ A.depth + wts κ->A₁.units ≤ A.units + uns κ →
   (wts κ = 0->A₁.frames = A.frames ∧ A₁.guards = A.guards) →
   Stk kb hb (y :: κ) (fun r s=>WP w (A₁.under y.c) (y.k r) (finP w A₁ R) (errP R) s)
end
theorem wpc {w : World} {A : Around} {c : Code} {R : Result->Shared->Prop} {s : Shared} (h : WP w (A.under c) (denF c) (finP w A R) (errP R) s) : CA w A c R s:=by
 refine codeAny_of_tree ?_
 show WP w (A.under c) (denote table c) _ _ s
 rw [den_eq]
 exact h
noncomputable def pick (l : List Nat) (m : Nat) : Nat:=l.getD m 0
theorem agree_pick (l : List Nat) : Agree (pick l) l:=fun m a e=>by
 unfold pick
 rw [List.getD_eq_getElem?_getD,e]; rfl
section
variable {β : Type} {w : World} {T : BT} {as la lt : List Nat} {ct : Nat} {cs : List Obj} {hd : Option Value} {A' : Around} {Q' : β->Shared->Prop} {E' : Value->Shared->Prop} {h₀ : Heap} {s : Shared}
 (Good : (Nat->Addr)->(Nat->Tok)->Act β->Prop)
theorem act_case (t : Sem β) (X : TopIn T h₀) (R : Rep h₀ (as ++ la) cs s.heap) (hh : A'.handled = hd)
  (H : ∀ ad tk,Agree ad la->Agree tk lt->Good ad tk (act ⟨pw,w.params⟩ T as ad tk ct cs la.length lt.length hd t))
  (gval : ∀ v,(∀ ad tk,Agree ad la->Agree tk lt->Good ad tk (.val v))->Q' v s)
  (gexc : ∀ e,(∀ ad tk,Agree ad la->Agree tk lt->Good ad tk (.exc e))->E' e s)
  (gcall : ∀ c h g l k,(∀ ad tk,Agree ad la->Agree tk lt->Good ad tk (.call c h k))->WP w A' (.call c h g l k) Q' E' s)
  (ggo : ∀ t' dig ob cs' la' lt' s' di dj,la'.length = la.length + di->lt'.length = lt.length + dj->(∀ ad tk,Agree ad la'->Agree tk lt'->Agree ad la ∧ Agree tk lt ∧ Good ad tk (.go t' dig ob cs' di dj))->Rep h₀ (as ++ la') cs' s'.heap->Same s s'->WP w A' t' Q' E' s')
  (gob : ∀ ad tk t' dig p cs' di dj,Agree ad la->Agree tk lt->Good ad tk (.go t' dig (some p) cs' di dj)->p.1 = p.2)
  (gstop : ∀ ad tk,¬ Good ad tk .stop) : WP w A' t Q' E' s:=by
 have a0:=agree_pick la
 have t0:=agree_pick lt
 have no : ∀ {x : Sem β},(∀ ad tk,act ⟨pw,w.params⟩ T as ad tk ct cs la.length lt.length hd x = .stop)->t = x->False:=fun h e=>gstop _ _ (h (pick la) (pick lt) ▸ e ▸ H _ _ a0 t0)
 cases t with
 | pure v=>exact wpAny_pure (gval v H)
 | raise e=>exact wpAny_throw (gexc e H)
 | call c h g l k=>exact gcall c h g l k H
 | rule tag k=>exact x_rule (ggo (k ()) false none cs la lt s 0 0 rfl rfl (fun ad tk h1 h2=>⟨h1,h2,H ad tk h1 h2⟩) R (Same.refl s))
 | «at» q k=>exact x_at (ggo (k ()) false none cs la lt s 0 0 rfl rfl (fun ad tk h1 h2=>⟨h1,h2,H ad tk h1 h2⟩) R (Same.refl s))
 | point l k=>exact x_point (ggo (k ()) false none cs la lt s 0 0 rfl rfl (fun ad tk h1 h2=>⟨h1,h2,H ad tk h1 h2⟩) R (Same.refl s))
 | ask k=>exact x_ask (ggo (k ⟨pw,w.params⟩) false none cs la lt s 0 0 rfl rfl (fun ad tk h1 h2=>⟨h1,h2,H ad tk h1 h2⟩) R (Same.refl s))
 | fresh k =>
  refine x_fresh (ggo (k s.toks) false none cs la (lt ++ [s.toks]) _ 0 1 rfl (by simp) (fun ad tk h1 h2=>?_) R ⟨rfl,rfl,rfl⟩)
  obtain ⟨h3,h4⟩:=h2.snoc
  refine ⟨h1,h3,?_⟩
  have:=H ad tk h1 h3
  rw [← h4]
  exact this
 | handled own k =>
  cases own with
  | true=>exact (no (fun _ _=>rfl) rfl).elim
  | false=>exact x_handled (by rw [hh]; exact ggo (k hd) false none cs la lt s 0 0 rfl rfl (fun ad tk h1 h2=>⟨h1,h2,H ad tk h1 h2⟩) R (Same.refl s))
 | load a q k =>
  have H':=H
  simp only [act] at H'
  generalize ct % 256 = d at H'
  cases d with
  | zero =>
   dsimp only at H'
   cases e : T.get a with
   | none=>simp only [e] at H'; exact (gstop _ _ (H' _ _ a0 t0)).elim
   | some o =>
    simp only [e] at H'
    cases ef : o.isFreed with
    | true=>simp only [ef] at H'; exact (gstop _ _ (H' _ _ a0 t0)).elim
    | false =>
     simp only [ef] at H'
     exact x_load (R.keep _ _ (X a o e ef)) (ggo (k o) true none cs la lt s 0 0 rfl rfl (fun ad tk h1 h2=>⟨h1,h2,H' ad tk h1 h2⟩) R (Same.refl s))
  | succ m =>
   dsimp only at H'
   rw [nth_eq] at H'
   cases e : cs[m]? with
   | none=>simp only [e] at H'; exact (gstop _ _ (H' _ _ a0 t0)).elim
   | some o =>
    simp only [e] at H'
    have hm : m < (as ++ la).length:=by rw [R.len]; exact (List.getElem?_eq_some_iff.mp e).1
    have ea : a = adr as (pick la) m:=gob _ _ _ _ _ _ _ _ a0 t0 (H' _ _ a0 t0)
    have ha : (as ++ la)[m]? = some a:=by rw [ea]; exact adr_eq a0 m hm
    refine x_load (R.cell m a o ha e) (ggo (k o) true (some (a,adr as (pick la) m)) cs la lt s 0 0 rfl rfl (fun ad tk h1 h2=>⟨h1,h2,?_⟩) R (Same.refl s))
    have q1 : adr as (pick la) m = adr as ad m:=Option.some.inj ((adr_eq a0 m hm).symm.trans (adr_eq h1 m hm))
    rw [q1]
    exact H' ad tk h1 h2
 | loadIfAlive a k =>
  have H':=H
  simp only [act] at H'
  generalize ct % 256 = d at H'
  have one : ∀ o,s.heap.get? a = some o->WP w A' (k (some o)) Q' E' s->WP w A' (.loadIfAlive a k) Q' E' s:=fun o e hk Γ p hΓ=>by
   rw [Sem.wp_loadIfAlive,e]
   exact hk Γ p hΓ
  cases d with
  | zero =>
   dsimp only at H'
   cases e : T.get a with
   | none=>simp only [e] at H'; exact (gstop _ _ (H' _ _ a0 t0)).elim
   | some o =>
    simp only [e] at H'
    cases ef : o.isFreed with
    | true=>simp only [ef] at H'; exact (gstop _ _ (H' _ _ a0 t0)).elim
    | false =>
     simp only [ef] at H'
     exact one o (R.keep _ _ (X a o e ef)) (ggo (k (some o)) true none cs la lt s 0 0 rfl rfl (fun ad tk h1 h2=>⟨h1,h2,H' ad tk h1 h2⟩) R (Same.refl s))
  | succ m =>
   dsimp only at H'
   rw [nth_eq] at H'
   cases e : cs[m]? with
   | none=>simp only [e] at H'; exact (gstop _ _ (H' _ _ a0 t0)).elim
   | some o =>
    simp only [e] at H'
    have hm : m < (as ++ la).length:=by rw [R.len]; exact (List.getElem?_eq_some_iff.mp e).1
    have ea : a = adr as (pick la) m:=gob _ _ _ _ _ _ _ _ a0 t0 (H' _ _ a0 t0)
    have ha : (as ++ la)[m]? = some a:=by rw [ea]; exact adr_eq a0 m hm
    refine one o (R.cell m a o ha e) (ggo (k (some o)) true (some (a,adr as (pick la) m)) cs la lt s 0 0 rfl rfl (fun ad tk h1 h2=>⟨h1,h2,?_⟩) R (Same.refl s))
    have q1 : adr as (pick la) m = adr as ad m:=Option.some.inj ((adr_eq a0 m hm).symm.trans (adr_eq h1 m hm))
    rw [q1]
    exact H' ad tk h1 h2
 | update a q f k =>
  have H':=H
  simp only [act] at H'
  generalize ct % 256 = d at H'
  cases d with
  | zero=>exact (gstop _ _ (H' _ _ a0 t0)).elim
  | succ m =>
   dsimp only at H'
   have main : ∀ m',(∀ ad tk,Agree ad la->Agree tk lt->Good ad tk (match nth cs m' with | some o=>(match (f o).isFreed with | false=>.go (k ()) true (some (a,adr as ad m')) (cs.set m' (f o)) 0 0 | true=>.stop) | none=>.stop))->WP w A' (.update a q f k) Q' E' s:=by
    intro m H'
    simp only [nth_eq] at H'
    cases e : cs[m]? with
    | none=>simp only [e] at H'; exact (gstop _ _ (H' _ _ a0 t0)).elim
    | some o =>
     simp only [e] at H'
     cases ef : (f o).isFreed with
     | true=>simp only [ef] at H'; exact (gstop _ _ (H' _ _ a0 t0)).elim
     | false =>
      simp only [ef] at H'
      have hm : m < (as ++ la).length:=by rw [R.len]; exact (List.getElem?_eq_some_iff.mp e).1
      have ea : a = adr as (pick la) m:=gob _ _ _ _ _ _ _ _ a0 t0 (H' _ _ a0 t0)
      have ha : (as ++ la)[m]? = some a:=by rw [ea]; exact adr_eq a0 m hm
      refine wpAny_bind (m:=updatePart a q f) (f:=k) (wpAny_updatePart (R.cell m a o ha e) (ggo (k ()) true (some (a,adr as (pick la) m)) (cs.set m (f o)) la lt { s with heap:=s.heap.update a f } 0 0 rfl rfl (fun ad tk h1 h2=>⟨h1,h2,?_⟩) (R.update ha e ef) ⟨rfl,rfl,rfl⟩))
      have q1 : adr as (pick la) m = adr as ad m:=Option.some.inj ((adr_eq a0 m hm).symm.trans (adr_eq h1 m hm))
      rw [q1]
      exact H' ad tk h1 h2
   cases hb : Nat.ble 200 m with
   | false =>
    refine main m fun ad tk h1 h2=>?_
    have:=H' ad tk h1 h2
    simp only [hb,frc_eq,setK_eq] at this
    exact this
   | true =>
    refine main (m - 200) fun ad tk h1 h2=>?_
    have:=H' ad tk h1 h2
    simp only [hb,setK_eq] at this
    exact this
 | alloc o k =>
  have H':=H
  simp only [act,frc_eq] at H'
  cases ef : o.isFreed with
  | true=>simp only [ef] at H'; exact (gstop _ _ (H' _ _ a0 t0)).elim
  | false =>
   simp only [ef,snocK_eq] at H'
   refine wpAny_bind (m:=PySem.alloc o) (f:=k) (wpAny_alloc (ggo (k s.heap.objs.size) false none (cs ++ [o]) (la ++ [s.heap.objs.size]) lt { s with heap:=s.heap.push o } 1 0 (by simp) rfl (fun ad tk h1 h2=>?_) (by rw [← List.append_assoc]; exact R.alloc ef) ⟨rfl,rfl,rfl⟩))
   obtain ⟨h3,h4⟩:=h1.snoc
   refine ⟨h3,h2,?_⟩
   have:=H' ad tk h3 h2
   rw [h4] at this
   exact this
 | unsupported | finish | register | choose | os | genState | newGen | resume | yield | stack | fork | thread | await=>exact (no (fun _ _=>rfl) rfl).elim
end
theorem agree_map {ad : Nat->Nat} : ∀ {l : List Nat},Agree ad l->(List.range l.length).map ad = l:=by
 intro l h
 apply List.ext_getElem?
 intro m
 by_cases hm : m < l.length
 ·rw [List.getElem?_map,List.getElem?_range hm,List.getElem?_eq_getElem hm]
  show some (ad m) = _
  rw [h m _ (List.getElem?_eq_getElem hm)]
 ·rw [List.getElem?_eq_none (by simpa using Nat.le_of_not_lt hm),List.getElem?_eq_none (by simpa using Nat.le_of_not_lt hm)]
theorem Agree.append {ad : Nat->Nat} {l : List Nat} : ∀ {l' : List Nat},Agree ad (l ++ l')->Agree ad l ∧ ∀ (m : Nat) a,l'[m]? = some a->ad (l.length + m) = a:=by
 intro l' h
 refine ⟨fun m a e=>h m a ?_,fun m a e=>h _ a ?_⟩
 ·obtain ⟨hm,_⟩:=List.getElem?_eq_some_iff.mp e
  rw [List.getElem?_append_left hm]; exact e
 ·rw [List.getElem?_append_right (by omega),Nat.add_sub_cancel_left]; exact e
section
variable {α : Type} (w : World) (T : BT) (as : List Addr) (A : Around) (h₀ : Heap) (s₀ : Shared) (Q : α->Shared->Prop) (E : Value->Shared->Prop)
noncomputable def Snd (w : World) (A : Around) (E : Value->Shared->Prop) (Q : α->Shared->Prop) (hd : Option Value) (x : TT α) (s : Shared) : Prop:=match x with
 | .base t=>A.handled = hd->WP w A t Q E s
 | .inn t c κ kb hb=>∀ (A₁ : Around) R,Stk w A Q E kb hb κ R->A₁.handled = hd->A₁.depth ≤ A.depth + wts κ->A₁.units ≤ A.units + uns κ->(wts κ = 0->A₁.frames = A.frames ∧ A₁.guards = A.guards) →
   WP w (A₁.under c) t (finP w A₁ R) (errP R) s
noncomputable def EndP (w : World) (A : Around) (E : Value->Shared->Prop) (Q : α->Shared->Prop) (r : RE α) (s' : Shared) : Prop:=match r with
 | .val v=>Q v s'
 | .exc e=>E e s'
 | .thr c un e a=>e = .ref a ∧ ∀ A' : Around,A'.depth ≤ A.depth->A'.units ≤ A.units + un->A'.handled = none->A'.frames = A.frames->A'.guards = A.guards →
   CA w A' c (fun r s''=>∃ v,r = .error (.ref v) ∧ E (.ref v) s'') s'
 | .cut c un hd tt=>∀ A' : Around,A'.depth ≤ A.depth->A'.units ≤ A.units + un->A'.handled = none->A'.frames = A.frames->A'.guards = A.guards →
   CA w A' c (fun r s''=>Snd w A E Q hd (tt r) s'') s'
noncomputable def EvP (ad : Nat->Addr) (y : Ev) : Prop:=match y.x.p with
 | true=>∀ as' cs',Con w T as' y.c cs' y.x (A.depth + y.wt) (A.units + y.un)
 | false=>Con w T (as ++ (List.range y.i).map ad) y.c y.cs y.x (A.depth + y.wt) (A.units + y.un)
noncomputable def Fit (ad : Nat->Addr) (rr : RR α) : Prop :=
 (∀ p ∈ rr.ob,p.1 = p.2) ∧ (∀ y ∈ rr.cl,EvP w T as A ad y) ∧
 ∀ s',Rep h₀ (as ++ (List.range rr.i).map ad) rr.cs s'.heap->Same s₀ s'->EndP w A E Q rr.e s'
noncomputable def Ends (n ct : Nat) (xs : List Ext) (cs : List Obj) (la lt : List Nat) (hd : Option Value) (x : TT α) : Prop :=
 ∀ ad tk,Agree ad la->Agree tk lt->∃ rr,run denF ⟨pw,w.params⟩ T as ad tk n ct xs cs la.length lt.length hd x = some rr ∧ Fit w T as A h₀ s₀ Q E ad rr
noncomputable def Sound (cs : List Obj) (la : List Nat) (hd : Option Value) : TT α->Prop
 | .base t=>∀ s,Rep h₀ (as ++ la) cs s.heap->Same s₀ s->A.handled = hd->WP w A t Q E s
 | .inn t c κ kb hb=>∀ A₁ R s,Stk w A Q E kb hb κ R->A₁.handled = hd->A₁.depth ≤ A.depth + wts κ->A₁.units ≤ A.units + uns κ->(wts κ = 0->A₁.frames = A.frames ∧ A₁.guards = A.guards)->Rep h₀ (as ++ la) cs s.heap->Same s₀ s →
   WP w (A₁.under c) t (finP w A₁ R) (errP R) s
variable {w T as A h₀ s₀ Q E}
theorem Fit.ob {ad : Nat->Addr} {p : Addr × Addr} {r : RR α} (h : Fit w T as A h₀ s₀ Q E ad ⟨p :: r.ob,r.cl,r.cs,r.i,r.j,r.e⟩) : p.1 = p.2 ∧ Fit w T as A h₀ s₀ Q E ad r :=
 ⟨h.1 p (.head _),fun q hq=>h.1 q (.tail _ hq),h.2.1,h.2.2⟩
theorem Fit.cl {ad : Nat->Addr} {y : Ev} {r : RR α} (h : Fit w T as A h₀ s₀ Q E ad ⟨r.ob,y :: r.cl,r.cs,r.i,r.j,r.e⟩) : EvP w T as A ad y ∧ Fit w T as A h₀ s₀ Q E ad r :=
 ⟨h.2.1 y (.head _),h.1,fun q hq=>h.2.1 q (.tail _ hq),h.2.2⟩
theorem obPut_some {ob : Option (Addr × Addr)} {r : Option (RR α)} {rr : RR α} {ad : Nat->Addr} (e : obPut ob r = some rr) (F : Fit w T as A h₀ s₀ Q E ad rr) :
  ∃ r',r = some r' ∧ Fit w T as A h₀ s₀ Q E ad r' ∧ ∀ p,ob = some p->p.1 = p.2:=by
 cases ob with
 | none=>exact ⟨rr,e,F,fun _ h=>by cases h⟩
 | some p =>
  cases r with
  | none=>cases e
  | some r' =>
   cases e
   exact ⟨r',rfl,F.ob.2,fun q h=>by cases h; exact F.ob.1⟩
theorem clPut_some {y : Ev} {r : Option (RR α)} {rr : RR α} {ad : Nat->Addr} (e : clPut y r = some rr) (F : Fit w T as A h₀ s₀ Q E ad rr) :
  ∃ r',r = some r' ∧ Fit w T as A h₀ s₀ Q E ad r' ∧ EvP w T as A ad y:=by
 cases r with
 | none=>cases e
 | some r' =>
  cases e
  exact ⟨r',rfl,F.cl.2,F.cl.1⟩
theorem noneB_eq {β : Type} {o : Option β} (h : noneB o = true) : o = none:=by
 cases o with
 | none=>rfl
 | some _=>cases h
theorem orH_eq (h hd : Option Value) : orH h hd = h.or hd:=by cases h <;> rfl
theorem okMark_ne {h : Option Value} (e : okMark h = true) : h ≠ some byPass:=by
 intro q
 subst q
 simp [okMark] at e
theorem EvP.con {ad : Nat->Addr} {c : Code} {i : Nat} {cs : List Obj} {wt un : Nat} {x : Ext} (h : EvP w T as A ad (evOf c i cs wt un x)) : Con w T (as ++ (List.range i).map ad) c cs x (A.depth + wt) (A.units + un):=by
 unfold evOf at h
 cases hp : x.p with
 | true =>
  rw [hp] at h
  unfold EvP at h
  simp only [hp] at h
  exact h _ _
 | false =>
  rw [hp] at h
  unfold EvP at h
  simp only [hp] at h
  exact h
theorem ext_code {A' : Around} {c : Code} {cs : List Obj} {x : Ext} {D U : Nat} {la : List Nat} {s : Shared} {R : Result->Shared->Prop} (X : TopIn T h₀) (C : Con w T (as ++ la) c cs x D U)
  (hD : A'.depth ≤ D) (hU : A'.units ≤ U) (hh : A'.handled = none) (Rp : Rep h₀ (as ++ la) cs s.heap) (S : Same s₀ s)
  (h : ∀ g f s',Rep h₀ (as ++ (la ++ (List.range x.k).map g)) (x.up (cutN x.k g) (cut8 f) cs ++ x.nw (cutN x.k g) (cut8 f)) s'.heap->Same s₀ s'->R (x.r (cutN x.k g) (cut8 f)) s') : CA w A' c R s:=by
 refine codeAny_mono (C A' h₀ s hD hU hh X Rp) ?_
 rintro r s' ⟨g,f,rfl,R',S'⟩
 exact h g f s' (by rw [← List.append_assoc]; exact R') (S.trans S')
theorem dull_ok {β : Type} {A' : Around} {Q' : β->Shared->Prop} {E' : Value->Shared->Prop} {s : Shared} {e : Value} (he : E' e s) : ∀ (n : Nat) (t : Sem β),dull n t = some e->WP w A' t Q' E' s
 | 0,t,h=>by cases h
 | n + 1,t,h=>by
  cases t with
  | raise e'=>cases h; exact wpAny_throw he
  | rule tag k=>exact x_rule (dull_ok he n (k ()) h)
  | «at» q k=>exact x_at (dull_ok he n (k ()) h)
  | point l k=>exact x_point (dull_ok he n (k ()) h)
  | _=>cases h
theorem dullS_ok {kb : Result->Sem α} {hb : Option Value} {s : Shared} : ∀ {κ : List KF} {R : Result->Shared->Prop} (K : Stk w A Q E kb hb κ R) {e e' : Value},dullS kb κ e = some e'->E e' s->R (.error e) s
 | [],R,K,e,e',h,he=>by
  cases K
  exact dull_ok he 64 _ h
 | y :: κ,R,K,e,e',h,he=>by
  cases K with
  | cons K' q1 q2 q3 q4 =>
   simp only [dullS] at h
   cases hd : dull 64 (y.k (.error e)) with
   | none=>rw [hd] at h; cases h
   | some e1 =>
    rw [hd] at h
    exact dull_ok (dullS_ok K' h he) 64 _ hd
end
section
variable {α : Type} {w : World} {T : BT} {as : List Addr} {A : Around} {h₀ : Heap} {s₀ : Shared} {Q : α->Shared->Prop} {E : Value->Shared->Prop}
theorem eight {lt : List Nat} {f tk : 'f'} (h : Agree tk (lt ++ (List.range 8).map f)) : Agree tk lt ∧ cut8 (fun m=>tk (lt.length + m)) = cut8 f:=by
 obtain ⟨h1,h2⟩:=h.append
 refine ⟨h1,cut8_eq fun m hm=>h2 m _ ?_⟩
 rw [List.getElem?_map,List.getElem?_range hm]
 rfl
theorem more {la : List Nat} {k : Nat} {g ad : Nat->Addr} (h : Agree ad (la ++ (List.range k).map g)) : Agree ad la ∧ cutN k (fun m=>ad (la.length + m)) = cutN k g:=by
 obtain ⟨h1,h2⟩:=h.append
 refine ⟨h1,cutN_eq fun m hm=>h2 m _ ?_⟩
 rw [List.getElem?_map,List.getElem?_range hm]
 rfl
theorem thrEnd_some {cs : List Obj} {i j : Nat} {c : Code} {un : Nat} {a : Addr} {e : Option Value} {rr : RR α} (h : thrEnd cs i j c un a e = some rr) : ∃ v,e = some v ∧ rr = ⟨[],[],cs,i,j,.thr c un v a⟩:=by
 cases e with
 | none=>cases h
 | some v=>cases h; exact ⟨v,rfl,rfl⟩
theorem agree_self {la : List Nat} {v : Nat} {ad : Nat->Nat} (h : Agree ad (la ++ [v])) : Agree ad la ∧ ad la.length = v:=h.snoc
theorem run_sound (X : TopIn T h₀) : ∀ (n ct : Nat) (xs : List Ext) (cs : List Obj) (la lt : List Nat) (hd : Option Value) (x : TT α),
    Ends w T as A h₀ s₀ Q E n ct xs cs la lt hd x->Sound w as A h₀ s₀ Q E cs la hd x
  | 0,ct,xs,cs,la,lt,hd,x,H=>by
    obtain ⟨rr,e,_⟩:=H _ _ (agree_pick la) (agree_pick lt)
    cases e
  | n + 1,ct,xs,cs,la,lt,hd,.base t,H=>by
    intro s R S hh
    refine act_case (T:=T) (as:=as) (la:=la) (lt:=lt) (ct:=ct) (cs:=cs) (hd:=hd) (h₀:=h₀) (s:=s) (fun ad tk a=>∃ rr,nextB (run denF ⟨pw,w.params⟩ T as ad tk n) denF ad tk ct xs cs la.length lt.length hd a = some rr ∧ Fit w T as A h₀ s₀ Q E ad rr) t X R hh (fun ad tk h1 h2=>?_) ?_ ?_ ?_ ?_ ?_ ?_
    · obtain ⟨rr,e,F⟩:=H ad tk h1 h2
      exact ⟨rr,e,F⟩
    · intro v h
      obtain ⟨rr,e,F⟩:=h _ _ (agree_pick la) (agree_pick lt)
      cases e
      have:=F.2.2 s
      dsimp only at this
      rw [agree_map (agree_pick la)] at this
      exact this R S
    · intro v h
      obtain ⟨rr,e,F⟩:=h _ _ (agree_pick la) (agree_pick lt)
      cases e
      have:=F.2.2 s
      dsimp only at this
      rw [agree_map (agree_pick la)] at this
      exact this R S
    · intro c h g l k h'
      simp only [nextB] at h'
      cases hb : Nat.beq (ct % 256) 255 with
      | true =>
        simp only [hb] at h'
        cases hn : (noneB h && noneB hd) with
        | false=>simp only [hn] at h'; obtain ⟨rr,e,F⟩:=h' _ _ (agree_pick la) (agree_pick lt); cases e
        | true =>
          obtain ⟨n1,n2⟩:=Bool.and_eq_true_iff.mp hn
          have n1:=noneB_eq n1
          have n2:=noneB_eq n2
          subst n1 n2
          cases xs with
          | nil=>simp only [hn] at h'; obtain ⟨rr,e,F⟩:=h' _ _ (agree_pick la) (agree_pick lt); cases e
          | cons x xs' =>
            simp only [hn] at h'
            obtain ⟨rr,e,F⟩:=h' _ _ (agree_pick la) (agree_pick lt)
            obtain ⟨r',_,_,C⟩:=clPut_some e F
            have C:=C.con
            rw [agree_map (agree_pick la)] at C
            refine x_call ?_ (by intro q; cases q)
            refine ext_code X C (by exact Nat.le_refl _) (by exact Nat.le_refl _) (by show Option.or none A.handled = none; rw [hh]; rfl) R S ?_
            intro g f s' R' S'
            refine run_sound X n (ct / 256) xs' _ (la ++ (List.range x.k).map g) (lt ++ (List.range 8).map f) none (.base (k (x.r (cutN x.k g) (cut8 f)))) ?_ s' R' S' hh
            intro ad tk h1 h2
            obtain ⟨h3,h4⟩:=eight h2
            obtain ⟨h5,h6⟩:=more h1
            obtain ⟨rr,e,F⟩:=h' ad tk h5 h3
            obtain ⟨r',e',F',_⟩:=clPut_some e F
            refine ⟨r',?_,F'⟩
            rw [h4,h6,appK_eq] at e'
            rw [← e']
            simp
      | false =>
        simp only [hb] at h'
        cases h254 : Nat.beq (ct % 256) 254 with
        | true =>
          simp only [h254] at h'
          cases hn : (noneB h && noneB hd) with
          | false=>simp only [hn] at h'; obtain ⟨rr,e,F⟩:=h' _ _ (agree_pick la) (agree_pick lt); cases e
          | true =>
            obtain ⟨n1,n2⟩:=Bool.and_eq_true_iff.mp hn
            have n1:=noneB_eq n1
            have n2:=noneB_eq n2
            subst n1 n2
            simp only [hn] at h'
            obtain ⟨rr,e,F⟩:=h' _ _ (agree_pick la) (agree_pick lt)
            obtain ⟨v,_,rfl⟩:=thrEnd_some e
            have q:=F.2.2 s
            dsimp only at q
            rw [agree_map (agree_pick la)] at q
            obtain ⟨_,q⟩:=q R S
            refine x_call (codeAny_mono (q _ (Nat.le_refl _) (Nat.le_refl _) (by show Option.or none A.handled = none; rw [hh]; rfl) rfl rfl) ?_) (by intro q; cases q)
            rintro r s' ⟨z,rfl,hE⟩
            have a1:=agree_pick (la ++ [z])
            obtain ⟨a2,a3⟩:=agree_self a1
            obtain ⟨rr,e,F⟩:=h' _ _ a2 (agree_pick lt)
            obtain ⟨v,ev,rfl⟩:=thrEnd_some e
            have q:=F.2.2 s
            dsimp only at q
            rw [agree_map a2] at q
            obtain ⟨q1,_⟩:=q R S
            rw [a3] at ev q1
            subst q1
            exact dull_ok hE 64 _ ev
        | false =>
         simp only [h254] at h'
         cases h253 : Nat.beq (ct % 256) 253 with
         | true =>
          simp only [h253] at h'
          cases hn : (noneB h && noneB hd) with
          | false=>simp only [hn] at h'; obtain ⟨rr,e,F⟩:=h' _ _ (agree_pick la) (agree_pick lt); cases e
          | true =>
            obtain ⟨n1,n2⟩:=Bool.and_eq_true_iff.mp hn
            have n1:=noneB_eq n1
            have n2:=noneB_eq n2
            subst n1 n2
            simp only [hn] at h'
            obtain ⟨rr,e,F⟩:=h' _ _ (agree_pick la) (agree_pick lt)
            cases e
            have q:=F.2.2 s
            dsimp only at q
            rw [agree_map (agree_pick la)] at q
            have q:=q R S
            refine x_call (codeAny_mono (q _ (Nat.le_refl _) (Nat.le_refl _) (by show Option.or none A.handled = none; rw [hh]; rfl) rfl rfl) ?_) (by intro q; cases q)
            intro r s' hr
            exact hr hh
         | false =>
          simp only [h253] at h'
          cases hk : okMark h with
          | false=>simp only [hk] at h'; obtain ⟨rr,e,F⟩:=h' _ _ (agree_pick la) (agree_pick lt); cases e
          | true =>
            simp only [hk] at h'
            refine x_call (wpc ?_) (okMark_ne hk)
            exact run_sound X n (ct / 256) xs cs la lt (orH h hd) (.inn (denF c) c [] k hd) h' (A.mark h) _ s (.nil hh.symm) (by rw [orH_eq,← hh]; rfl) (Nat.le_refl _) (Nat.le_refl _) (fun _=>⟨rfl,rfl⟩) R S
    · intro t' dig ob cs' la' lt' s' di dj e1 e2 h R' S'
      refine run_sound X n (dgt dig ct) xs cs' la' lt' hd (.base t') ?_ s' R' (S.trans S') hh
      intro ad tk h1 h2
      obtain ⟨_,_,rr,e,F⟩:=h ad tk h1 h2
      obtain ⟨r',e',F',_⟩:=obPut_some e F
      refine ⟨r',?_,F'⟩
      rw [e1,e2]
      exact e'
    · intro ad tk t' dig p cs' di dj h1 h2 h
      obtain ⟨rr,e,F⟩:=h
      obtain ⟨r',e',F',q⟩:=obPut_some (ob:=some p) e F
      exact q p rfl
    · intro ad tk h
      obtain ⟨rr,e,F⟩:=h
      cases e
  | n + 1,ct,xs,cs,la,lt,hd,.inn t cc κ kb hb,H=>by
    intro A₁ Rr s K hh hdp hun hfr R S
    have leave : ∀ (r : Result) (xs' : List Ext) (ct' : Nat) (cs' : List Obj) (la' lt' : List Nat) (s' : Shared),Rep h₀ (as ++ la') cs' s'.heap->Same s₀ s' →
        (∀ ad tk,Agree ad la'->Agree tk lt'->∃ rr,leaveTo (run denF ⟨pw,w.params⟩ T as ad tk n) ct' xs' cs' la'.length lt'.length κ kb hb r = some rr ∧ Fit w T as A h₀ s₀ Q E ad rr)->Rr r s':=by
      intro r xs' ct' cs' la' lt' s' R' S' h
      cases K with
      | nil hq=>exact run_sound X n ct' xs' cs' la' lt' hb (.base (kb r)) h s' R' S' hq.symm
      | cons K' q1 q2 q3 q4=>exact run_sound X n ct' xs' cs' la' lt' _ (.inn _ _ _ kb hb) h _ _ s' K' q1 q2 q3 q4 R' S'
    refine act_case (T:=T) (as:=as) (la:=la) (lt:=lt) (ct:=ct) (cs:=cs) (hd:=hd) (h₀:=h₀) (s:=s) (fun ad tk a=>∃ rr,nextI (run denF ⟨pw,w.params⟩ T as ad tk n) denF ad tk ct xs cs la.length lt.length hd cc κ kb hb a = some rr ∧ Fit w T as A h₀ s₀ Q E ad rr) t X R (by show A₁.handled = hd; exact hh) (fun ad tk h1 h2=>?_) ?_ ?_ ?_ ?_ ?_ ?_
    · obtain ⟨rr,e,F⟩:=H ad tk h1 h2
      exact ⟨rr,e,F⟩
    · intro fin h
      cases fin with
      | done f=>exact leave (.ok f) xs ct cs la lt s R S h
      | again c =>
        simp only [nextI] at h
        cases hq : c.quiet with
        | false=>simp only [hq] at h; obtain ⟨rr,e,F⟩:=h _ _ (agree_pick la) (agree_pick lt); cases e
        | true =>
          simp only [hq] at h
          refine ⟨hq,?_⟩
          cases hb' : Nat.beq (ct % 256) 255 with
          | true =>
            simp only [hb'] at h
            cases hn : noneB hd with
            | false=>simp only [hn] at h; obtain ⟨rr,e,F⟩:=h _ _ (agree_pick la) (agree_pick lt); cases e
            | true =>
              have n2:=noneB_eq hn
              subst n2
              cases xs with
              | nil=>simp only [hn] at h; obtain ⟨rr,e,F⟩:=h _ _ (agree_pick la) (agree_pick lt); cases e
              | cons x xs' =>
                simp only [hn] at h
                obtain ⟨rr,e,F⟩:=h _ _ (agree_pick la) (agree_pick lt)
                obtain ⟨r',_,_,C⟩:=clPut_some e F
                have C:=C.con
                rw [agree_map (agree_pick la)] at C
                refine ext_code X C hdp hun hh R S ?_
                intro g f s' R' S'
                refine leave (x.r (cutN x.k g) (cut8 f)) xs' (ct / 256) _ (la ++ (List.range x.k).map g) (lt ++ (List.range 8).map f) s' R' S' ?_
                intro ad tk h1 h2
                obtain ⟨h3,h4⟩:=eight h2
                obtain ⟨h5,h6⟩:=more h1
                obtain ⟨rr,e,F⟩:=h ad tk h5 h3
                obtain ⟨r',e',F',_⟩:=clPut_some e F
                refine ⟨r',?_,F'⟩
                rw [h4,h6,appK_eq] at e'
                rw [← e']
                simp
          | false =>
            simp only [hb'] at h
            cases h254 : Nat.beq (ct % 256) 254 with
            | true =>
              simp only [h254] at h
              cases hn : (noneB hd && Nat.beq (wts κ) 0) with
              | false=>simp only [hn] at h; obtain ⟨rr,e,F⟩:=h _ _ (agree_pick la) (agree_pick lt); cases e
              | true =>
                obtain ⟨n1,n2⟩:=Bool.and_eq_true_iff.mp hn
                have n1:=noneB_eq n1
                have n2:=Nat.eq_of_beq_eq_true n2
                subst n1
                simp only [hn] at h
                obtain ⟨f1,f2⟩:=hfr n2
                obtain ⟨rr,e,F⟩:=h _ _ (agree_pick la) (agree_pick lt)
                obtain ⟨v,_,rfl⟩:=thrEnd_some e
                have q:=F.2.2 s
                dsimp only at q
                rw [agree_map (agree_pick la)] at q
                obtain ⟨_,q⟩:=q R S
                refine codeAny_mono (q _ (by omega) hun hh f1 f2) ?_
                rintro r s' ⟨z,rfl,hE⟩
                have a1:=agree_pick (la ++ [z])
                obtain ⟨a2,a3⟩:=agree_self a1
                obtain ⟨rr,e,F⟩:=h _ _ a2 (agree_pick lt)
                obtain ⟨v,ev,rfl⟩:=thrEnd_some e
                have q:=F.2.2 s
                dsimp only at q
                rw [agree_map a2] at q
                obtain ⟨q1,_⟩:=q R S
                rw [a3] at ev q1
                subst q1
                exact dullS_ok K ev hE
            | false =>
             simp only [h254] at h
             cases h253 : Nat.beq (ct % 256) 253 with
             | true =>
              simp only [h253] at h
              cases hn : (noneB hd && Nat.beq (wts κ) 0) with
              | false=>simp only [hn] at h; obtain ⟨rr,e,F⟩:=h _ _ (agree_pick la) (agree_pick lt); cases e
              | true =>
                obtain ⟨n1,n2⟩:=Bool.and_eq_true_iff.mp hn
                have n1:=noneB_eq n1
                have n2:=Nat.eq_of_beq_eq_true n2
                subst n1
                simp only [hn] at h
                obtain ⟨f1,f2⟩:=hfr n2
                obtain ⟨rr,e,F⟩:=h _ _ (agree_pick la) (agree_pick lt)
                cases e
                have q:=F.2.2 s
                dsimp only at q
                rw [agree_map (agree_pick la)] at q
                have q:=q R S
                refine codeAny_mono (q _ (by omega) hun hh f1 f2) ?_
                intro r s' hr
                cases K with
                | nil hq=>exact hr hq.symm
                | cons K' q1 q2 q3 q4=>exact hr _ _ K' q1 q2 q3 q4
             | false =>
              simp only [h253] at h
              refine wpc ?_
              exact run_sound X n (ct / 256) xs cs la lt hd (.inn (denF c) c κ kb hb) h A₁ Rr s K hh hdp hun hfr R S
    · intro e h
      exact leave (.error e) xs ct cs la lt s R S h
    · intro c h g l k h'
      simp only [nextI] at h'
      cases hb' : Nat.beq (ct % 256) 255 with
      | true =>
        simp only [hb'] at h'
        cases hn : (noneB h && noneB hd) with
        | false=>simp only [hn] at h'; obtain ⟨rr,e,F⟩:=h' _ _ (agree_pick la) (agree_pick lt); cases e
        | true =>
          obtain ⟨n1,n2⟩:=Bool.and_eq_true_iff.mp hn
          have n1:=noneB_eq n1
          have n2:=noneB_eq n2
          subst n1 n2
          cases xs with
          | nil=>simp only [hn] at h'; obtain ⟨rr,e,F⟩:=h' _ _ (agree_pick la) (agree_pick lt); cases e
          | cons x xs' =>
            simp only [hn] at h'
            obtain ⟨rr,e,F⟩:=h' _ _ (agree_pick la) (agree_pick lt)
            obtain ⟨r',_,_,C⟩:=clPut_some e F
            have C:=C.con
            rw [agree_map (agree_pick la)] at C
            refine x_call ?_ (by intro q; cases q)
            refine ext_code X C (by show A₁.depth + cc.weight ≤ _; omega) (by show A₁.units + cc.cUnits ≤ _; omega) (by show Option.or none A₁.handled = none; rw [hh]; rfl) R S ?_
            intro g f s' R' S'
            refine run_sound X n (ct / 256) xs' _ (la ++ (List.range x.k).map g) (lt ++ (List.range 8).map f) none (.inn (k (x.r (cutN x.k g) (cut8 f))) cc κ kb hb) ?_ A₁ Rr s' K hh hdp hun hfr R' S'
            intro ad tk h1 h2
            obtain ⟨h3,h4⟩:=eight h2
            obtain ⟨h5,h6⟩:=more h1
            obtain ⟨rr,e,F⟩:=h' ad tk h5 h3
            obtain ⟨r',e',F',_⟩:=clPut_some e F
            refine ⟨r',?_,F'⟩
            rw [h4,h6,appK_eq] at e'
            rw [← e']
            simp
      | false =>
        simp only [hb'] at h'
        have under : cc.weight + wts κ = 0->(A₁.under cc).frames = A.frames ∧ (A₁.under cc).guards = A.guards:=fun h0=>by
          have hc0 : cc.weight = 0:=by omega
          obtain ⟨f1,f2⟩:=hfr (by omega)
          refine ⟨?_,?_⟩
          · show pushEnvs cc.envs A₁.frames = _
            rw [Code.envs_of_weight hc0]; exact f1
          · show pushGuards cc.guards A₁.guards = _
            rw [Code.guards_of_weight hc0]; exact f2
        cases h254 : Nat.beq (ct % 256) 254 with
        | true =>
          simp only [h254] at h'
          cases hn : (noneB h && noneB hd && Nat.beq (cc.weight + wts κ) 0) with
          | false=>simp only [hn] at h'; obtain ⟨rr,e,F⟩:=h' _ _ (agree_pick la) (agree_pick lt); cases e
          | true =>
            obtain ⟨n1,n3⟩:=Bool.and_eq_true_iff.mp hn
            obtain ⟨n1,n2⟩:=Bool.and_eq_true_iff.mp n1
            have n1:=noneB_eq n1
            have n2:=noneB_eq n2
            have n3:=Nat.eq_of_beq_eq_true n3
            subst n1 n2
            simp only [hn] at h'
            obtain ⟨f1,f2⟩:=under n3
            obtain ⟨rr,e,F⟩:=h' _ _ (agree_pick la) (agree_pick lt)
            obtain ⟨v,_,rfl⟩:=thrEnd_some e
            have q:=F.2.2 s
            dsimp only at q
            rw [agree_map (agree_pick la)] at q
            obtain ⟨_,q⟩:=q R S
            refine x_call (codeAny_mono (q _ (by show A₁.depth + cc.weight ≤ A.depth; omega) (by show A₁.units + cc.cUnits ≤ A.units + (cc.cUnits + uns κ); omega) (by show Option.or none A₁.handled = none; rw [hh]; rfl) f1 f2) ?_) (by intro q; cases q)
            rintro r s' ⟨z,rfl,hE⟩
            have a1:=agree_pick (la ++ [z])
            obtain ⟨a2,a3⟩:=agree_self a1
            obtain ⟨rr,e,F⟩:=h' _ _ a2 (agree_pick lt)
            obtain ⟨v,ev,rfl⟩:=thrEnd_some e
            have q:=F.2.2 s
            dsimp only at q
            rw [agree_map a2] at q
            obtain ⟨q1,_⟩:=q R S
            rw [a3] at ev q1
            subst q1
            exact dullS_ok (.cons K hh hdp hun hfr) ev hE
        | false =>
         simp only [h254] at h'
         cases h253 : Nat.beq (ct % 256) 253 with
         | true =>
          simp only [h253] at h'
          cases hn : (noneB h && noneB hd && Nat.beq (cc.weight + wts κ) 0) with
          | false=>simp only [hn] at h'; obtain ⟨rr,e,F⟩:=h' _ _ (agree_pick la) (agree_pick lt); cases e
          | true =>
            obtain ⟨n1,n3⟩:=Bool.and_eq_true_iff.mp hn
            obtain ⟨n1,n2⟩:=Bool.and_eq_true_iff.mp n1
            have n1:=noneB_eq n1
            have n2:=noneB_eq n2
            have n3:=Nat.eq_of_beq_eq_true n3
            subst n1 n2
            simp only [hn] at h'
            obtain ⟨f1,f2⟩:=under n3
            obtain ⟨rr,e,F⟩:=h' _ _ (agree_pick la) (agree_pick lt)
            cases e
            have q:=F.2.2 s
            dsimp only at q
            rw [agree_map (agree_pick la)] at q
            have q:=q R S
            refine x_call (codeAny_mono (q _ (by show A₁.depth + cc.weight ≤ A.depth; omega) (by show A₁.units + cc.cUnits ≤ A.units + (cc.cUnits + uns κ); omega) (by show Option.or none A₁.handled = none; rw [hh]; rfl) f1 f2) ?_) (by intro q; cases q)
            intro r s' hr
            exact hr _ _ K hh hdp hun hfr
         | false =>
          simp only [h253] at h'
          cases hk : okMark h with
          | false=>simp only [hk] at h'; obtain ⟨rr,e,F⟩:=h' _ _ (agree_pick la) (agree_pick lt); cases e
          | true =>
            simp only [hk] at h'
            refine x_call (wpc ?_) (okMark_ne hk)
            exact run_sound X n (ct / 256) xs cs la lt (orH h hd) (.inn (denF c) c (⟨k,hd,cc⟩ :: κ) kb hb) h' ((A₁.under cc).mark h) _ s (.cons K hh hdp hun hfr) (by rw [orH_eq,← hh]; rfl)
              (by show A₁.depth + cc.weight ≤ A.depth + (cc.weight + wts κ); omega) (by show A₁.units + cc.cUnits ≤ A.units + (cc.cUnits + uns κ); omega) under R S
    · intro t' dig ob cs' la' lt' s' di dj e1 e2 h R' S'
      refine run_sound X n (dgt dig ct) xs cs' la' lt' hd (.inn t' cc κ kb hb) ?_ A₁ Rr s' K hh hdp hun hfr R' (S.trans S')
      intro ad tk h1 h2
      obtain ⟨_,_,rr,e,F⟩:=h ad tk h1 h2
      obtain ⟨r',e',F',_⟩:=obPut_some e F
      refine ⟨r',?_,F'⟩
      rw [e1,e2]
      exact e'
    · intro ad tk t' dig p cs' di dj h1 h2 h
      obtain ⟨rr,e,F⟩:=h
      obtain ⟨r',e',F',q⟩:=obPut_some (ob:=some p) e F
      exact q p rfl
    · intro ad tk h
      obtain ⟨rr,e,F⟩:=h
      cases e
end
theorem Rep.first {h₀ h : Heap} {as la : List Addr} {cs : List Obj} (R : Rep h₀ (as ++ la) cs h) : Rep h₀ as (cs.take as.length) h:=by
 have hl:=R.len
 simp at hl
 refine ⟨by simp; omega,(List.nodup_append.mp R.nd).1,?_,fun a ha=>R.fresh a (List.mem_append.mpr (.inl ha)),R.keep⟩
 intro m a o h1 h2
 obtain ⟨hm,_⟩:=List.getElem?_eq_some_iff.mp h1
 rw [List.getElem?_take_of_lt hm] at h2
 exact R.cell m a o (by rw [List.getElem?_append_left hm]; exact h1) h2
noncomputable def selfs (as : List Addr) (ad : Nat->Addr) : Nat->Nat->List (Addr × Addr)
 | 0,_=>[]
 | n + 1,ct=>match Nat.beq ct 0 with
  | true=>[]
  | false=>match ct % 256 with
   | 0=>selfs as ad n (ct / 256)
   | m + 1=>match Nat.ble 252 m with
    | true=>selfs as ad n (ct / 256)
    | false=>match Nat.ble 200 m with
     | true=>(adr as ad (m - 200),adr as ad (m - 200)) :: selfs as ad n (ct / 256)
     | false=>(adr as ad m,adr as ad m) :: selfs as ad n (ct / 256)
theorem selfs_ok {as : List Addr} {ad : Nat->Addr} : ∀ (n ct : Nat),∀ p ∈ selfs as ad n ct,p.1 = p.2
 | 0,_,p,hp=>by cases hp
 | n + 1,ct,p,hp=>by
  unfold selfs at hp
  split at hp
  ·cases hp
  ·split at hp
   ·exact selfs_ok n _ p hp
   ·split at hp
    ·exact selfs_ok n _ p hp
    ·split at hp
     ·rcases List.mem_cons.mp hp with rfl | hp
      ·rfl
      ·exact selfs_ok n _ p hp
     ·rcases List.mem_cons.mp hp with rfl | hp
      ·rfl
      ·exact selfs_ok n _ p hp
noncomputable def proj {α : Type} (k : Nat) (r : Option (RR α)) : Option (List (Addr × Addr) × List Ev × List Obj × RE α):=match r with
 | some r=>some (r.ob,r.cl,r.cs.take k,r.e)
 | none=>none
noncomputable def LeafT {α : Type} (P : Params) (T : BT) (as : List Addr) (cs : List Obj) (n ct : Nat) (xs : List Ext) (hd : Option Value) (x : TT α) (k : Nat) (evs : (Nat->Addr)->(Nat->Tok)->List Ev) (cs' : (Nat->Addr)->(Nat->Tok)->List Obj) (e : (Nat->Addr)->(Nat->Tok)->RE α) : Prop :=
 ∀ ad tk,proj (as.length + k) (run denF ⟨pw,P⟩ T as ad tk n ct xs cs 0 0 hd x) = some (selfs as ad n ct,evs ad tk,cs' ad tk,e ad tk)
theorem Sound.snd {α : Type} {w : World} {as : List Addr} {A : Around} {h₀ : Heap} {s : Shared} {Q : α->Shared->Prop} {E : Value->Shared->Prop} {cs : List Obj} {hd : Option Value} : ∀ {x : TT α},Sound w as A h₀ s Q E cs [] hd x->Rep h₀ as cs s.heap->Snd w A E Q hd x s
 | .base t,h,R=>fun hh=>h s (by rw [List.append_nil]; exact R) (Same.refl s) hh
 | .inn t c κ kb hb,h,R=>fun A₁ R₁ K h1 h2 h3 h4=>h A₁ R₁ s K h1 h2 h3 h4 (by rw [List.append_nil]; exact R) (Same.refl s)
theorem LeafT.sound {α : Type} {w : World} {T : BT} {as : List Addr} {cs : List Obj} {n ct : Nat} {xs : List Ext} {hd : Option Value} {x : TT α} {k : Nat} {evs : 'k'->'q'->List Ev} {cs' : 'k'->'q'->List Obj} {e : 'k'->'q'->RE α}
  (L : LeafT w.params T as cs n ct xs hd x k evs cs' e) {A : Around} {h₀ : Heap} {s : Shared} {Q : α->Shared->Prop} {E : Value->Shared->Prop} (X : TopIn T h₀) (R : Rep h₀ as cs s.heap)
  (hk : ∀ ad tk,(cs' ad tk).length = as.length + k)
  (C : ∀ ad tk,∀ y ∈ evs ad tk,EvP w T as A ad y)
  (h : ∀ ad tk s',Rep h₀ (as ++ (List.range k).map ad) (cs' ad tk) s'.heap->Same s s'->EndP w A E Q (e ad tk) s') : Snd w A E Q hd x s:=by
 refine (run_sound (w:=w) (T:=T) (as:=as) (A:=A) (h₀:=h₀) (s₀:=s) (Q:=Q) (E:=E) X n ct xs cs [] [] hd x ?_).snd R
 intro ad tk _ _
 have q:=L ad tk
 unfold proj at q
 cases hr : run denF ⟨pw,w.params⟩ T as ad tk n ct xs cs 0 0 hd x with
 | none=>rw [hr] at q; cases q
 | some rr =>
  rw [hr] at q
  simp only [Option.some.injEq,Prod.mk.injEq] at q
  obtain ⟨q1,q2,q3,q4⟩:=q
  refine ⟨rr,rfl,fun p hp=>selfs_ok n ct p (q1 ▸ hp),fun y hy=>C ad tk y (q2 ▸ hy),fun s' R' S'=>?_⟩
  have hl:=R'.len
  have hi : k ≤ rr.i:=by
   have h1:=congrArg List.length q3
   rw [hk ad tk,List.length_take] at h1
   simp at hl
   omega
  have e1 : (List.range rr.i).map ad = (List.range k).map ad ++ (List.range' k (rr.i - k)).map ad:=by
   rw [← List.map_append,List.range_eq_range',List.range_eq_range']
   congr 1
   have:=List.range'_append_1 (s:=0) (m:=k) (n:=rr.i - k)
   rw [Nat.zero_add] at this
   rw [this]
   congr 1
   omega
  rw [e1,← List.append_assoc] at R'
  have R2:=R'.first
  have e2 : (as ++ (List.range k).map ad).length = as.length + k:=by simp
  rw [e2,q3] at R2
  have z:=h ad tk s' R2 S'
  rw [← q4] at z
  exact z
noncomputable def Leaf {α : Type} (P : Params) (T : BT) (as : List Addr) (cs : List Obj) (n ct : Nat) (xs : List Ext) (t : Sem α) (k : Nat) (evs : (Nat->Addr)->(Nat->Tok)->List Ev) (cs' : (Nat->Addr)->(Nat->Tok)->List Obj) (e : (Nat->Addr)->(Nat->Tok)->RE α) : Prop :=
 LeafT P T as cs n ct xs none (.base t) k evs cs' e
theorem Leaf.sound {α : Type} {w : World} {T : BT} {as : List Addr} {cs : List Obj} {n ct : Nat} {xs : List Ext} {t : Sem α} {k : Nat} {evs : 'k'->'q'->List Ev} {cs' : 'k'->'q'->List Obj} {e : 'k'->'q'->RE α}
  (L : Leaf w.params T as cs n ct xs t k evs cs' e) {A : Around} {h₀ : Heap} {s : Shared} {Q : α->Shared->Prop} {E : Value->Shared->Prop} (X : TopIn T h₀) (R : Rep h₀ as cs s.heap) (hh : 'g')
  (hk : ∀ ad tk,(cs' ad tk).length = as.length + k)
  (C : ∀ ad tk,∀ y ∈ evs ad tk,EvP w T as A ad y)
  (h : ∀ ad tk s',Rep h₀ (as ++ (List.range k).map ad) (cs' ad tk) s'.heap->Same s s'->EndP w A E Q (e ad tk) s') : WP w A t Q E s :=
 LeafT.sound L X R hk C h hh
theorem params_ext {P P' : Params} (h : ∀ r,P.followText r = P'.followText r) (e : { P with followText:=P'.followText } = P') : P = P':=by
 rw [← e]
 have : P.followText = P'.followText:=funext h
 rw [← this]
noncomputable def rowA : String:="special-get-raises"
noncomputable def rowB : String:="comprehension-iter-twice"
noncomputable def sg (b c : Bool) (P : Params) : Params:={ P with followText:=fun r=>match Fast.strDec r rowA with
 | .isTrue _=>b
 | .isFalse _=>match Fast.strDec r rowB with
  | .isTrue _=>c
  | .isFalse _=>P.followText r }
theorem sg_self (P : Params) : sg (P.followText rowA) (P.followText rowB) P = P:=by
 refine params_ext (fun r=>?_) rfl
 show (match Fast.strDec r rowA with | .isTrue _=>_ | .isFalse _=>_) = _
 split
 ·rename_i h _; rw [h]
 ·split
  ·rename_i h _; rw [h]
  ·rfl
theorem rows {motive : Params->Prop} (step : ∀ rb rc P,motive (sg rb rc P)) (P : Params) : motive P:=by
 have:=step (P.followText rowA) (P.followText rowB) P
 rwa [sg_self] at this
noncomputable def retV : Flow->Value
 | .ret v=>v
 | _=>.none
noncomputable abbrev zX (c : Code) (x : Ext) : Ev:=⟨c,0,[],0,0,x⟩
noncomputable abbrev zvn : (Nat->Addr)->(Nat->Tok)->RE Flow:=fun _ _=>.val .next
noncomputable abbrev zve : (Nat->Addr)->(Nat->Tok)->List Ev:=fun _ _=>[]
noncomputable abbrev zNE (fd : FuncData) (f : Addr) (b : List (Str × Value)):=Fast.tw11113344188204177931 fd.scope fd.globals fd.closure b (fd.qualname ++ ".<locals>.") (some f) fd.code none fd.builtins
noncomputable abbrev zBA:=@Fast.tw9782568553167038054
noncomputable abbrev zEV:=@Fast.tw14044960220447912780
noncomputable abbrev zEX:=@Fast.tw12563942051412417395
noncomputable abbrev zIT:=@Fast.tw15418851999007992765
theorem tw_bind (fd : FuncData) (args : Args) : bindArgs fd args = zBA fd args:=by rw [Fast.te9782568553167038054]
theorem tw_env (sc : Scope) (g : Addr) (cl : List (Str × Addr)) (b : List (Str × Value)) (q : Str) (f : Option Addr) (c : Value) (bs : Addr) :
  newFunctionEnv sc g cl b q f c none bs = Fast.tw11113344188204177931 sc g cl b q f c none bs:=by rw [Fast.te11113344188204177931]
theorem fst_zip {α β : Type} : ∀ {l : List α} {m : List β},l.length = m.length->(l.zip m).map Prod.fst = l
 | [],_,_=>by simp
 | a :: l,[],h=>by simp at h
 | a :: l,b :: m,h=>by simp at h; simp [fst_zip h]
theorem Rep.perm {h₀ h : Heap} {as bs : List Addr} {cs ds : List Obj} (R : Rep h₀ as cs h) (hl : bs.length = ds.length) (hp : (as.zip cs).Perm (bs.zip ds)) : Rep h₀ bs ds h:=by
 have pf : as.Perm bs:=by
  have:=hp.map Prod.fst
  rwa [fst_zip R.len,fst_zip hl] at this
 refine ⟨hl,pf.nodup_iff.mp R.nd,fun m a o e1 e2=>?_,fun a ha=>R.fresh a (pf.mem_iff.mpr ha),R.keep⟩
 have hm : (a,o) ∈ bs.zip ds:=List.mem_of_getElem? (i:=m) (by rw [List.getElem?_zip_eq_some]; exact ⟨e1,e2⟩)
 obtain ⟨m',e'⟩:=List.mem_iff_getElem?.mp (hp.mem_iff.mpr hm)
 rw [List.getElem?_zip_eq_some] at e'
 exact R.cell m' a o e'.1 e'.2
theorem mid_perm {α : Type} (a b c : List α) : (a ++ b ++ c).Perm (b ++ (a ++ c)):=by
 rw [← List.append_assoc]
 exact (List.perm_append_comm (l₁:=a) (l₂:=b)).append_right c
theorem Con.frame {w : World} {T : BT} {l₁ as l₂ : List Addr} {c : Code} {c₁ cs c₂ : List Obj} {x y : Ext} {D U : Nat} (C : Con w T as c cs x D U) (h1 : l₁.length = c₁.length) (h2 : l₂.length = c₂.length)
  (hk : y.k = x.k) (hr : y.r = x.r) (hn : y.nw = x.nw) (hu : ∀ g f,y.up g f (c₁ ++ cs ++ c₂) = c₁ ++ x.up g f cs ++ c₂) (hlen : ∀ g f,(x.up g f cs).length = cs.length) :
  Con w T (l₁ ++ as ++ l₂) c (c₁ ++ cs ++ c₂) y D U:=by
 intro A h₀ s hD hU hh X R
 have hl:=R.len
 have hc : as.length = cs.length:=by simp at hl; omega
 have R1 : Rep h₀ (as ++ (l₁ ++ l₂)) (cs ++ (c₁ ++ c₂)) s.heap:=by
  refine R.perm (by simp; omega) ?_
  rw [List.zip_append (by simp; omega),List.zip_append h1,List.zip_append hc,List.zip_append h1]
  exact mid_perm _ _ _
 have q:=R1.hideRest
 rw [hc,List.take_left] at q
 refine codeAny_mono (C A (hideAll s.heap as) s hD hU hh (X.hide R1) q) ?_
 rintro r s' ⟨g,f,rfl,R',S'⟩
 refine ⟨g,f,by rw [hk,hr],?_,S'⟩
 have R2:=R1.back ((hlen _ _).trans hc.symm) R'
 rw [hc,List.drop_left] at R2
 rw [hk,hn,hu]
 have hl2:=R'.len
 have hl3:=hlen (cutN x.k g) (cut8 f)
 simp at hl2
 refine R2.perm (by simp; omega) ?_
 rw [List.zip_append (by omega),List.zip_append (by simp; omega),List.zip_append h1,List.zip_append (by simp; omega),List.zip_append (by simp; omega),List.zip_append h1]
 rw [← List.append_assoc]
 exact (mid_perm _ _ _).symm.append_right _
theorem Con.mono {w : World} {T : BT} {as : List Addr} {c : Code} {cs : List Obj} {x : Ext} {D U D' U' : Nat} (C : Con w T as c cs x D U) (hD : D' ≤ D) (hU : U' ≤ U) : Con w T as c cs x D' U' :=
 fun A h₀ s h1 h2=>C A h₀ s (Nat.le_trans h1 hD) (Nat.le_trans h2 hU)
theorem fn_code {w : World} {A : Around} {as : List Addr} {cs : List Obj} {f : Addr} {args : Args} {fobj : Obj} {fd : FuncData} {body : List Stmt} {binds : List (Str × Value)} {n1 ct1 n2 ct2 : Nat} {frame : 'q'->Obj} {env : Addr->Env}
  {h₀ : Heap} {s : Shared} {R : Result->Shared->Prop} (hD : A.depth < recursionLimit) (hh : 'g') (X : 'r') (Rp : Rep h₀ as cs s.heap)
  (hT : 'c'.get f = some fobj) (hfd : fobj.data = .func fd) (hfr : fobj.isFreed = false) (hco : fd.scope.isCoroutine = false) (hgen : fd.scope.isGenerator = false) (hbody : fd.body = .stmts body)
  (hcd : ∀ h,TopIn 'c' h->h.CodeRec fd.code fd.qualname) (hlim : ∀ h,TopIn 'c' h->h.NoLimit)
  (L1 : Leaf w.params 'c' as cs n1 ct1 [] (zBA fd args) 0 (fun _ _=>[]) (fun _ _=>cs) (fun _ _=>.val binds))
  (L2 : Leaf w.params 'c' as cs n2 ct2 [] (Fast.tw11113344188204177931 fd.scope fd.globals fd.closure binds (fd.qualname ++ ".<locals>.") (some f) fd.code none fd.builtins) 1 (fun _ _=>[]) (fun _ tk=>cs ++ [frame tk]) (fun ad _=>.val (env (ad 0))))
  (h : ∀ L tk s',Rep h₀ (as ++ [L]) (cs ++ [frame tk]) s'.heap->Same s s'->WP w (A.deeper (env L)) (execs body (env L)) (fun fl s''=>R (.ok (.ret (retV fl))) s'')
   (fun e s''=>WP w (A.deeper (env L)) (leaving (env L) e) (fun _ s3=>R (.error e) s3) (fun e' s3=>R (.error e') s3) s'') s') :
  CA w A (.call (.ref f) args) R s:=by
 have hlen:=Rp.len
 have up : ∀ {h : Heap},(∀ b o,h₀.get? b = some o->h.get? b = some o)->TopIn (Tf w.params) h:=fun k a o e1 e2=>k _ _ (X a o e1 e2)
 refine codeAny_call_function hD (Rp.keep _ _ (X f fobj hT hfr)) hfd hco hgen hbody (hcd _ (up Rp.keep)) ?_
 rw [tw_bind]
 refine L1.sound X Rp (by show A.handled = none; exact hh) (fun _ _=>by rw [hlen]; rfl) (fun _ _ y hy=>by cases hy) ?_
 intro ad tk s1 R1 S1
 simp only [EndP]
 rw [tw_env]
 have R1' : Rep h₀ as cs s1.heap:=by simpa using R1
 refine L2.sound X R1' (by show A.handled = none; exact hh) (fun _ _=>by simp [hlen]) (fun _ _ y hy=>by cases hy) ?_
 intro ad2 tk2 s2 R2 S2
 simp only [EndP]
 have R2' : Rep h₀ (as ++ [ad2 0]) (cs ++ [frame tk2]) s2.heap:=R2
 refine ⟨hlim _ (up R2'.keep),codeAny_func (wpAny_mono (h (ad2 0) tk2 s2 R2' (S1.trans S2)) (fun fl s'' q=>?_) fun _ _ q=>q)⟩
 cases fl <;> exact q
noncomputable def Lf {α : Type} (P : Params) (T : BT) (as : List Addr) (cs : List Obj) (xs : List Ext) (t : Sem α) (k : Nat) (evs : 'k'->'q'->List Ev) (cs' : 'k'->'q'->List Obj) (e : 'k'->'q'->RE α) : Prop :=
 ∃ n ct,Leaf P T as cs n ct xs t k evs cs' e
theorem Lf.sound { α : Type } { w : World } { T : BT } { as : List Addr } { cs : List Obj } { xs : List Ext } { t : Sem α } { k : Nat } { evs : 'k'->'q'->List Ev } { cs' : 'k'->'q'->List Obj } { e : 'k'->'q'->RE α }
  (L : Lf w.params T as cs xs t k evs cs' e) {A : Around} {h₀ : Heap} {s : Shared} {Q : α->Shared->Prop} {E : Value->Shared->Prop} (X : TopIn T h₀) (R : Rep h₀ as cs s.heap) (hh : 'g')
  (hk : ∀ ad tk,(cs' ad tk).length = as.length + k)
  (C : ∀ ad tk,∀ y ∈ evs ad tk,EvP w T as A ad y)
  (h : ∀ ad tk s',Rep h₀ (as ++ (List.range k).map ad) (cs' ad tk) s'.heap->Same s s'->EndP w A E Q (e ad tk) s') : WP w A t Q E s :=
 let ⟨_,_,L⟩:=L; L.sound X R hh hk C h
noncomputable def LfT {α : Type} (P : Params) (T : BT) (as : List Addr) (cs : List Obj) (xs : List Ext) (x : TT α) (k : Nat) (evs : 'k'->'q'->List Ev) (cs' : 'k'->'q'->List Obj) (e : 'k'->'q'->RE α) : Prop :=
 ∃ n ct,LeafT P T as cs n ct xs none x k evs cs' e
theorem LfT.sound { α : Type } { w : World } { T : BT } { as : List Addr } { cs : List Obj } { xs : List Ext } { x : TT α } { k : Nat } { evs : 'k'->'q'->List Ev } { cs' : 'k'->'q'->List Obj } { e : 'k'->'q'->RE α }
  (L : LfT w.params T as cs xs x k evs cs' e) {A : Around} {h₀ : Heap} {s : Shared} {Q : α->Shared->Prop} {E : Value->Shared->Prop} (X : TopIn T h₀) (R : Rep h₀ as cs s.heap)
  (hk : ∀ ad tk,(cs' ad tk).length = as.length + k)
  (C : ∀ ad tk,∀ y ∈ evs ad tk,EvP w T as A ad y)
  (h : ∀ ad tk s',Rep h₀ (as ++ (List.range k).map ad) (cs' ad tk) s'.heap->Same s s'->EndP w A E Q (e ad tk) s') : Snd w A E Q none x s :=
 let ⟨_,_,L⟩:=L; L.sound X R hk C h
noncomputable def ttOf {α : Type} (q : Option (RR α)) (r : Result) : TT α:=match q with
 | some ⟨_,_,_,_,_,.cut _ _ _ tt⟩=>tt r
 | _=>.base (.unsupported "")
noncomputable def sE : List DictEntry->Nat->Value->List DictEntry
 | [],_,_=>[]
 | ⟨h,k,_⟩ :: l,0,v=>⟨h,k,v⟩ :: l
 | e :: l,j + 1,v=>e :: sE l j v
noncomputable def sv (o : Obj) (j : Nat) (v : Value) : Obj:=match o with
 | ⟨c,d,.dict ⟨es⟩ n,sl⟩=>⟨c,d,.dict ⟨sE es j v⟩ n,sl⟩
 | o=>o
noncomputable def snl : List DictEntry->DictEntry->List DictEntry
 | [],e=>[e]
 | x :: l,e=>x :: snl l e
noncomputable def sn (o : Obj) (e : DictEntry) : Obj:=match o with
 | ⟨c,d,.dict ⟨es⟩ n,sl⟩=>⟨c,d,.dict ⟨snl es e⟩ (n + 1),sl⟩
 | o=>o
theorem codeRec_top {P : Params} {c : Addr} {o : Obj} {vs : List Value} {q : Str} {t : Tok} (h1 : (Tf P).get c = some o) (h2 : o.data = .fields ⟨vs⟩) (h4 : vs[1]? = some (.str q t)) : ∀ h,TopIn (Tf P) h->h.CodeRec (.ref c) q :=
 fun h X=>⟨c,o,⟨vs⟩,t,rfl,X c o h1 (Obj.isFreed_of_fields h2),h2,by simpa using h4⟩
theorem top2 (P : Params) : (Tf P).get 2 = some (o2 P):=by kernel_rfl!
theorem strDec_eq (a b : Str) : (a == b) = decide (a = b):=by
 by_cases h : a = b <;> simp [h]
theorem noLimit_top {P : Params} : ∀ h,TopIn (Tf P) h->h.NoLimit:=by
 intro h X
 refine ⟨fun n=>nsFind ⟨_⟩ n,⟨o2 P,_,_,X 2 (o2 P) (top2 P) rfl,rfl,?_,fun n=>rfl⟩,?_⟩
 ·intro e he
  simp only [Array.mem_def,List.mem_cons,List.not_mem_nil,or_false] at he
  rcases he with rfl | rfl | rfl | rfl | rfl | rfl | rfl | rfl | rfl | rfl | rfl | rfl <;> exact ⟨_,_,rfl⟩
 ·kernel_rfl!
theorem fn_call {w : World} {A : Around} {as : List Addr} {cs : List Obj} {f : Addr} {args : Args} {fobj : Obj} {fd : FuncData} {body : List Stmt} {binds : List (Str × Value)} (frame : 'q'->Obj) (env : Addr->Env)
  {h₀ : Heap} {s : Shared} {R : Result->Shared->Prop} (hD : A.depth < recursionLimit) (hh : 'g') (X : 'r') (Rp : Rep h₀ as cs s.heap)
  (hT : 'c'.get f = some fobj) (hfd : fobj.data = .func fd) (hfr : fobj.isFreed = false) (hco : fd.scope.isCoroutine = false) (hgen : fd.scope.isGenerator = false) (hbody : fd.body = .stmts body)
  (hcd : ∀ h,TopIn 'c' h->h.CodeRec fd.code fd.qualname)
  (L1 : Lf w.params 'c' as cs [] (zBA fd args) 0 (fun _ _=>[]) (fun _ _=>cs) (fun _ _=>.val binds))
  (L2 : Lf w.params 'c' as cs [] (Fast.tw11113344188204177931 fd.scope fd.globals fd.closure binds (fd.qualname ++ ".<locals>.") (some f) fd.code none fd.builtins) 1 (fun _ _=>[]) (fun _ tk=>cs ++ [frame tk]) (fun ad _=>.val (env (ad 0))))
  (h : ∀ L tk s',Rep h₀ (as ++ [L]) (cs ++ [frame tk]) s'.heap->Same s s'->WP w (A.deeper (env L)) (execs body (env L)) (fun fl s''=>R (.ok (.ret (retV fl))) s'')
   (fun e s''=>WP w (A.deeper (env L)) (leaving (env L) e) (fun _ s3=>R (.error e) s3) (fun e' s3=>R (.error e') s3) s'') s') :
  CA w A (.call (.ref f) args) R s :=
 let ⟨_,_,L1⟩:=L1
 let ⟨_,_,L2⟩:=L2
 fn_code hD hh X Rp hT hfd hfr hco hgen hbody hcd noLimit_top L1 L2 h
noncomputable def CallT (w : World) (as : List Addr) (cs : List Obj) (fr : (Nat->Tok)->Obj) (env : Addr->Env) (body : List Stmt) (f : Addr) (args : Args) : Prop:=∀ {A : Around} {h₀ : Heap} {s : Shared} {R : Result->Shared->Prop},A.depth < recursionLimit->A.handled = none->TopIn (Tf w.params) h₀->Rep h₀ as cs s.heap →
  (∀ L tk s',Rep h₀ (as ++ [L]) (cs ++ [fr tk]) s'.heap->Same s s'->WP w (A.deeper (env L)) (execs body (env L)) (fun fl s''=>R (.ok (.ret (retV fl))) s'')
   (fun e s''=>WP w (A.deeper (env L)) (leaving (env L) e) (fun _ s3=>R (.error e) s3) (fun e' s3=>R (.error e') s3) s'') s')->CA w A (.call (.ref f) args) R s
theorem callT {w : World} {as : List Addr} {cs : List Obj} {f : Addr} {args : Args} {fobj : Obj} {fd : FuncData} {body : List Stmt} {binds : List (Str × Value)} (frame : 'q'->Obj) (env : Addr->Env)
  (hT : 'c'.get f = some fobj) (hfd : fobj.data = .func fd) (hfr : fobj.isFreed = false) (hco : fd.scope.isCoroutine = false) (hgen : fd.scope.isGenerator = false) (hbody : fd.body = .stmts body)
  (hcd : ∀ h,TopIn 'c' h->h.CodeRec fd.code fd.qualname)
  (L1 : Lf w.params 'c' as cs [] (Fast.tw9782568553167038054 fd args) 0 (fun _ _=>[]) (fun _ _=>cs) (fun _ _=>.val binds))
  (L2 : Lf w.params 'c' as cs [] (Fast.tw11113344188204177931 fd.scope fd.globals fd.closure binds (fd.qualname ++ ".<locals>.") (some f) fd.code none fd.builtins) 1 (fun _ _=>[]) (fun _ tk=>cs ++ [frame tk]) (fun ad _=>.val (env (ad 0)))) :
  CallT w as cs frame env body f args:=fun hD hh X Rp h=>fn_call frame env hD hh X Rp hT hfd hfr hco hgen hbody hcd L1 L2 h
noncomputable def runL {α : Type} (P : Params) (T : BT) (as : List Addr) (cs : List Obj) (n ct : Nat) (xs : List Ext) (hd : Option Value) (x : TT α) (k : Nat) : (Nat->Addr)->(Nat->Tok)->Option (List (Addr × Addr) × List Ev × List Obj × RE α):=fun ad tk=>proj (as.length + k) (run denF ⟨pw,P⟩ T as ad tk n ct xs cs 0 0 hd x)
noncomputable def rhsL {α : Type} (as : List Addr) (n ct : Nat) (evs : (Nat->Addr)->(Nat->Tok)->List Ev) (cs' : (Nat->Addr)->(Nat->Tok)->List Obj) (e : (Nat->Addr)->(Nat->Tok)->RE α) : (Nat->Addr)->(Nat->Tok)->Option (List (Addr × Addr) × List Ev × List Obj × RE α):=fun ad tk=>some (selfs as ad n ct,evs ad tk,cs' ad tk,e ad tk)
noncomputable def rwR {α : Type} (b : Bool) (as : Params->List Addr) (n ct : Nat) (evs : Params->(Nat->Addr)->(Nat->Tok)->List Ev) (cs' : Params->(Nat->Addr)->(Nat->Tok)->List Obj) (e : Params->(Nat->Addr)->(Nat->Tok)->RE α) : Bool->Params->(Nat->Addr)->(Nat->Tok)->Option (List (Addr × Addr) × List Ev × List Obj × RE α) :=
 fun rc P=>rhsL (as (sg b rc P)) n ct (evs (sg b rc P)) (cs' (sg b rc P)) (e (sg b rc P))
theorem Lf.mk' {α : Type} {P : Params} {T : BT} {as : List Addr} {cs : List Obj} {xs : List Ext} {t : Sem α} {k : Nat} {evs : 'k'->'q'->List Ev} {cs' : 'k'->'q'->List Obj} {e : 'k'->'q'->RE α} (n ct : Nat)
  (h : runL P T as cs n ct xs none (.base t) k = rhsL as n ct evs cs' e) : Lf P T as cs xs t k evs cs' e:=⟨n,ct,fun ad tk=>congrFun (congrFun h ad) tk⟩
noncomputable def rwLf {α : Type} (b : Bool) (T : Params->BT) (as : Params->List Addr) (cs : Params->List Obj) (n ct : Nat) (xs : Params->List Ext) (t : Params->Sem α) (k : Nat) : Bool->Params->(Nat->Addr)->(Nat->Tok)->Option (List (Addr × Addr) × List Ev × List Obj × RE α) :=
 fun rc P=>runL (sg b rc P) (T (sg b rc P)) (as (sg b rc P)) (cs (sg b rc P)) n ct (xs (sg b rc P)) none (.base (t (sg b rc P))) k
theorem Lf.rw2 {α : Type} {T : Params->BT} {as : Params->List Addr} {cs : Params->List Obj} {xs : Params->List Ext} {t : Params->Sem α} {k : Nat} {evs : Params->'k'->'q'->List Ev} {cs' : Params->'k'->'q'->List Obj} {e : Params->'k'->'q'->RE α} (n ct n' ct' : Nat)
  (h : rwLf false T as cs n ct xs t k = rwR false as n ct evs cs' e) (h' : rwLf true T as cs n' ct' xs t k = rwR true as n' ct' evs cs' e) : ∀ P,Lf P (T P) (as P) (cs P) (xs P) (t P) k (evs P) (cs' P) (e P):=by
 intro P
 induction P using Mine.rows with | step rb rc P=>?_
 cases rb
 ·exact .mk' n ct (congrFun (congrFun h rc) P)
 ·exact .mk' n' ct' (congrFun (congrFun h' rc) P)
theorem Lf.rw1 {α : Type} {T : Params->BT} {as : Params->List Addr} {cs : Params->List Obj} {xs : Params->List Ext} {t : Params->Sem α} {k : Nat} {evs : Params->'k'->'q'->List Ev} {cs' : Params->'k'->'q'->List Obj} {e : Params->'k'->'q'->RE α} (n ct : Nat)
  (h : rwLf false T as cs n ct xs t k = rwR false as n ct evs cs' e) (h' : rwLf true T as cs n ct xs t k = rwR true as n ct evs cs' e) : ∀ P,Lf P (T P) (as P) (cs P) (xs P) (t P) k (evs P) (cs' P) (e P):=Lf.rw2 n ct n ct h h'
theorem LfT.mk' {α : Type} {P : Params} {T : BT} {as : List Addr} {cs : List Obj} {xs : List Ext} {t : TT α} {k : Nat} {evs : 'k'->'q'->List Ev} {cs' : 'k'->'q'->List Obj} {e : 'k'->'q'->RE α} (n ct : Nat)
  (h : runL P T as cs n ct xs none t k = rhsL as n ct evs cs' e) : LfT P T as cs xs t k evs cs' e:=⟨n,ct,fun ad tk=>congrFun (congrFun h ad) tk⟩
noncomputable def rwLfT {α : Type} (b : Bool) (T : Params->BT) (as : Params->List Addr) (cs : Params->List Obj) (n ct : Nat) (xs : Params->List Ext) (t : Params->TT α) (k : Nat) : Bool->Params->(Nat->Addr)->(Nat->Tok)->Option (List (Addr × Addr) × List Ev × List Obj × RE α) :=
 fun rc P=>runL (sg b rc P) (T (sg b rc P)) (as (sg b rc P)) (cs (sg b rc P)) n ct (xs (sg b rc P)) none (t (sg b rc P)) k
theorem LfT.rw2 {α : Type} {T : Params->BT} {as : Params->List Addr} {cs : Params->List Obj} {xs : Params->List Ext} {t : Params->TT α} {k : Nat} {evs : Params->'k'->'q'->List Ev} {cs' : Params->'k'->'q'->List Obj} {e : Params->'k'->'q'->RE α} (n ct n' ct' : Nat)
  (h : rwLfT false T as cs n ct xs t k = rwR false as n ct evs cs' e) (h' : rwLfT true T as cs n' ct' xs t k = rwR true as n' ct' evs cs' e) : ∀ P,LfT P (T P) (as P) (cs P) (xs P) (t P) k (evs P) (cs' P) (e P):=by
 intro P
 induction P using Mine.rows with | step rb rc P=>?_
 cases rb
 ·exact .mk' n ct (congrFun (congrFun h rc) P)
 ·exact .mk' n' ct' (congrFun (congrFun h' rc) P)
theorem LfT.rw1 {α : Type} {T : Params->BT} {as : Params->List Addr} {cs : Params->List Obj} {xs : Params->List Ext} {t : Params->TT α} {k : Nat} {evs : Params->'k'->'q'->List Ev} {cs' : Params->'k'->'q'->List Obj} {e : Params->'k'->'q'->RE α} (n ct : Nat)
  (h : rwLfT false T as cs n ct xs t k = rwR false as n ct evs cs' e) (h' : rwLfT true T as cs n ct xs t k = rwR true as n ct evs cs' e) : ∀ P,LfT P (T P) (as P) (cs P) (xs P) (t P) k (evs P) (cs' P) (e P):=LfT.rw2 n ct n ct h h'
theorem tw_execs (b : List Stmt) (env : Env) : execs b env = zEX b env:=by rw [Fast.te12563942051412417395]
theorem tw_isTrue (e : Expr) (env : Env) (x : Sem Value) : isTrue e env x = zIT e env x:=by rw [Fast.te15418851999007992765]
theorem tw_eval (e : Expr) (env : Env) : eval e env = zEV e env:=by rw [Fast.te14044960220447912780]
theorem nodup_map {α β : Type} {f : α->β} : ∀ {l : List α},(∀ x ∈ l,∀ y ∈ l,f x = f y->x = y)->l.Nodup->(l.map f).Nodup
 | [],_,_=>by simp
 | a :: l,h,hn=>by
  rw [List.nodup_cons] at hn
  rw [List.map_cons,List.nodup_cons]
  refine ⟨fun hm=>?_,nodup_map (fun x hx y hy=>h x (.tail _ hx) y (.tail _ hy)) hn.2⟩
  obtain ⟨y,hy,e⟩:=List.mem_map.mp hm
  exact hn.1 (h y (.tail _ hy) a (.head _) e ▸ hy)
noncomputable def getO (l : List Obj) (i : Nat) : Obj:=l.getD i ⟨.none,none,.plain,⟨[]⟩⟩
theorem Rep.pick {h₀ h : Heap} {as : List Addr} {cs : List Obj} (R : Rep h₀ as cs h) (idx : List Nat) (hn : idx.Nodup) (hb : ∀ i ∈ idx,i < as.length) : Rep h₀ (idx.map (as.getD · 0)) (idx.map (getO cs)) h:=by
 have hl:=R.len
 refine ⟨by simp,?_,?_,?_,R.keep⟩
 ·refine nodup_map ?_ hn
  intro i hi j hj e
  have h1:=hb i hi
  have h2:=hb j hj
  simp only [List.getD_eq_getElem?_getD,List.getElem?_eq_getElem h1,List.getElem?_eq_getElem h2,Option.getD_some] at e
  exact (List.getElem_inj R.nd).mp e
 ·intro m a o e1 e2
  rw [List.getElem?_map] at e1 e2
  cases hi : idx[m]? with
  | none=>rw [hi] at e1; cases e1
  | some i =>
   rw [hi] at e1 e2
   simp only [Option.map_some,Option.some.injEq] at e1 e2
   have h1:=hb i (List.mem_of_getElem? hi)
   refine R.cell i a o ?_ ?_
   ·rw [← e1,List.getD_eq_getElem?_getD,List.getElem?_eq_getElem h1]; rfl
   ·rw [← e2,getO,List.getD_eq_getElem?_getD,List.getElem?_eq_getElem (hl ▸ h1)]; rfl
 ·intro a ha
  obtain ⟨i,hi,rfl⟩:=List.mem_map.mp ha
  have h1:=hb i hi
  rw [List.getD_eq_getElem?_getD,List.getElem?_eq_getElem h1]
  exact R.fresh _ (List.getElem_mem _)
end
section
open PySem PySem.W PySem.W.X PyProof.Rows
local macro_rules (kind:=num)
  | `($n:num)=>`(nat_lit $n)
noncomputable def fd46 : FuncData:=fd (st1 3) a228 a228 3 [] .none .none .none (.str a255 286) none (.ref 45) .none 0
noncomputable def env46 (L : Addr) : Env:=⟨fScope (st1 3),L,3,[],a228 ++ ".<locals>.",some 46,.ref 45,some L,0⟩
noncomputable def body46 : List Stmt:=fBody (st1 3)
theorem top46 (P : Params) : (Tf P).get 46 = some o46:=by kernel_rfl!
theorem cr46 (P : Params) : ∀ h,TopIn (Tf P) h->h.CodeRec fd46.code fd46.qualname:=codeRec_top (o:=o45) (by kernel_rfl!) rfl rfl
theorem co46 : fd46.scope.isCoroutine = false:=by kernel_rfl!
theorem ge46 : fd46.scope.isGenerator = false:=by kernel_rfl!
noncomputable def fd60 : FuncData:=fd (st1 6) a230 a230 3 [] .none .none .none (.str a258 296) none (.ref 59) .none 0
noncomputable def env60 (L : Addr) : Env:=⟨fScope (st1 6),L,3,[],a230 ++ ".<locals>.",some 60,.ref 59,some L,0⟩
noncomputable def body60 : List Stmt:=fBody (st1 6)
theorem top60 (P : Params) : (Tf P).get 60 = some o60:=by kernel_rfl!
theorem cr60 (P : Params) : ∀ h,TopIn (Tf P) h->h.CodeRec fd60.code fd60.qualname:=codeRec_top (o:=o59) (by kernel_rfl!) rfl rfl
theorem co60 : fd60.scope.isCoroutine = false:=by kernel_rfl!
theorem ge60 : fd60.scope.isGenerator = false:=by kernel_rfl!
noncomputable def fd87 : FuncData:=fd (st2 8 1) a260 a264 3 [] .none .none .none (.str a258 296) none (.ref 86) .none 0
noncomputable def env87 (L : Addr) : Env:=⟨fScope (st2 8 1),L,3,[],a264 ++ ".<locals>.",some 87,.ref 86,some L,0⟩
noncomputable def body87 : List Stmt:=fBody (st2 8 1)
theorem top87 (P : Params) : (Tf P).get 87 = some o87:=by kernel_rfl!
theorem cr87 (P : Params) : ∀ h,TopIn (Tf P) h->h.CodeRec fd87.code fd87.qualname:=codeRec_top (o:=o86) (by kernel_rfl!) rfl rfl
theorem co87 : fd87.scope.isCoroutine = false:=by kernel_rfl!
theorem ge87 : fd87.scope.isGenerator = false:=by kernel_rfl!
noncomputable def fd364 : FuncData:=fd (st2 12 1) a215 a352 3 [] (.ref 357) .none .none (.str a258 296) none (.ref 363) .none 0
noncomputable def env364 (L : Addr) : Env:=⟨fScope (st2 12 1),L,3,[],a352 ++ ".<locals>.",some 364,.ref 363,some L,0⟩
noncomputable def body364 : List Stmt:=fBody (st2 12 1)
theorem top364 (P : Params) : (Tf P).get 364 = some o364:=by kernel_rfl!
theorem cr364 (P : Params) : ∀ h,TopIn (Tf P) h->h.CodeRec fd364.code fd364.qualname:=codeRec_top (o:=o363) (by kernel_rfl!) rfl rfl
theorem co364 : fd364.scope.isCoroutine = false:=by kernel_rfl!
theorem ge364 : fd364.scope.isGenerator = false:=by kernel_rfl!
noncomputable def fd371 : FuncData:=fd (st2 12 2) a354 a355 3 [] .none .none .none (.str a258 296) none (.ref 370) .none 0
noncomputable def env371 (L : Addr) : Env:=⟨fScope (st2 12 2),L,3,[],a355 ++ ".<locals>.",some 371,.ref 370,some L,0⟩
noncomputable def body371 : List Stmt:=fBody (st2 12 2)
theorem top371 (P : Params) : (Tf P).get 371 = some o371:=by kernel_rfl!
theorem cr371 (P : Params) : ∀ h,TopIn (Tf P) h->h.CodeRec fd371.code fd371.qualname:=codeRec_top (o:=o370) (by kernel_rfl!) rfl rfl
theorem co371 : fd371.scope.isCoroutine = false:=by kernel_rfl!
theorem ge371 : fd371.scope.isGenerator = false:=by kernel_rfl!
noncomputable def fd378 : FuncData:=fd (st2 12 3) a297 a356 3 [] .none .none .none (.str a258 296) none (.ref 377) .none 0
noncomputable def env378 (L : Addr) : Env:=⟨fScope (st2 12 3),L,3,[],a356 ++ ".<locals>.",some 378,.ref 377,some L,0⟩
noncomputable def body378 : List Stmt:=fBody (st2 12 3)
theorem top378 (P : Params) : (Tf P).get 378 = some o378:=by kernel_rfl!
theorem cr378 (P : Params) : ∀ h,TopIn (Tf P) h->h.CodeRec fd378.code fd378.qualname:=codeRec_top (o:=o377) (by kernel_rfl!) rfl rfl
theorem co378 : fd378.scope.isCoroutine = false:=by kernel_rfl!
theorem ge378 : fd378.scope.isGenerator = false:=by kernel_rfl!
noncomputable def fd392 : FuncData:=fd (st2 12 5) a303 a362 3 [] .none .none .none (.str a258 296) none (.ref 391) .none 0
noncomputable def env392 (L : Addr) : Env:=⟨fScope (st2 12 5),L,3,[],a362 ++ ".<locals>.",some 392,.ref 391,some L,0⟩
noncomputable def body392 : List Stmt:=fBody (st2 12 5)
theorem top392 (P : Params) : (Tf P).get 392 = some o392:=by kernel_rfl!
theorem cr392 (P : Params) : ∀ h,TopIn (Tf P) h->h.CodeRec fd392.code fd392.qualname:=codeRec_top (o:=o391) (by kernel_rfl!) rfl rfl
theorem co392 : fd392.scope.isCoroutine = false:=by kernel_rfl!
theorem ge392 : fd392.scope.isGenerator = false:=by kernel_rfl!
noncomputable def fd540 : FuncData:=fd (st2 12 25) a284 a382 3 [] (.ref 533) .none .none (.str a258 296) none (.ref 539) .none 0
noncomputable def env540 (L : Addr) : Env:=⟨fScope (st2 12 25),L,3,[],a382 ++ ".<locals>.",some 540,.ref 539,some L,0⟩
noncomputable def body540 : List Stmt:=fBody (st2 12 25)
theorem top540 (P : Params) : (Tf P).get 540 = some o540:=by kernel_rfl!
theorem cr540 (P : Params) : ∀ h,TopIn (Tf P) h->h.CodeRec fd540.code fd540.qualname:=codeRec_top (o:=o539) (by kernel_rfl!) rfl rfl
theorem co540 : fd540.scope.isCoroutine = false:=by kernel_rfl!
theorem ge540 : fd540.scope.isGenerator = false:=by kernel_rfl!
noncomputable def fd548 : FuncData:=fd (st2 12 26) a288 a383 3 [] (.ref 541) .none .none (.str a258 296) none (.ref 547) .none 0
noncomputable def env548 (L : Addr) : Env:=⟨fScope (st2 12 26),L,3,[],a383 ++ ".<locals>.",some 548,.ref 547,some L,0⟩
noncomputable def body548 : List Stmt:=fBody (st2 12 26)
theorem top548 (P : Params) : (Tf P).get 548 = some o548:=by kernel_rfl!
theorem cr548 (P : Params) : ∀ h,TopIn (Tf P) h->h.CodeRec fd548.code fd548.qualname:=codeRec_top (o:=o547) (by kernel_rfl!) rfl rfl
theorem co548 : fd548.scope.isCoroutine = false:=by kernel_rfl!
theorem ge548 : fd548.scope.isGenerator = false:=by kernel_rfl!
noncomputable def fd653 : FuncData:=fd (st2 21 0) a215 a415 3 [] (.ref 646) .none .none (.str a403 1011) none (.ref 652) .none 0
noncomputable def env653 (L : Addr) : Env:=⟨fScope (st2 21 0),L,3,[],a415 ++ ".<locals>.",some 653,.ref 652,some L,0⟩
noncomputable def body653 : List Stmt:=fBody (st2 21 0)
theorem top653 (P : Params) : (Tf P).get 653 = some o653:=by kernel_rfl!
theorem cr653 (P : Params) : ∀ h,TopIn (Tf P) h->h.CodeRec fd653.code fd653.qualname:=codeRec_top (o:=o652) (by kernel_rfl!) rfl rfl
theorem co653 : fd653.scope.isCoroutine = false:=by kernel_rfl!
theorem ge653 : fd653.scope.isGenerator = false:=by kernel_rfl!
noncomputable def fd660 : FuncData:=fd (st2 21 1) a404 a416 3 [] .none .none .none (.str a403 1011) none (.ref 659) .none 0
noncomputable def env660 (L : Addr) : Env:=⟨fScope (st2 21 1),L,3,[],a416 ++ ".<locals>.",some 660,.ref 659,some L,0⟩
noncomputable def body660 : List Stmt:=fBody (st2 21 1)
theorem top660 (P : Params) : (Tf P).get 660 = some o660:=by kernel_rfl!
theorem cr660 (P : Params) : ∀ h,TopIn (Tf P) h->h.CodeRec fd660.code fd660.qualname:=codeRec_top (o:=o659) (by kernel_rfl!) rfl rfl
theorem co660 : fd660.scope.isCoroutine = false:=by kernel_rfl!
theorem ge660 : fd660.scope.isGenerator = false:=by kernel_rfl!
noncomputable def fd690 : FuncData:=fd (st2 21 5) a408 a425 3 [] .none .none .none (.str a403 1011) none (.ref 689) .none 0
noncomputable def env690 (L : Addr) : Env:=⟨fScope (st2 21 5),L,3,[],a425 ++ ".<locals>.",some 690,.ref 689,some L,0⟩
noncomputable def body690 : List Stmt:=fBody (st2 21 5)
theorem top690 (P : Params) : (Tf P).get 690 = some o690:=by kernel_rfl!
theorem cr690 (P : Params) : ∀ h,TopIn (Tf P) h->h.CodeRec fd690.code fd690.qualname:=codeRec_top (o:=o689) (by kernel_rfl!) rfl rfl
theorem co690 : fd690.scope.isCoroutine = false:=by kernel_rfl!
theorem ge690 : fd690.scope.isGenerator = false:=by kernel_rfl!
noncomputable def fd697 : FuncData:=fd (st2 21 6) a409 a430 3 [] .none .none .none (.str a403 1011) none (.ref 696) .none 0
noncomputable def env697 (L : Addr) : Env:=⟨fScope (st2 21 6),L,3,[],a430 ++ ".<locals>.",some 697,.ref 696,some L,0⟩
noncomputable def body697 : List Stmt:=fBody (st2 21 6)
theorem top697 (P : Params) : (Tf P).get 697 = some o697:=by kernel_rfl!
theorem cr697 (P : Params) : ∀ h,TopIn (Tf P) h->h.CodeRec fd697.code fd697.qualname:=codeRec_top (o:=o696) (by kernel_rfl!) rfl rfl
theorem co697 : fd697.scope.isCoroutine = false:=by kernel_rfl!
theorem ge697 : fd697.scope.isGenerator = false:=by kernel_rfl!
noncomputable def fd719 : FuncData:=fd (st2 21 9) a290 a434 3 [] .none .none .none (.str a403 1011) none (.ref 718) .none 0
noncomputable def env719 (L : Addr) : Env:=⟨fScope (st2 21 9),L,3,[],a434 ++ ".<locals>.",some 719,.ref 718,some L,0⟩
noncomputable def body719 : List Stmt:=fBody (st2 21 9)
theorem top719 (P : Params) : (Tf P).get 719 = some o719:=by kernel_rfl!
theorem cr719 (P : Params) : ∀ h,TopIn (Tf P) h->h.CodeRec fd719.code fd719.qualname:=codeRec_top (o:=o718) (by kernel_rfl!) rfl rfl
theorem co719 : fd719.scope.isCoroutine = false:=by kernel_rfl!
theorem ge719 : fd719.scope.isGenerator = false:=by kernel_rfl!
noncomputable def fd726 : FuncData:=fd (st2 21 10) a291 a436 3 [] .none .none .none (.str a403 1011) none (.ref 725) .none 0
noncomputable def env726 (L : Addr) : Env:=⟨fScope (st2 21 10),L,3,[],a436 ++ ".<locals>.",some 726,.ref 725,some L,0⟩
noncomputable def body726 : List Stmt:=fBody (st2 21 10)
theorem top726 (P : Params) : (Tf P).get 726 = some o726:=by kernel_rfl!
theorem cr726 (P : Params) : ∀ h,TopIn (Tf P) h->h.CodeRec fd726.code fd726.qualname:=codeRec_top (o:=o725) (by kernel_rfl!) rfl rfl
theorem co726 : fd726.scope.isCoroutine = false:=by kernel_rfl!
theorem ge726 : fd726.scope.isGenerator = false:=by kernel_rfl!
noncomputable def fd741 : FuncData:=fd (st1 22) a244 a244 3 [] (.ref 734) .none .none (.str a403 1011) none (.ref 740) .none 0
noncomputable def env741 (L : Addr) : Env:=⟨fScope (st1 22),L,3,[],a244 ++ ".<locals>.",some 741,.ref 740,some L,0⟩
noncomputable def body741 : List Stmt:=fBody (st1 22)
theorem top741 (P : Params) : (Tf P).get 741 = some o741:=by kernel_rfl!
theorem cr741 (P : Params) : ∀ h,TopIn (Tf P) h->h.CodeRec fd741.code fd741.qualname:=codeRec_top (o:=o740) (by kernel_rfl!) rfl rfl
theorem co741 : fd741.scope.isCoroutine = false:=by kernel_rfl!
theorem ge741 : fd741.scope.isGenerator = false:=by kernel_rfl!
noncomputable def fd748 : FuncData:=fd (st1 24) a245 a245 3 [] .none .none .none (.str a226 1162) none (.ref 747) .none 0
noncomputable def env748 (L : Addr) : Env:=⟨fScope (st1 24),L,3,[],a245 ++ ".<locals>.",some 748,.ref 747,some L,0⟩
noncomputable def body748 : List Stmt:=fBody (st1 24)
theorem top748 (P : Params) : (Tf P).get 748 = some o748:=by kernel_rfl!
theorem cr748 (P : Params) : ∀ h,TopIn (Tf P) h->h.CodeRec fd748.code fd748.qualname:=codeRec_top (o:=o747) (by kernel_rfl!) rfl rfl
theorem co748 : fd748.scope.isCoroutine = false:=by kernel_rfl!
theorem ge748 : fd748.scope.isGenerator = false:=by kernel_rfl!
noncomputable def fd755 : FuncData:=fd (st1 25) a246 a246 3 [] .none .none .none (.str a226 1162) none (.ref 754) .none 0
noncomputable def env755 (L : Addr) : Env:=⟨fScope (st1 25),L,3,[],a246 ++ ".<locals>.",some 755,.ref 754,some L,0⟩
noncomputable def body755 : List Stmt:=fBody (st1 25)
theorem top755 (P : Params) : (Tf P).get 755 = some o755:=by kernel_rfl!
theorem cr755 (P : Params) : ∀ h,TopIn (Tf P) h->h.CodeRec fd755.code fd755.qualname:=codeRec_top (o:=o754) (by kernel_rfl!) rfl rfl
theorem co755 : fd755.scope.isCoroutine = false:=by kernel_rfl!
theorem ge755 : fd755.scope.isGenerator = false:=by kernel_rfl!
noncomputable def fd762 : FuncData:=fd (st1 26) a247 a247 3 [] .none .none .none (.str a226 1162) none (.ref 761) .none 0
noncomputable def env762 (L : Addr) : Env:=⟨fScope (st1 26),L,3,[],a247 ++ ".<locals>.",some 762,.ref 761,some L,0⟩
noncomputable def body762 : List Stmt:=fBody (st1 26)
theorem top762 (P : Params) : (Tf P).get 762 = some o762:=by kernel_rfl!
theorem cr762 (P : Params) : ∀ h,TopIn (Tf P) h->h.CodeRec fd762.code fd762.qualname:=codeRec_top (o:=o761) (by kernel_rfl!) rfl rfl
theorem co762 : fd762.scope.isCoroutine = false:=by kernel_rfl!
theorem ge762 : fd762.scope.isGenerator = false:=by kernel_rfl!
noncomputable def fd769 : FuncData:=fd (st1 27) a248 a248 3 [] .none .none .none (.str a226 1162) none (.ref 768) .none 0
noncomputable def env769 (L : Addr) : Env:=⟨fScope (st1 27),L,3,[],a248 ++ ".<locals>.",some 769,.ref 768,some L,0⟩
noncomputable def body769 : List Stmt:=fBody (st1 27)
theorem top769 (P : Params) : (Tf P).get 769 = some o769:=by kernel_rfl!
theorem cr769 (P : Params) : ∀ h,TopIn (Tf P) h->h.CodeRec fd769.code fd769.qualname:=codeRec_top (o:=o768) (by kernel_rfl!) rfl rfl
theorem co769 : fd769.scope.isCoroutine = false:=by kernel_rfl!
theorem ge769 : fd769.scope.isGenerator = false:=by kernel_rfl!
noncomputable def fd776 : FuncData:=fd (st1 28) a249 a249 3 [] .none .none .none (.str a226 1162) none (.ref 775) .none 0
noncomputable def env776 (L : Addr) : Env:=⟨fScope (st1 28),L,3,[],a249 ++ ".<locals>.",some 776,.ref 775,some L,0⟩
noncomputable def body776 : List Stmt:=fBody (st1 28)
theorem top776 (P : Params) : (Tf P).get 776 = some o776:=by kernel_rfl!
theorem cr776 (P : Params) : ∀ h,TopIn (Tf P) h->h.CodeRec fd776.code fd776.qualname:=codeRec_top (o:=o775) (by kernel_rfl!) rfl rfl
theorem co776 : fd776.scope.isCoroutine = false:=by kernel_rfl!
theorem ge776 : fd776.scope.isGenerator = false:=by kernel_rfl!
noncomputable def fd783 : FuncData:=fd (st1 29) a250 a250 3 [] .none .none .none (.str a226 1162) none (.ref 782) .none 0
noncomputable def env783 (L : Addr) : Env:=⟨fScope (st1 29),L,3,[],a250 ++ ".<locals>.",some 783,.ref 782,some L,0⟩
noncomputable def body783 : List Stmt:=fBody (st1 29)
theorem top783 (P : Params) : (Tf P).get 783 = some o783:=by kernel_rfl!
theorem cr783 (P : Params) : ∀ h,TopIn (Tf P) h->h.CodeRec fd783.code fd783.qualname:=codeRec_top (o:=o782) (by kernel_rfl!) rfl rfl
theorem co783 : fd783.scope.isCoroutine = false:=by kernel_rfl!
theorem ge783 : fd783.scope.isGenerator = false:=by kernel_rfl!
noncomputable def fd788 : FuncData:=fd (st1 30) a251 a251 3 [] .none .none .none (.str a226 1162) none (.ref 787) .none 0
noncomputable def env788 (L : Addr) : Env:=⟨fScope (st1 30),L,3,[],a251 ++ ".<locals>.",some 788,.ref 787,some L,0⟩
noncomputable def body788 : List Stmt:=fBody (st1 30)
theorem top788 (P : Params) : (Tf P).get 788 = some o788:=by kernel_rfl!
theorem cr788 (P : Params) : ∀ h,TopIn (Tf P) h->h.CodeRec fd788.code fd788.qualname:=codeRec_top (o:=o787) (by kernel_rfl!) rfl rfl
theorem co788 : fd788.scope.isCoroutine = false:=by kernel_rfl!
theorem ge788 : fd788.scope.isGenerator = false:=by kernel_rfl!
end
section
open PySem PySem.W PySem.W.X PyProof.Rows
noncomputable def sBody : Stmt->List Stmt
 | .While _ b _ _=>b
 | .If _ b _ _=>b
 | .For _ _ b _ _=>b
 | _=>[]
noncomputable def sElse : Stmt->List Stmt
 | .While _ _ b _=>b
 | .If _ _ b _=>b
 | _=>[]
noncomputable def sTest : Stmt->Expr
 | .While t _ _ _=>t
 | .If t _ _ _=>t
 | _=>.Constant .none 0 default
noncomputable def sNth (l : List Stmt) (i : Nat) : Stmt:=l.getD i (.Pass default)
noncomputable def xP (r : (Nat->Tok)->Value) : Ext:=⟨0,fun _ f=>.ok (.ret (r f)),fun _ _ l=>l,fun _ _=>[],true⟩
noncomputable def xC (r : (Nat->Tok)->Value) : Ext:=⟨0,fun _ f=>.ok (.ret (r f)),fun _ _ l=>l,fun _ _=>[],false⟩
noncomputable def xF : Ext:=xP fun _=>.bool false
noncomputable def xT : Ext:=xP fun _=>.bool true
noncomputable def frm (es : List DictEntry) (n : Nat) : Obj:=⟨.type SL.s658472552662922059x5,none,.dict ⟨es⟩ n,⟨[]⟩⟩
noncomputable def dct (es : List DictEntry) (n : Nat) : Obj:=⟨.type SL.s14018661285674007319x4,none,.dict ⟨es⟩ n,⟨[]⟩⟩
noncomputable def lst (vs : List Value) (n : Nat) : Obj:=⟨.type SL.s9222952809800978799x4,none,.seq ⟨vs⟩ n,⟨[]⟩⟩
section
variable (vs : List Value)
noncomputable def tup : Obj:=⟨.type SL.s2766695959194262286x5,none,.seq ⟨vs⟩ 0,⟨[]⟩⟩
structure LX where
 st : Value
 tok : Str
 tokT : Tok
 ln : Int
 lnT : Tok
 pos : Int
 posT : Tok
 buf : Str
 bufT : Tok
 wc : Str
structure AD where
 lx : Addr
 ld : Addr
 si : Addr
 sd : Addr
 d1 : Addr
 d2 : Addr
 d3 : Addr
noncomputable def lxO (a : AD) : Obj:=⟨.ref 729,some a.ld,.plain,⟨[]⟩⟩
noncomputable def siO (a : AD) : Obj:=⟨.ref 594,some a.sd,.plain,⟨[]⟩⟩
noncomputable def lxDict (P : Params) (u : Nat->Tok) (a : AD) (k : Bool) (x : LX) : Obj:=⟨.type SL.s14018661285674007319x4,none,.dict ⟨[
 en P a412 (u 10) (.ref a.si),en P a413 (u 11) .none,en P a414 (u 12) (.bool true),en P a441 (u 13) .none,
 en P a439 (u 14) (.str ⟨⟨[nat_lit 35]⟩⟩ (u 15)),en P a451 (u 16) (.str x.wc (u 17)),en P a449 (u 18) (.str ⟨⟨[nat_lit 32,nat_lit 9,nat_lit 13,nat_lit 10]⟩⟩ (u 19)),
 en P a450 (u 20) (.bool (!k)),en P a446 (u 21) (.str ⟨⟨[nat_lit 39,nat_lit 34]⟩⟩ (u 22)),en P a442 (u 23) (.str ⟨⟨[nat_lit 92]⟩⟩ (u 24)),
 en P a443 (u 25) (.str ⟨⟨[nat_lit 34]⟩⟩ (u 26)),en P a448 (u 27) x.st,en P a445 (u 28) (.ref a.d1),en P a432 (u 29) (.int x.ln x.lnT),
 en P a440 (u 30) (.int 0 (u 31)),en P a435 (u 32) (.str x.tok x.tokT),en P a444 (u 33) (.ref a.d2),en P a447 (u 34) .none,
 en P a437 (u 35) (.str (match k with | true=>⟨⟨[nat_lit 40,nat_lit 41,nat_lit 59,nat_lit 60,nat_lit 62,nat_lit 124,nat_lit 38]⟩⟩ | false=>⟨⟨[]⟩⟩) (u 36))] ++ (match k with | true=>[en P a438 (u 37) (.ref a.d3)] | false=>[])⟩ (match k with | true=>20 | false=>19),⟨[]⟩⟩
noncomputable def siDict (P : Params) (u : Nat->Tok) (x : LX) : Obj:=⟨.type SL.s14018661285674007319x4,none,.dict ⟨[
 en P ⟨⟨[nat_lit 95,nat_lit 83,nat_lit 116,nat_lit 114,nat_lit 105,nat_lit 110,nat_lit 103,nat_lit 73,nat_lit 79,nat_lit 95,nat_lit 95,nat_lit 110,nat_lit 101,nat_lit 119,nat_lit 108,nat_lit 105,nat_lit 110,nat_lit 101]⟩⟩ (u 40) (.str ⟨⟨[nat_lit 10]⟩⟩ (u 41)),en P ⟨⟨[nat_lit 95,nat_lit 83,nat_lit 116,nat_lit 114,nat_lit 105,nat_lit 110,nat_lit 103,nat_lit 73,nat_lit 79,nat_lit 95,nat_lit 95,nat_lit 98,nat_lit 117,nat_lit 102]⟩⟩ (u 42) (.str x.buf x.bufT),en P ⟨⟨[nat_lit 95,nat_lit 83,nat_lit 116,nat_lit 114,nat_lit 105,nat_lit 110,nat_lit 103,nat_lit 73,nat_lit 79,nat_lit 95,nat_lit 95,nat_lit 112,nat_lit 111,nat_lit 115]⟩⟩ (u 43) (.int x.pos x.posT)]⟩ 3,⟨[]⟩⟩
noncomputable def dqO (n : Int) (l : List Value) : Obj:=⟨.type SL.s5314052453082223887x17,none,.fields ⟨.none :: .int n 0 :: l⟩,⟨[]⟩⟩
end
variable {w : World} {D U : Nat}
section
variable (P : Params) (t v : Tok) (ws : Str) (tk : Nat->Tok) (L : Addr) (k : Nat->Tok)
theorem ix1_b : Lf P (Tf P) [] [] [] (zBA fd60 ⟨[.int 1 t,.str ws v],[]⟩) 0 zve (fun ad tk=>[]) (fun ad tk=>(.val [(a256,(zI 1 t)),(a257,(.str ws v))])):=.mk' 3 0 (by kernel_rfl)
theorem ix1_e : Lf P (Tf P) [] [] [] (zNE fd60 60 [(a256,(zI 1 t)),(a257,(.str ws v))]) 1 zve (fun ad tk=>[(zD zt98 [en P a256 (tk 0) (zI 1 t),zE P a257 (tk 1) ws v] 2)]) (fun ad tk=>(.val (env60 (ad 0)))):=.mk' 12 16843009 (by kernel_rfl)
noncomputable def ix1_fr : Obj:=(zD zt98 [en P a256 (tk 0) (zI 1 t),zE P a257 (tk 1) ws v] 2)
theorem ix1_call (t : Tok) (v : Tok) (ws : Str) : CallT w [] [] (ix1_fr w.params t v ws) env60 body60 60 ⟨[.int 1 t,.str ws v],[]⟩:=callT _ _ (top60 w.params) rfl rfl co60 ge60 rfl (cr60 w.params) (ix1_b w.params t v ws) (ix1_e w.params t v ws)
theorem ix1_w : Lf P (Tf P) [L] [ix1_fr P t v ws k] [] (zEX body60 (env60 L)) 0 zve (fun ad tk=>[(ix1_fr P t v ws k)]) (fun ad tk=>(.val (.ret (zI 1 t)))):=by revert P; refine Lf.rw1 68 (zd 999 0x41210101616121) ?_ ?_ <;> kernel_rfl
theorem ix1_con (t : Tok) (v : Tok) (ws : Str) (hD : D < recursionLimit) : Con w 'c' [] (.call (.ref 60) ⟨[.int 1 t,.str ws v],[]⟩) [] (xP fun f=>.int 1 t) D U:=by
 intro A h₀ s h1 h2 hh X R
 refine ix1_call t v ws (Nat.lt_of_le_of_lt h1 hD) hh X R ?_
 intro L k s1 R1 S1
 rw [tw_execs]
 refine (ix1_w w.params t v ws L k).sound X R1 hh (fun _ _=>rfl) (fun _ _ y hy=>by cases hy) ?_
 intro ad tk s2 R2 S2
 exact ⟨ad,tk,rfl,R2.pick [] (by decide) (by simp),S1.trans S2⟩
noncomputable abbrev y71 (p0 : Tok) : Value:=.int (.negSucc 0) p0
theorem ixm_b : Lf P (Tf P) [] [] [] (zBA fd60 ⟨[.int (-1) t,.str ws v],[]⟩) 0 zve (fun ad tk=>[]) (fun ad tk=>(.val [(a256,(y71 t)),(a257,(.str ws v))])):=.mk' 3 0 (by kernel_rfl)
theorem ixm_e : Lf P (Tf P) [] [] [] (zNE fd60 60 [(a256,(y71 t)),(a257,(.str ws v))]) 1 zve (fun ad tk=>[(zD zt98 [en P a256 (tk 0) (y71 t),zE P a257 (tk 1) ws v] 2)]) (fun ad tk=>(.val (env60 (ad 0)))):=.mk' 12 16843009 (by kernel_rfl)
noncomputable def ixm_fr : Obj:=(zD zt98 [en P a256 (tk 0) (y71 t),zE P a257 (tk 1) ws v] 2)
theorem ixm_call (t : Tok) (v : Tok) (ws : Str) : CallT w [] [] (ixm_fr w.params t v ws) env60 body60 60 ⟨[.int (-1) t,.str ws v],[]⟩:=callT _ _ (top60 w.params) rfl rfl co60 ge60 rfl (cr60 w.params) (ixm_b w.params t v ws) (ixm_e w.params t v ws)
theorem ixm_w : Lf P (Tf P) [L] [ixm_fr P t v ws k] [] (zEX body60 (env60 L)) 0 zve (fun ad tk=>[(ixm_fr P t v ws k)]) (fun ad tk=>(.val (.ret (y71 t)))):=by revert P; refine Lf.rw1 68 (zd 999 0x41210101616121) ?_ ?_ <;> kernel_rfl
theorem ixm_con (t : Tok) (v : Tok) (ws : Str) (hD : D < recursionLimit) : Con w 'c' [] (.call (.ref 60) ⟨[.int (-1) t,.str ws v],[]⟩) [] (xP fun f=>.int (-1) t) D U:=by
 intro A h₀ s h1 h2 hh X R
 refine ixm_call t v ws (Nat.lt_of_le_of_lt h1 hD) hh X R ?_
 intro L k s1 R1 S1
 rw [tw_execs]
 refine (ixm_w w.params t v ws L k).sound X R1 hh (fun _ _=>rfl) (fun _ _ y hy=>by cases hy) ?_
 intro ad tk s2 R2 S2
 exact ⟨ad,tk,rfl,R2.pick [] (by decide) (by simp),S1.trans S2⟩
end
end
section
open PySem PySem.W PySem.W.X PyProof.Rows PySem.Builtin PySem.Builtin.Str PySem.Builtin.Int
variable {w : World} {h₀ : Heap} {s : Shared} {as : List Addr} {cs : List Obj} {D U : Nat} {T : BT}
theorem Con.any {c : Code} {r : 'q'->Value} (C : Con w T [] c [] (xP r) D U) : Con w T as c cs (xP r) D U:=by
 intro A h₀ s hD hU hh X R
 have q:=Con.frame (l₁:=as) (l₂:=[]) (c₁:=cs) (c₂:=[]) (y:=xP r) C R.len rfl rfl rfl rfl (fun _ _=>rfl) (fun _ _=>rfl)
 simp only [List.append_nil] at q
 exact q A h₀ s hD hU hh X R
theorem Con.left {as l₂ : List Addr} {cs c₂ : List Obj} {c : Code} {r : 'q'->Value} (C : Con w T as c cs (xC r) D U) (hl : l₂.length = c₂.length) : Con w T (as ++ l₂) c (cs ++ c₂) (xC r) D U :=
 Con.frame (l₁:=[]) (c₁:=[]) (y:=xC r) C rfl hl rfl rfl rfl (fun _ _=>rfl) (fun _ _=>rfl)
theorem Con.cells {c : Code} {r : 'q'->Value} (C : Con w T as c cs (xP r) D U) : Con w T as c cs (xC r) D U:=C
theorem all_nil {α : Type} {p : α->Prop} : ∀ y ∈ ([] : List α),p y:=fun _ h=>by cases h
theorem all_cons {α : Type} {p : α->Prop} {a : α} {l : List α} (h : p a) (k : ∀ y ∈ l,p y) : ∀ y ∈ a :: l,p y:=fun y hy=>by
 rcases List.mem_cons.mp hy with rfl | hy
 ·exact h
 ·exact k y hy
theorem told_at {r : 'q'->Value} {k : Nat} (t : Tok) (v : Value) (hv : v = r (cut8 fun _=>t)) (R : Rep h₀ as cs s.heap) : Told h₀ as cs (xP r) s (.ok (.ret v)) { s with toks:=k } :=
 ⟨fun _=>0,fun _=>t,by rw [hv]; rfl,by simpa [xP] using R,⟨rfl,rfl,rfl⟩⟩
theorem told_now {r : 'q'->Value} (t : Tok) (v : Value) (hv : v = r (cut8 fun _=>t)) (R : Rep h₀ as cs s.heap) : Told h₀ as cs (xP r) s (.ok (.ret v)) s :=
 ⟨fun _=>0,fun _=>t,by rw [hv]; rfl,by simpa [xP] using R,⟨rfl,rfl,rfl⟩⟩
theorem con_gives {Ty : String} {name : Str} {id : String} {B : Builtin} {self : Value} {rest : List Value} {m : Made} {x : Ext} (slot : Slot Ty name id) (hT : ∀ s : Shared,s.TypeIs self Ty) (entry : entryFor table id = some B)
  (args : argsOk id ⟨self :: rest,[]⟩) (g : Gives (B ⟨self :: rest,[]⟩) m) (hm : ∀ h₀ (s : Shared),Rep h₀ as cs s.heap->m.post (fun v s'=>Told h₀ as cs x s (.ok (.ret v)) s') s) : Con w T as (.call (.builtin id) ⟨self :: rest,[]⟩) cs x D U:=by
 intro A h₀ s hD hU hh X R
 exact codeAny_call_builtin slot.plain entry (slot.check _ _ _ _ _ _ _ _ (hT s) args (g pw w A _ s (hm h₀ s R)))
theorem str_nil_append (x y : Str) (h : (x.length == 0) = true) : x ++ y = y:=by
 obtain ⟨⟨x⟩⟩:=x
 obtain ⟨⟨y⟩⟩:=y
 have : x = []:=by
  cases x with
  | nil=>rfl
  | cons a l=>simp [Str.length] at h
 subst this
 show (⟨_⟩ : Str) = _
 simp
theorem str_append_nil (x y : Str) (h : (y.length == 0) = true) : x ++ y = x:=by
 obtain ⟨⟨x⟩⟩:=x
 obtain ⟨⟨y⟩⟩:=y
 have : y = []:=by
  cases y with
  | nil=>rfl
  | cons a l=>simp [Str.length] at h
 subst this
 show (⟨_⟩ : Str) = _
 simp
theorem con_add {x y : Str} {t u : Tok} (h : (x ++ y).length ≤ sizeLine) :
  Con w T as (.call (.builtin "str.__add__") ⟨[.str x t,.str y u],[]⟩) cs (xP fun f=>.str (x ++ y) (f 0)) D U:=by
 refine con_gives F.slot_str_add (fun s=>typeIs_str s x t) F.entry_str_add (F.args_str_add_2 _ _) (gives_str_add x y t u) ?_
 intro h₀ s R
 split
 ·rename_i h1
  exact told_now u _ (by rw [str_nil_append x y h1]; rfl) R
 ·split
  ·rename_i h2
   exact told_now t _ (by rw [str_append_nil x y h2]; rfl) R
  ·exact ⟨h,told_at s.toks _ rfl R⟩
theorem con_eq {x y : Str} {t u : Tok} (b : Bool) (h : (x.cps.toList == y.cps.toList) = b) :
  Con w T as (.call (.builtin "str.__eq__") ⟨[.str x t,.str y u],[]⟩) cs (xP fun _=>.bool b) D U:=by
 refine con_gives F.slot_str_eq (fun s=>typeIs_str s x t) F.entry_str_eq (F.args_str_eq_2 _ _) (gives_str_eq x y t u) ?_
 intro h₀ s R
 exact told_now 0 _ (by rw [h]) R
theorem con_ne {x y : Str} {t u : Tok} (b : Bool) (h : (x.cps.toList != y.cps.toList) = b) :
  Con w T as (.call (.builtin "str.__ne__") ⟨[.str x t,.str y u],[]⟩) cs (xP fun _=>.bool b) D U:=by
 refine con_gives F.slot_str_ne (fun s=>typeIs_str s x t) F.entry_str_ne (F.args_str_ne_2 _ _) (gives_str_ne x y t u) ?_
 intro h₀ s R
 exact told_now 0 _ (by rw [h]) R
theorem con_in {x y : Str} {t u : Tok} (b : Bool) (h : (!(occurrences x y 0 x.length 1).isEmpty) = b) :
  Con w T as (.call (.builtin "str.__contains__") ⟨[.str x t,.str y u],[]⟩) cs (xP fun _=>.bool b) D U:=by
 refine con_gives F.slot_str_contains (fun s=>typeIs_str s x t) F.entry_str_contains (F.args_str_contains_2 _ _) (gives_str_contains x y t u) ?_
 intro h₀ s R
 exact told_now 0 _ (by rw [h]) R
theorem con_ige {x y : Int} {t u : Tok} (b : Bool) (h : decide (x ≥ y) = b) :
  Con w T as (.call (.builtin "int.__ge__") ⟨[.int x t,.int y u],[]⟩) cs (xP fun _=>.bool b) D U:=by
 refine con_gives F.slot_int_ge (fun s=>typeIs_int s x t) F.entry_int_ge (F.args_int_ge_2 _ _) (gives_int_ge x y t u) ?_
 intro h₀ s R
 exact told_now 0 _ (by rw [h]) R
theorem con_ilt {x y : Int} {t u : Tok} (b : Bool) (h : decide (x < y) = b) :
  Con w T as (.call (.builtin "int.__lt__") ⟨[.int x t,.int y u],[]⟩) cs (xP fun _=>.bool b) D U:=by
 refine con_gives F.slot_int_lt (fun s=>typeIs_int s x t) F.entry_int_lt (F.args_int_lt_2 _ _) (gives_int_lt x y t u) ?_
 intro h₀ s R
 exact told_now 0 _ (by rw [h]) R
theorem con_igt {x y : Int} {t u : Tok} (b : Bool) (h : decide (x > y) = b) :
  Con w T as (.call (.builtin "int.__gt__") ⟨[.int x t,.int y u],[]⟩) cs (xP fun _=>.bool b) D U:=by
 refine con_gives F.slot_int_gt (fun s=>typeIs_int s x t) F.entry_int_gt (F.args_int_gt_2 _ _) (gives_int_gt x y t u) ?_
 intro h₀ s R
 exact told_now 0 _ (by rw [h]) R
theorem con_len {x : Str} {t : Tok} (h : x.length ≤ sizeLine) :
  Con w T as (.call (.builtin "len") ⟨[.str x t],[]⟩) cs (xP fun f=>.int x.length (f 0)) D U:=by
 intro A h₀ s hD hU hh X R
 refine codeAny_call_builtin plain_len entry_len ?_
 rw [show checkBuiltinCall "len" ⟨[.str x t],[]⟩ = pure () from by kernel_rfl!]
 refine wpAny_pure ?_
 unfold Builtin.«len»
 refine wpAny_bind (m:=oneArg "len" _) (wpAny_pure ?_)
 refine wpAny_bind (m:=callSpecial? (.str x t) (Str.ofString "__len__")) (wpAny_callSpecial?_slot (name:=Str.ofString "__len__") (typeIs_str s x t) F.slot_str_len (call_gives F.slot_str_len (typeIs_str s x t) F.entry_str_len (F.args_str_len_1 _) (gives_str_len x t) ?_))
 show wpAny _ _ _ _ _ { s with toks:=s.toks + 1 }
 refine wpAny_bind (wpAny_holding (wpAny_pure ?_))
 refine wpAny_bind (wpAny_letGo ?_)
 have hs : sizeLine < 2 ^ 63:=by decide +kernel
 show wpAny _ _ (if (x.length : Int) < 0 then _ else _) _ _ _
 rw [if_neg (by omega)]
 show wpAny _ _ (if (x.length : Int) ≥ 2 ^ 63 then _ else _) _ _ _
 rw [if_neg (by omega)]
 exact wpAny_bind (wpAny_mkInt (wpAny_pure (told_at _ _ rfl R)))
theorem con_slice {x : Str} {t : Tok} {z : Addr} {m : Nat} {l u : Int} {lt ut : Tok} (hz : as[m]? = some z) (hc : cs[m]? = some ⟨.type "slice",none,.fields ⟨[.int l lt,.int u ut,.none]⟩,⟨[]⟩⟩)
  (y : Str) (hy : ((slicePicked x (some (l,lt)) (some (u,ut)) none).filterMap (x.cps[·]?)) = y.cps.toList) (hw : (slicePicked x (some (l,lt)) (some (u,ut)) none).length = x.length->x = y) (hs : y.length ≤ sizeLine) :
  Con w T as (.call (.builtin "str.__getitem__") ⟨[.str x t,.ref z],[]⟩) cs (xP fun f=>.str y (f 0)) D U:=by
 intro A h₀ s hD hU hh X R
 refine codeAny_call_builtin F.slot_str_getitem.plain F.entry_str_getitem (F.slot_str_getitem.check _ _ _ _ _ _ _ _ (typeIs_str s x t) (F.args_str_getitem_2 _ _) (meets_str_getitem_slice x t z (some (l,lt)) (some (u,ut)) none rfl pw w A _ s ⟨⟨_,R.cell m z _ hz hc,rfl,rfl⟩,?_⟩))
 unfold sliceMade
 split
 ·rename_i h1
  simp only [Option.map_none,Option.getD_none,Bool.and_eq_true,beq_iff_eq] at h1
  have:=hw h1.2
  exact told_now t _ (by rw [this]; rfl) R
 ·have e : (⟨((slicePicked x (some (l,lt)) (some (u,ut)) none).filterMap (x.cps[·]?)).toArray⟩ : Str) = y:=by rw [hy]
  rw [e]
  exact ⟨hs,told_at s.toks _ rfl R⟩
end
section
open PySem PySem.W PySem.W.X PyProof.Rows
variable {w : World} {D U : Nat}
section
variable (P : Params) (u : Nat->Tok) (a : AD) (x : LX) (t : Tok) (L : Addr) (k : Nat->Tok) (n : Int) (y : Str)
theorem chk_b : Lf P (Tf P) [a.si,a.sd] [siO a,siDict P u x] [] (zBA fd378 ⟨[.ref a.si],[]⟩) 0 zve (fun ad tk=>[(siO a),'i']) (fun ad tk=>(.val [(a294,(.ref a.si))])):=.mk' 3 0 (by kernel_rfl)
theorem chk_e : Lf P (Tf P) [a.si,a.sd] [siO a,siDict P u x] [] (zNE fd378 378 [(a294,(.ref a.si))]) 1 zve (fun ad tk=>[(siO a),'i',(zD zt98 [en P a294 (tk 0) (.ref a.si)] 1)]) (fun ad tk=>(.val (env378 (ad 0)))):=.mk' 8 771 (by kernel_rfl)
noncomputable def chk_fr (P : Params) (u : Nat->Tok) (a : AD) (x : LX) (tk : Nat->Tok) : Obj:=(zD zt98 [en P a294 (tk 0) (.ref a.si)] 1)
theorem chk_call (u : 'f') (a : AD) (x : LX) : CallT w [a.si,a.sd] [siO a,siDict w.params u x] (chk_fr w.params u a x) env378 body378 378 ⟨[.ref a.si],[]⟩:=callT _ _ (top378 w.params) rfl rfl co378 ge378 rfl (cr378 w.params) (chk_b w.params u a x) (chk_e w.params u a x)
theorem chk_w : Lf P (Tf P) [a.si,a.sd,L] [siO a,siDict P u x,chk_fr P u a x k] [] (zEX body378 (env378 L)) 0 zve (fun ad tk=>[(siO a),'i',(chk_fr P u a x k)]) zvn:=.mk' 32 (zd 999 0x120171810103) (by kernel_rfl)
theorem chk_con (u : 'f') (a : AD) (x : LX) (hD : D < recursionLimit) : Con w 'c' [a.si,a.sd] (.call (.ref 378) ⟨[.ref a.si],[]⟩) [siO a,siDict w.params u x] (xC fun f=>.none) D U:=by
 intro A h₀ s h1 h2 hh X R
 refine chk_call u a x (Nat.lt_of_le_of_lt h1 hD) hh X R ?_
 intro L k s1 R1 S1
 rw [tw_execs]
 refine (chk_w w.params u a x L k).sound X R1 hh (fun _ _=>rfl) (fun _ _ y hy=>by cases hy) ?_
 intro ad tk s2 R2 S2
 exact ⟨ad,tk,rfl,R2.pick [0,1] (by decide) (by simp),S1.trans S2⟩
theorem rd_b : Lf P (Tf P) [a.si,a.sd] [siO a,siDict P u x] [] (zBA fd540 ⟨[.ref a.si,.int 1 t],[]⟩) 0 zve (fun ad tk=>[(siO a),'i']) (fun ad tk=>(.val [(a294,(.ref a.si)),(a322,(zI 1 t))])):=.mk' 4 0 (by kernel_rfl)
theorem rd_e : Lf P (Tf P) [a.si,a.sd] [siO a,siDict P u x] [] (zNE fd540 540 [(a294,(.ref a.si)),(a322,(zI 1 t))]) 1 zve (fun ad tk=>[(siO a),'i',(zD zt98 [en P a294 (tk 0) (.ref a.si),en P a322 (tk 1) (zI 1 t)] 2)]) (fun ad tk=>(.val (env540 (ad 0)))):=.mk' 12 50529027 (by kernel_rfl)
noncomputable def rd_fr (P : Params) (u : Nat->Tok) (a : AD) (x : LX) (t : Tok) (tk : Nat->Tok) : Obj:=(zD zt98 [en P a294 (tk 0) (.ref a.si),en P a322 (tk 1) (zI 1 t)] 2)
theorem rd_call (u : 'f') (a : AD) (x : LX) (t : Tok) : CallT w [a.si,a.sd] [siO a,siDict w.params u x] (rd_fr w.params u a x t) env540 body540 540 ⟨[.ref a.si,.int 1 t],[]⟩:=callT _ _ (top540 w.params) rfl rfl co540 ge540 rfl (cr540 w.params) (rd_b w.params u a x t) (rd_e w.params u a x t)
noncomputable abbrev y75:=xC fun f=>.none
noncomputable abbrev y34 (p0 : Int):=xP fun f=>.int p0 (f 0)
noncomputable abbrev y61 (p0 : Tok) (p1 : Nat->Tok):=zX (zR 60 [(zI 1 p0),(.str s!"StringIO.read of a size that is no exact int" (p1 0))]) (xP fun f=>.int 1 p0)
noncomputable abbrev y67 (p0 : LX) (p1 : Int):=zX (zB zb0 [(.str p0.buf p0.bufT)]) (y34 p1)
noncomputable abbrev y52 (p0 : LX) : Value:=.int p0.pos p0.posT
theorem rd_w0 : Lf P (Tf P) [a.si,a.sd,L] [siO a,siDict P u x,rd_fr P u a x t k] [(xP fun f=>.int 1 t),y75,(y34 n),xT] (zEX body540 (env540 L)) 0 (fun ad tk=>[(y61 t tk),⟨(zR 378 [(.ref a.si)]),0,[(siO a),'i',(rd_fr P u a x t k)],0,0,y75⟩,(y67 x n),(zX (zB zb1 [(y52 x),(.int n (tk 21))]) xT)]) (fun ad tk=>[(siO a),'i',(sn (sn (rd_fr P u a x t k) (en P a300 (tk 19) (y52 x))) (en P a301 (tk 29) (.int n (tk 21))))]) (fun ad tk=>(.val (.ret (.str a181 (tk 38))))):=by revert P; refine Lf.rw1 142 (zd 999 0xf030303030f12017181012303031201718101031f02417171010303031f1303) ?_ ?_ <;> kernel_rfl
noncomputable abbrev y38 (p0 : Str):=xC fun f=>.str p0 (f 0)
theorem rd_w1 : Lf P (Tf P) [a.si,a.sd,L] [siO a,siDict P u x,rd_fr P u a x t k] [(xP fun f=>.int 1 t),y75,(y34 n),xF,xT,(y38 y)] (zEX body540 (env540 L)) 0 (fun ad tk=>[(y61 t tk),⟨(zR 378 [(.ref a.si)]),0,[(siO a),'i',(rd_fr P u a x t k)],0,0,y75⟩,(y67 x n),(zX (zB zb1 [(y52 x),(.int n (tk 21))]) xF),(zX (zB zb2 [(.int (x.pos + 1) (tk 39)),(.int n (tk 21))]) xT),⟨(zB zb3 [(.str x.buf x.bufT),(.ref (ad 0))]),1,[(siO a),(sv 'i' 2 (.int (x.pos + 1) (tk 48))),(sn (sn (rd_fr P u a x t k) (en P a300 (tk 19) (y52 x))) (en P a301 (tk 29) (.int (x.pos + 1) (tk 48)))),(zF zt19 [(y52 x),(.int (x.pos + 1) (tk 48)),.none])],0,0,(y38 y)⟩]) (fun ad tk=>[(siO a),(sv 'i' 2 (.int (x.pos + 1) (tk 48))),(sn (sn (rd_fr P u a x t k) (en P a300 (tk 19) (y52 x))) (en P a301 (tk 29) (.int (x.pos + 1) (tk 48))))]) (fun ad tk=>(.val (.ret (.str y (tk 53))))):=by revert P; refine Lf.rw1 252 (zd 999 0xf030312017181010302021271112181010303032303030f230323030f030303030f12017181012303031201718101031f02417171010303031f1303) ?_ ?_ <;> kernel_rfl
theorem rd_w2 : Lf P (Tf P) [a.si,a.sd,L] [siO a,siDict P u x,rd_fr P u a x t k] [(xP fun f=>.int 1 t),y75,(y34 n),xF,xF,(y38 y)] (zEX body540 (env540 L)) 0 (fun ad tk=>[(y61 t tk),⟨(zR 378 [(.ref a.si)]),0,[(siO a),'i',(rd_fr P u a x t k)],0,0,y75⟩,(y67 x n),(zX (zB zb1 [(y52 x),(.int n (tk 21))]) xF),(zX (zB zb2 [(.int (x.pos + 1) (tk 39)),(.int n (tk 21))]) xF),⟨(zB zb3 [(.str x.buf x.bufT),(.ref (ad 0))]),1,[(siO a),(sv 'i' 2 (.int n (tk 21))),(sn (sn (rd_fr P u a x t k) (en P a300 (tk 19) (y52 x))) (en P a301 (tk 29) (.int n (tk 21)))),(zF zt19 [(y52 x),(.int n (tk 21)),.none])],0,0,(y38 y)⟩]) (fun ad tk=>[(siO a),(sv 'i' 2 (.int n (tk 21))),(sn (sn (rd_fr P u a x t k) (en P a300 (tk 19) (y52 x))) (en P a301 (tk 29) (.int n (tk 21))))]) (fun ad tk=>(.val (.ret (.str y (tk 51))))):=by revert P; refine Lf.rw1 235 (zd 999 0xf0303120171810103020212711121810103030f230323030f030303030f12017181012303031201718101031f02417171010303031f1303) ?_ ?_ <;> kernel_rfl
end
end
section
open PySem PySem.W PySem.W.X PyProof.Rows PySem.Builtin PySem.Builtin.Str PySem.Builtin.Int
variable {w : World} {A : Around} {D U : Nat}
theorem deep_lt {env : Env} {D : Nat} (h : A.depth ≤ D) (hD : D + 1 < recursionLimit) : (A.deeper env).depth + 0 < recursionLimit:=by
 show A.depth + 1 + 0 < _
 omega
theorem rd_con0 (u : 'f') (a : AD) (x : LX) (t : Tok) (hD : D + 1 < recursionLimit) (hs : x.buf.length ≤ sizeLine) (hp : (x.buf.length : Int) ≤ x.pos) :
  Con w 'c' [a.si,a.sd] (.call (.ref 540) ⟨[.ref a.si,.int 1 t],[]⟩) [siO a,siDict w.params u x] (xP fun f=>.str ⟨⟨[]⟩⟩ (f 0)) D U:=by
 intro A h₀ s h1 h2 hh X R
 refine rd_call u a x t (by omega) hh X R ?_
 intro L k s1 R1 S1
 rw [tw_execs]
 have hd:=deep_lt (env:=env540 L) h1 hD
 refine (rd_w0 w.params u a x t L k x.buf.length).sound X R1 hh (fun _ _=>rfl) (fun ad tk=>all_cons (fun _ _=>(ix1_con _ _ _ hd).any) (all_cons (Con.left (as:=[a.si,a.sd]) (l₂:=[L]) (cs:=[_,_]) (c₂:=[_]) (chk_con u a x hd) rfl) (all_cons (fun _ _=>con_len hs) (all_cons (fun _ _=>con_ige true (by simpa using hp)) all_nil)))) ?_
 intro ad tk s2 R2 S2
 exact ⟨ad,fun _=>tk 38,rfl,R2.pick [0,1] (by decide) (by simp),S1.trans S2⟩
theorem sl_one {x : Str} {pre post : List Nat} {c : Nat} (hx : x.cps.toList = pre ++ c :: post) {l u : Int} {lt ut : Tok} (hl : l = pre.length) (hu : u = pre.length + 1) :
  slicePicked x (some (l,lt)) (some (u,ut)) none = [pre.length]:=by
 have hn : x.length = pre.length + 1 + post.length:=by
  show x.cps.size = _
  rw [← Array.length_toList,hx]; simp; omega
 unfold slicePicked strSliceIndices
 simp only [Option.map_some,Option.map_none,Option.getD_none]
 rw [hn,hl,hu]
 have e1 : ¬ ((pre.length : Int) < 0):=by omega
 have e2 : ¬ ((pre.length : Int) + 1 < 0):=by omega
 simp only [e1,e2,if_false,show ((1 : Int) > 0) from by decide,if_true]
 have m1 : max 0 (min (pre.length : Int) ((pre.length + 1 + post.length : Nat) : Int)) = pre.length:=by omega
 have m2 : max 0 (min ((pre.length : Int) + 1) ((pre.length + 1 + post.length : Nat) : Int)) = pre.length + 1:=by omega
 rw [m1,m2]
 unfold sliceRange
 have e3 : (pre.length : Int) < pre.length + 1:=by omega
 simp only [show ((1 : Int) > 0) from by decide,if_true,e3]
 have e4 : ((pre.length : Int) + 1 - pre.length + 1 - 1) / 1 = 1:=by omega
 rw [e4]
 simp
theorem str_of_list {x : Str} {l : List Nat} (h : x.cps.toList = l) : x = ⟨⟨l⟩⟩:=by
 obtain ⟨⟨b⟩⟩:=x
 simp at h
 rw [h]
theorem at_one {x : Str} {pre post : List Nat} {c : Nat} (hx : x.cps.toList = pre ++ c :: post) : x.cps[pre.length]? = some c:=by
 rw [← Array.getElem?_toList,hx]; simp
theorem rd_con1 (u : 'f') (a : AD) (x : LX) (t : Tok) {pre post : List Nat} {c : Nat} (hD : D + 1 < recursionLimit) (hs : x.buf.length ≤ sizeLine) (hx : x.buf.cps.toList = pre ++ c :: post) (hp : x.pos = pre.length) :
  Con w 'c' [a.si,a.sd] (.call (.ref 540) ⟨[.ref a.si,.int 1 t],[]⟩) [siO a,siDict w.params u x] ⟨0,fun _ f=>.ok (.ret (.str ⟨⟨[c]⟩⟩ (f 0))),fun _ f _=>[siO a,siDict w.params u { x with pos:=x.pos + 1,posT:=f 1 }],fun _ _=>[],false⟩ D U:=by
 intro A h₀ s h1 h2 hh X R
 refine rd_call u a x t (by omega) hh X R ?_
 intro L k s1 R1 S1
 rw [tw_execs]
 have hd:=deep_lt (env:=env540 L) h1 hD
 have hn : (x.buf.length : Int) = pre.length + 1 + post.length:=by
  have : x.buf.length = pre.length + 1 + post.length:=by
   show x.buf.cps.size = _
   rw [← Array.length_toList,hx]; simp; omega
  omega
 have hone : ∀ (lt ut : Tok) (e : Int),e = x.pos + 1->(slicePicked x.buf (some (x.pos,lt)) (some (e,ut)) none) = [pre.length]:=fun lt ut e he=>sl_one hx hp (by rw [he,hp])
 have hy : [pre.length].filterMap (x.buf.cps[·]?) = (⟨⟨[c]⟩⟩ : Str).cps.toList:=by simp [at_one hx]
 have hw : [pre.length].length = x.buf.length->x.buf = ⟨⟨[c]⟩⟩:=fun h=>by
  have h : x.buf.length = 1:=h.symm
  have hl : pre = [] ∧ post = []:=by
   constructor <;> (apply List.eq_nil_of_length_eq_zero; omega)
  obtain ⟨rfl,rfl⟩:=hl
  exact str_of_list (by rw [hx]; rfl)
 have hs1 : (⟨⟨[c]⟩⟩ : Str).length ≤ sizeLine:=by
  have : (⟨⟨[c]⟩⟩ : Str).length = 1:=rfl
  rw [this]; decide +kernel
 have hge : decide (x.pos ≥ (x.buf.length : Int)) = false:=by
  apply decide_eq_false; omega
 by_cases hlt : x.pos + 1 < (x.buf.length : Int)
 ·refine (rd_w1 w.params u a x t L k x.buf.length ⟨⟨[c]⟩⟩).sound X R1 hh 'a' (fun ad tk=>all_cons (fun _ _=>(ix1_con _ _ _ hd).any) (all_cons (Con.left (as:=[a.si,a.sd]) (l₂:=[L]) (cs:=[_,_]) (c₂:=[_]) (chk_con u a x hd) rfl) (all_cons (fun _ _=>con_len hs) (all_cons (fun _ _=>con_ige false hge)
   (all_cons (fun _ _=>con_ilt true (decide_eq_true hlt)) (all_cons (Con.cells <| con_slice (m:=3) rfl rfl _ (by rw [hone _ _ _ rfl]; exact hy) (by rw [hone _ _ _ rfl]; exact hw) hs1) all_nil)))))) ?_
  intro ad tk s2 R2 S2
  exact ⟨ad,fun m=>match m with | 0=>tk 53 | _=>tk 48,rfl,R2.pick [0,1] (by decide) (by simp),S1.trans S2⟩
 ·have he : (x.buf.length : Int) = x.pos + 1:=by omega
  refine (rd_w2 w.params u a x t L k x.buf.length ⟨⟨[c]⟩⟩).sound X R1 hh 'a' (fun ad tk=>all_cons (fun _ _=>(ix1_con _ _ _ hd).any) (all_cons (Con.left (as:=[a.si,a.sd]) (l₂:=[L]) (cs:=[_,_]) (c₂:=[_]) (chk_con u a x hd) rfl) (all_cons (fun _ _=>con_len hs) (all_cons (fun _ _=>con_ige false hge)
   (all_cons (fun _ _=>con_ilt false (decide_eq_false hlt)) (all_cons (Con.cells <| con_slice (m:=3) rfl rfl _ (by rw [hone _ _ _ he]; exact hy) (by rw [hone _ _ _ he]; exact hw) hs1) all_nil)))))) ?_
  intro ad tk s2 R2 S2
  refine ⟨ad,fun m=>match m with | 0=>tk 51 | _=>tk 21,rfl,?_,S1.trans S2⟩
  have R3:=R2.pick [0,1] (by decide) (by simp)
  rw [he] at R3
  exact R3
end
section
open PySem PySem.W PySem.W.X PyProof.Rows PySem.Builtin PySem.Builtin.Str PySem.Builtin.Int PySem.StrLaws
variable {w : World} {as : List Addr} {cs : List Obj} {D U : Nat} {T : BT}
theorem con_in1 {x : Str} {c : Nat} {t u : Tok} (b : Bool) (h : decide (c ∈ x.cps.toList) = b) :
  Con w T as (.call (.builtin "str.__contains__") ⟨[.str x t,.str ⟨⟨[c]⟩⟩ u],[]⟩) cs (xP fun _=>.bool b) D U :=
 con_in b (by rw [← h]; exact found_one x c)
theorem gives_find4 (x y : Str) (i j : Int) (t u v z : Tok) : Gives («str.find» ⟨[.str x t,.str y u,.int i v,.int j z],[]⟩) (.int (match occurrences x y (fromIndex x.length i) (min (fromIndex x.length j) x.length) 1 with | k :: _=>(k : Int) | []=>-1)):=by
 show Gives (match occurrences x y (fromIndex x.length i) (min (fromIndex x.length j) x.length) 1 with | k :: _=>retInt k | []=>(do rule "str.find.not-found"; retInt (-1))) _
 cases occurrences x y (fromIndex x.length i) (min (fromIndex x.length j) x.length) 1 with
 | nil=>exact .rule (.of_eq rfl)
 | cons k _=>exact .of_eq rfl
theorem occ_stay (s sub : Str) (hi : Nat) : ∀ (l : List Nat) (st : Array Nat × Nat),(1 ≤ st.1.size ∨ ∀ i ∈ l,¬ subAt s sub i = true)->(forIn l st (occBody s sub hi 1)).run = st
 | [],st,_=>rfl
 | a :: l,st,h=>by
  rw [List.forIn_cons]
  have hb : occBody s sub hi 1 a st = pure (ForInStep.yield (st.fst,st.snd)):=by
   unfold occBody
   rw [if_neg]
   rintro ⟨⟨⟨h1,_⟩,_⟩,h2⟩
   rcases h with h | h
   ·omega
   ·exact h a (.head _) h2
  rw [hb]
  exact occ_stay s sub hi l st (h.imp id fun h i hi=>h i (.tail _ hi))
theorem forIn_app {σ : Type} (f : Nat->σ->Id (ForInStep σ)) (hf : ∀ a b,∃ c,f a b = pure (.yield c)) : ∀ (l m : List Nat) (b : σ),(forIn (l ++ m) b f).run = (forIn m (forIn l b f).run f).run
 | [],m,b=>rfl
 | a :: l,m,b=>by
  obtain ⟨c,hc⟩:=hf a b
  rw [List.cons_append,List.forIn_cons,List.forIn_cons,hc]
  exact forIn_app f hf l m c
theorem body_yields (s sub : Str) (hi lim : Nat) (a : Nat) (b : Array Nat × Nat) : ∃ c,occBody s sub hi lim a b = pure (.yield c):=by
 unfold occBody
 split
 ·exact ⟨_,rfl⟩
 ·exact ⟨_,rfl⟩
theorem sub_one {x : Str} {c i : Nat} : subAt x ⟨⟨[c]⟩⟩ i = true ↔ x.cps.toList[i]? = some c:=by
 unfold subAt
 rw [beq_iff_eq]
 have hl : (⟨⟨[c]⟩⟩ : Str).length = 1:=rfl
 rw [hl]
 constructor
 ·intro h
  have h:=congrArg Array.toList h
  rw [Array.toList_extract] at h
  have h2 : ((x.cps.toList.drop i).take 1) = [c]:=by
   have : List.extract x.cps.toList i (i + 1) = (x.cps.toList.drop i).take (i + 1 - i):=rfl
   rw [this,Nat.add_sub_cancel_left] at h
   exact h
  have h3:=congrArg (·[0]?) h2
  simp at h3
  simpa using h3
 ·intro h
  apply Array.ext'
  rw [Array.toList_extract]
  have : List.extract x.cps.toList i (i + 1) = (x.cps.toList.drop i).take (i + 1 - i):=rfl
  rw [this,Nat.add_sub_cancel_left]
  obtain ⟨hi,he⟩:=List.getElem?_eq_some_iff.mp h
  rw [List.drop_eq_getElem_cons hi]
  simp [he]
theorem occ_no {x : Str} {c : Nat} {pre post : List Nat} (hx : x.cps.toList = pre ++ post) (hn : c ∉ post) : occurrences x ⟨⟨[c]⟩⟩ pre.length x.length 1 = []:=by
 rw [occ_eq,occ_stay]
 right
 intro i hi h
 rw [sub_one,hx,List.getElem?_append_right (by simp [List.mem_range'] at hi; omega)] at h
 exact hn (List.mem_of_getElem? h)
theorem occ_yes {x : Str} {c : Nat} {pre mid post : List Nat} (hx : x.cps.toList = pre ++ (mid ++ c :: post)) (hn : c ∉ mid) : occurrences x ⟨⟨[c]⟩⟩ pre.length x.length 1 = [pre.length + mid.length]:=by
 have hl : x.length = pre.length + (mid.length + (1 + post.length)):=by
  show x.cps.size = _
  rw [← Array.length_toList,hx]; simp; omega
 rw [occ_eq]
 have e : List.range' pre.length (x.length + 1 - pre.length) = List.range' pre.length mid.length ++ ((pre.length + mid.length) :: List.range' (pre.length + mid.length + 1) (post.length + 1)):=by
  rw [hl,show pre.length + (mid.length + (1 + post.length)) + 1 - pre.length = mid.length + (post.length + 2) from by omega,← List.range'_append_1]
  rfl
 rw [e,forIn_app _ (body_yields _ _ _ _),occ_stay x _ _ (List.range' pre.length mid.length)]
 ·rw [List.forIn_cons]
  have hb : occBody x ⟨⟨[c]⟩⟩ x.length 1 (pre.length + mid.length) (#[],pre.length) = pure (ForInStep.yield (#[pre.length + mid.length],pre.length + mid.length + 1)):=by
   unfold occBody
   rw [if_pos]
   ·rfl
   ·refine ⟨⟨⟨by simp,by simp⟩,?_⟩,?_⟩
    ·show pre.length + mid.length + 1 ≤ _
     omega
    ·rw [sub_one,hx,List.getElem?_append_right (by omega),Nat.add_sub_cancel_left,List.getElem?_append_right (by omega)]
     simp
  rw [hb]
  show ((forIn (List.range' (pre.length + mid.length + 1) (post.length + 1)) (#[pre.length + mid.length],pre.length + mid.length + 1) (occBody x ⟨⟨[c]⟩⟩ x.length 1)).run).fst.toList = _
  rw [occ_stay]
  left
  simp
 ·right
  intro i hi h
  simp [List.mem_range'] at hi
  obtain ⟨k,hk,rfl⟩:=hi
  rw [sub_one,hx,List.getElem?_append_right (by omega),Nat.add_sub_cancel_left,List.getElem?_append_left hk] at h
  exact hn (List.mem_of_getElem? h)
theorem con_find {x : Str} {c : Nat} {t u v z : Tok} {i j : Int} {pre post : List Nat} (hx : x.cps.toList = pre ++ post) (hi : i = pre.length) (hj : j = x.length) (k : Int)
  (hk : (c ∉ post ∧ k = -1) ∨ ∃ mid rest,post = mid ++ c :: rest ∧ c ∉ mid ∧ k = pre.length + mid.length) :
  Con w T as (.call (.builtin "str.find") ⟨[.str x t,.str ⟨⟨[c]⟩⟩ u,.int i v,.int j z],[]⟩) cs (xP fun f=>.int k (f 0)) D U:=by
 refine con_gives F.slot_str_find (fun s=>typeIs_str s x t) F.entry_str_find (by unfold argsOk; kernel_rfl!) (gives_find4 x _ i j t u v z) ?_
 intro h₀ s R
 have e1 : fromIndex x.length i = pre.length:=by unfold fromIndex; rw [hi,if_neg (by omega)]; omega
 have e2 : min (fromIndex x.length j) x.length = x.length:=by unfold fromIndex; rw [hj,if_neg (by omega)]; omega
 rw [e1,e2]
 rcases hk with ⟨hn,rfl⟩ | ⟨mid,rest,rfl,hn,rfl⟩
 ·rw [occ_no hx hn]
  exact told_at s.toks _ rfl R
 ·rw [occ_yes hx hn]
  exact told_at s.toks _ rfl R
end
section
open PySem PySem.W PySem.W.X PyProof.Rows
variable {w : World}
section
variable (P : Params) (u : Nat->Tok) (a : AD) (x : LX) (t : Tok) (L : Addr) (k : Nat->Tok) (n i p : Int) (y : Str)
theorem ln_b : Lf P (Tf P) [a.si,a.sd] [siO a,siDict P u x] [] (zBA fd392 ⟨[.ref a.si,.int (-1) t],[]⟩) 0 zve (fun ad tk=>[(siO a),'i']) (fun ad tk=>(.val [(a294,(.ref a.si)),(a299,(y71 t))])):=.mk' 3 0 (by kernel_rfl)
theorem ln_e : Lf P (Tf P) [a.si,a.sd] [siO a,siDict P u x] [] (zNE fd392 392 [(a294,(.ref a.si)),(a299,(y71 t))]) 1 zve (fun ad tk=>[(siO a),'i',(zD zt98 [en P a294 (tk 0) (.ref a.si),en P a299 (tk 1) (y71 t)] 2)]) (fun ad tk=>(.val (env392 (ad 0)))):=.mk' 12 50529027 (by kernel_rfl)
noncomputable def ln_fr (P : Params) (u : Nat->Tok) (a : AD) (x : LX) (t : Tok) (tk : Nat->Tok) : Obj:=(zD zt98 [en P a294 (tk 0) (.ref a.si),en P a299 (tk 1) (y71 t)] 2)
theorem ln_call (u : 'f') (a : AD) (x : LX) (t : Tok) : CallT w [a.si,a.sd] [siO a,siDict w.params u x] (ln_fr w.params u a x t) env392 body392 392 ⟨[.ref a.si,.int (-1) t],[]⟩:=callT _ _ (top392 w.params) rfl rfl co392 ge392 rfl (cr392 w.params) (ln_b w.params u a x t) (ln_e w.params u a x t)
theorem ln_w0 : Lf P (Tf P) [a.si,a.sd,L] [siO a,siDict P u x,ln_fr P u a x t k] [(y34 n),xT] (zEX body392 (env392 L)) 0 (fun ad tk=>[(y67 x n),(zX (zB zb1 [(y52 x),(.int n (tk 3))]) xT)]) (fun ad tk=>[(siO a),'i',(sn (sn (ln_fr P u a x t k) (en P a300 (tk 1) (y52 x))) (en P a301 (tk 11) (.int n (tk 3))))]) (fun ad tk=>(.val (.ret (.str a181 (tk 20))))):=by revert P; refine Lf.rw1 89 (zd 999 0xf030303030f1201718101230303120171810103) ?_ ?_ <;> kernel_rfl
theorem ln_w1 : Lf P (Tf P) [a.si,a.sd,L] [siO a,siDict P u x,ln_fr P u a x t k] [(y34 n),xF,xF,(y34 i),xT,(y38 y)] (zEX body392 (env392 L)) 0 (fun ad tk=>[(y67 x n),(zX (zB zb1 [(y52 x),(.int n (tk 3))]) xF),(zX (zB zb1 [(y71 t),(zI 0 (tk 21))]) xF),(zX (zB zb4 [(.str x.buf x.bufT),(.str a349 (u 41)),(y52 x),(.int n (tk 3))]) (y34 i)),(zX (zB zb1 [(.int i (tk 35)),(zI 0 (tk 44))]) xT),⟨(zB zb3 [(.str x.buf x.bufT),(.ref (ad 0))]),1,[(siO a),(sv 'i' 2 (.int (i + 1) (tk 55))),(sn (sn (sn (sn (sn (sn (ln_fr P u a x t k) (en P a300 (tk 1) (y52 x))) (en P a301 (tk 11) (.int (i + 1) (tk 55)))) (en P a359 (tk 20) (.bool false))) (zE P a351 (tk 31) a349 (u 41))) (zE P a361 (tk 33) a349 (u 41))) (en P a302 (tk 43) (.int i (tk 35)))),(zF zt19 [(y52 x),(.int (i + 1) (tk 55)),.none])],0,0,(y38 y)⟩]) (fun ad tk=>[(siO a),(sv 'i' 2 (.int (i + 1) (tk 55))),(sn (sn (sn (sn (sn (sn (ln_fr P u a x t k) (en P a300 (tk 1) (y52 x))) (en P a301 (tk 11) (.int (i + 1) (tk 55)))) (en P a359 (tk 20) (.bool false))) (zE P a351 (tk 31) a349 (u 41))) (zE P a361 (tk 33) a349 (u 41))) (en P a302 (tk 43) (.int i (tk 35))))]) (fun ad tk=>(.val (.ret (.str y (tk 60))))):=by revert P; refine Lf.rw1 319 (zd 999 0xf030312017181010302021271112181010303036323030f0303030f03030312017181010303030303230303031201718101030f0303030f030303030f1201718101230303120171810103) ?_ ?_ <;> kernel_rfl
theorem ln_w2 : Lf P (Tf P) [a.si,a.sd,L] [siO a,siDict P u x,ln_fr P u a x t k] [(y34 n),xF,xF,(y34 i),xF,(y38 y)] (zEX body392 (env392 L)) 0 (fun ad tk=>[(y67 x n),(zX (zB zb1 [(y52 x),(.int n (tk 3))]) xF),(zX (zB zb1 [(y71 t),(zI 0 (tk 21))]) xF),(zX (zB zb4 [(.str x.buf x.bufT),(.str a349 (u 41)),(y52 x),(.int n (tk 3))]) (y34 i)),(zX (zB zb1 [(.int i (tk 35)),(zI 0 (tk 44))]) xF),⟨(zB zb3 [(.str x.buf x.bufT),(.ref (ad 0))]),1,[(siO a),(sv 'i' 2 (.int n (tk 3))),(sn (sn (sn (sn (sn (sn (ln_fr P u a x t k) (en P a300 (tk 1) (y52 x))) (en P a301 (tk 11) (.int n (tk 3)))) (en P a359 (tk 20) (.bool false))) (zE P a351 (tk 31) a349 (u 41))) (zE P a361 (tk 33) a349 (u 41))) (en P a302 (tk 43) (.int i (tk 35)))),(zF zt19 [(y52 x),(.int n (tk 3)),.none])],0,0,(y38 y)⟩]) (fun ad tk=>[(siO a),(sv 'i' 2 (.int n (tk 3))),(sn (sn (sn (sn (sn (sn (ln_fr P u a x t k) (en P a300 (tk 1) (y52 x))) (en P a301 (tk 11) (.int n (tk 3)))) (en P a359 (tk 20) (.bool false))) (zE P a351 (tk 31) a349 (u 41))) (zE P a361 (tk 33) a349 (u 41))) (en P a302 (tk 43) (.int i (tk 35))))]) (fun ad tk=>(.val (.ret (.str y (tk 56))))):=by revert P; refine Lf.rw1 288 (zd 999 0xf0303120171810103020212711121810103030f0303030f03030312017181010303030303230303031201718101030f0303030f030303030f1201718101230303120171810103) ?_ ?_ <;> kernel_rfl
noncomputable abbrev y80 : Value:=.int (.negSucc 0) 885
theorem rl_b : Lf P (Tf P) [a.si,a.sd] [siO a,siDict P u x] [] (zBA fd548 ⟨[.ref a.si],[]⟩) 0 zve (fun ad tk=>[(siO a),'i']) (fun ad tk=>(.val [(a294,(.ref a.si)),(a322,y80)])):=.mk' 4 0 (by kernel_rfl)
theorem rl_e : Lf P (Tf P) [a.si,a.sd] [siO a,siDict P u x] [] (zNE fd548 548 [(a294,(.ref a.si)),(a322,y80)]) 1 zve (fun ad tk=>[(siO a),'i',(zD zt98 [en P a294 (tk 0) (.ref a.si),en P a322 (tk 1) y80] 2)]) (fun ad tk=>(.val (env548 (ad 0)))):=.mk' 12 50529027 (by kernel_rfl)
noncomputable def rl_fr (P : Params) (u : Nat->Tok) (a : AD) (x : LX) (tk : Nat->Tok) : Obj:=(zD zt98 [en P a294 (tk 0) (.ref a.si),en P a322 (tk 1) y80] 2)
theorem rl_call (u : 'f') (a : AD) (x : LX) : CallT w [a.si,a.sd] [siO a,siDict w.params u x] (rl_fr w.params u a x) env548 body548 548 ⟨[.ref a.si],[]⟩:=callT _ _ (top548 w.params) rfl rfl co548 ge548 rfl (cr548 w.params) (rl_b w.params u a x) (rl_e w.params u a x)
theorem rl_w : Lf P (Tf P) [a.si,a.sd,L] [siO a,siDict P u x,rl_fr P u a x k] [(xP fun f=>.int (-1) 885),y75,⟨0,fun _ f=>.ok (.ret (.str y (f 0))),fun _ f l=>[siO a,siDict P u 'l',getO l 2],fun _ _=>[],false⟩] (zEX body548 (env548 L)) 0 (fun ad tk=>[(zX (zR 60 [y80,(.str s!"StringIO.readline of a size that is no exact int" (tk 0))]) (xP fun f=>.int (-1) 885)),⟨(zR 378 [(.ref a.si)]),0,[(siO a),'i',(rl_fr P u a x k)],0,0,y75⟩,⟨(zR 392 [(.ref a.si),y80]),0,[(siO a),'i',(rl_fr P u a x k)],0,0,⟨0,fun _ f=>.ok (.ret (.str y (f 0))),fun _ f l=>[siO a,siDict P u 'l',getO l 2],fun _ _=>[],false⟩⟩]) (fun ad tk=>[(siO a),(sv 'i' 2 (.int p (tk 19))),(rl_fr P u a x k)]) (fun ad tk=>(.val (.ret (.str y (tk 18))))):=.mk' 90 (zd 999 0x1f030241717101031f02417171010303031f1303) (by kernel_rfl)
end
end
section
open PySem PySem.W PySem.W.X PyProof.Rows PySem.Builtin PySem.Builtin.Str PySem.Builtin.Int PySem.StrLaws
variable {w : World} {as : List Addr} {cs : List Obj} {D U : Nat} {T : BT}
theorem sl_range {x : Str} {pre mid post : List Nat} (hx : x.cps.toList = pre ++ (mid ++ post)) {l u : Int} {lt ut : Tok} (hl : l = pre.length) (hu : u = pre.length + mid.length) :
  slicePicked x (some (l,lt)) (some (u,ut)) none = (List.range mid.length).map fun k=>pre.length + k:=by
 have hn : x.length = pre.length + mid.length + post.length:=by
  show x.cps.size = _
  rw [← Array.length_toList,hx]; simp; omega
 unfold slicePicked strSliceIndices
 simp only [Option.map_some,Option.map_none,Option.getD_none]
 rw [hn,hl,hu]
 have e1 : ¬ ((pre.length : Int) < 0):=by omega
 have e2 : ¬ ((pre.length : Int) + mid.length < 0):=by omega
 simp only [e1,e2,if_false,show ((1 : Int) > 0) from by decide,if_true]
 have m1 : max 0 (min (pre.length : Int) ((pre.length + mid.length + post.length : Nat) : Int)) = pre.length:=by omega
 have m2 : max 0 (min ((pre.length : Int) + mid.length) ((pre.length + mid.length + post.length : Nat) : Int)) = pre.length + mid.length:=by omega
 rw [m1,m2]
 unfold sliceRange
 simp only [show ((1 : Int) > 0) from by decide,if_true]
 have e4 : (if (pre.length : Int) < pre.length + mid.length then ((pre.length : Int) + mid.length - pre.length + 1 - 1) / 1 else 0) = mid.length:=by
  split <;> omega
 rw [e4]
 simp only [Int.toNat_natCast]
 apply List.map_congr_left
 intro k _
 omega
theorem pick_range {x : Str} {pre mid post : List Nat} (hx : x.cps.toList = pre ++ (mid ++ post)) : ((List.range mid.length).map fun k=>pre.length + k).filterMap (x.cps[·]?) = mid:=by
 have : ∀ k,k < mid.length->x.cps[pre.length + k]? = mid[k]?:=fun k hk=>by
  rw [← Array.getElem?_toList,hx,List.getElem?_append_right (by omega),Nat.add_sub_cancel_left,List.getElem?_append_left hk]
 rw [List.filterMap_map]
 have h2 : ∀ (m : List Nat) (g : Nat->Option Nat),(∀ k,k < m.length->g k = m[k]?)->(List.range m.length).filterMap g = m:=by
  intro m
  induction m with
  | nil=>intro g _; rfl
  | cons c m ih =>
   intro g hg
   rw [List.length_cons,List.range_succ_eq_map,List.filterMap_cons,hg 0 (by simp)]
   simp only [List.getElem?_cons_zero,List.filterMap_map]
   rw [ih (g ∘ Nat.succ) (fun k hk=>by
    show g (k + 1) = _
    rw [hg (k + 1) (by simp; omega)]
    simp)]
 exact h2 mid _ this
theorem con_sub {x : Str} {t : Tok} {z : Addr} (m : Nat) {l u : Int} {lt ut : Tok} {pre mid post : List Nat} (hz : as[m]? = some z) (hc : cs[m]? = some ⟨.type "slice",none,.fields ⟨[.int l lt,.int u ut,.none]⟩,⟨[]⟩⟩)
  (hx : x.cps.toList = pre ++ (mid ++ post)) (hl : l = pre.length) (hu : u = pre.length + mid.length) (hs : x.length ≤ sizeLine) :
  Con w T as (.call (.builtin "str.__getitem__") ⟨[.str x t,.ref z],[]⟩) cs (xP fun f=>.str ⟨⟨mid⟩⟩ (f 0)) D U:=by
 have hn : x.length = pre.length + (mid.length + post.length):=by
  show x.cps.size = _
  rw [← Array.length_toList,hx]; simp
 refine con_slice (m:=m) hz hc _ ?_ ?_ ?_
 ·rw [sl_range hx hl hu]; exact pick_range hx
 ·rw [sl_range hx hl hu]
  intro h
  simp at h
  have h1 : pre = []:=List.eq_nil_of_length_eq_zero (by omega)
  have h2 : post = []:=List.eq_nil_of_length_eq_zero (by omega)
  subst h1 h2
  exact str_of_list (by rw [hx]; simp)
 ·show mid.length ≤ _
  omega
noncomputable def skipLine : List Nat->List Nat
 | []=>[]
 | c :: l=>if c = 10 then l else skipLine l
theorem skipLine_cases : ∀ l : List Nat,(10 ∉ l ∧ skipLine l = []) ∨ ∃ mid rest,l = mid ++ 10 :: rest ∧ 10 ∉ mid ∧ skipLine l = rest
 | []=>.inl ⟨by simp,rfl⟩
 | c :: l=>by
  by_cases h : c = 10
  ·subst h
   exact .inr ⟨[],l,rfl,by simp,by simp [skipLine]⟩
  ·rcases skipLine_cases l with ⟨h1,h2⟩ | ⟨mid,rest,rfl,h1,h2⟩
   ·exact .inl ⟨by simp [h1]; omega,by simp [skipLine,h,h2]⟩
   ·exact .inr ⟨c :: mid,rest,rfl,by simp [h1]; omega,by simp [skipLine,h,h2]⟩
theorem ln_con (u : 'f') (a : AD) (x : LX) (t : Tok) {pre post : List Nat} (hs : x.buf.length ≤ sizeLine) (hx : x.buf.cps.toList = pre ++ post) (hp : x.pos = pre.length) :
  ∃ (y : Str) (p : Nat),p + (skipLine post).length = x.buf.length ∧ ∀ D U,D < recursionLimit->Con w 'c' [a.si,a.sd] (.call (.ref 392) ⟨[.ref a.si,.int (-1) t],[]⟩) [siO a,siDict w.params u x]
   ⟨0,fun _ f=>.ok (.ret (.str y (f 0))),fun _ f _=>[siO a,siDict w.params u 'l'],fun _ _=>[],false⟩ D U:=by
 have hn : x.buf.length = pre.length + post.length:=by
  show x.buf.cps.size = _
  rw [← Array.length_toList,hx]; simp
 have h349 : a349 = (⟨⟨[10]⟩⟩ : Str):=rfl
 by_cases h0 : post = []
 ·subst h0
  refine ⟨⟨⟨[]⟩⟩,pre.length,by rw [hn]; rfl,?_⟩
  intro D U hD A h₀ s h1 h2 hh X R
  refine ln_call u a x t (by omega) hh X R ?_
  intro L k s1 R1 S1
  rw [tw_execs]
  refine (ln_w0 w.params u a x t L k x.buf.length).sound X R1 hh (fun _ _=>rfl) (fun ad tk=>all_cons (fun _ _=>con_len hs) (all_cons (fun _ _=>con_ige true (decide_eq_true (by simp at hn; omega))) all_nil)) ?_
  intro ad tk s2 R2 S2
  refine ⟨ad,fun m=>match m with | 0=>tk 20 | _=>x.posT,rfl,?_,S1.trans S2⟩
  have R3:=R2.pick [0,1] (by decide) (by simp)
  have e : x = { x with pos:=(pre.length : Int),posT:=x.posT }:=by rw [← hp]
  rw [e] at R3
  exact R3
 ·have hlen : 0 < post.length:=List.length_pos_iff.mpr h0
  have hge : decide (x.pos ≥ (x.buf.length : Int)) = false:=decide_eq_false (by omega)
  rcases skipLine_cases post with ⟨h1,h2⟩ | ⟨mid,rest,hm,h1,h2⟩
  ·refine ⟨⟨⟨post⟩⟩,x.buf.length,by rw [h2]; rfl,?_⟩
   intro D U hD A h₀ s g1 g2 hh X R
   refine ln_call u a x t (by omega) hh X R ?_
   intro L k s1 R1 S1
   rw [tw_execs]
   refine (ln_w2 w.params u a x t L k x.buf.length (-1) ⟨⟨post⟩⟩).sound X R1 hh 'a' (fun ad tk=>all_cons (fun _ _=>con_len hs) (all_cons (fun _ _=>con_ige false hge) (all_cons (fun _ _=>con_ige false rfl) (all_cons (fun _ _=>con_find hx hp rfl (-1) (.inl ⟨h1,rfl⟩)) (all_cons (fun _ _=>con_ige false rfl)
    (all_cons (Con.cells <| con_sub 3 rfl rfl (post:=[]) (by rw [List.append_nil]; exact hx) hp (by rw [hn]; omega) hs) all_nil)))))) ?_
   intro ad tk s2 R2 S2
   exact ⟨ad,fun m=>match m with | 0=>tk 56 | _=>tk 3,rfl,R2.pick [0,1] (by decide) (by simp),S1.trans S2⟩
  ·refine ⟨⟨⟨mid ++ [10]⟩⟩,pre.length + mid.length + 1,by rw [h2,hn,hm]; simp; omega,?_⟩
   intro D U hD A h₀ s g1 g2 hh X R
   refine ln_call u a x t (by omega) hh X R ?_
   intro L k s1 R1 S1
   rw [tw_execs]
   refine (ln_w1 w.params u a x t L k x.buf.length (pre.length + mid.length : Nat) ⟨⟨mid ++ [10]⟩⟩).sound X R1 hh (fun _ _=>rfl) (fun ad tk=>all_cons (fun _ _=>con_len hs) (all_cons (fun _ _=>con_ige false hge) (all_cons (fun _ _=>con_ige false rfl) (all_cons (fun _ _=>con_find hx hp rfl _ (.inr ⟨mid,rest,hm,h1,by simp⟩)) (all_cons (fun _ _=>con_ige true (decide_eq_true (by show (0 : Int) ≤ _; omega)))
    (all_cons (Con.cells <| con_sub 3 rfl rfl (post:=rest) (by rw [hx,hm]; simp) hp (by simp; omega) hs) all_nil)))))) ?_
   intro ad tk s2 R2 S2
   exact ⟨ad,fun m=>match m with | 0=>tk 60 | _=>tk 55,rfl,R2.pick [0,1] (by decide) (by simp),S1.trans S2⟩
theorem rl_con (u : 'f') (a : AD) (x : LX) {pre post : List Nat} (hs : x.buf.length ≤ sizeLine) (hx : x.buf.cps.toList = pre ++ post) (hp : x.pos = pre.length) :
  ∃ (y : Str) (p : Nat),p + (skipLine post).length = x.buf.length ∧ ∀ D U,D + 1 < recursionLimit->Con w 'c' [a.si,a.sd] (.call (.ref 548) ⟨[.ref a.si],[]⟩) [siO a,siDict w.params u x]
   ⟨0,fun _ f=>.ok (.ret (.str y (f 0))),fun _ f _=>[siO a,siDict w.params u 'l'],fun _ _=>[],false⟩ D U:=by
 obtain ⟨y,p,h1,C⟩:=ln_con (w:=w) u a x 885 hs hx hp
 refine ⟨y,p,h1,?_⟩
 intro D U hD A h₀ s g1 g2 hh X R
 refine rl_call u a x (by omega) hh X R ?_
 intro L k s1 R1 S1
 rw [tw_execs]
 have hd:=deep_lt (env:=env548 L) g1 hD
 refine (rl_w w.params u a x L k p y).sound X R1 hh 'a' (fun ad tk=>all_cons (fun _ _=>(ixm_con _ _ _ hd).any) (all_cons (Con.left (as:=[a.si,a.sd]) (l₂:=[L]) (cs:=[_,_]) (c₂:=[_]) (chk_con u a x hd) rfl)
  (all_cons (Con.frame (l₁:=[]) (as:=[a.si,a.sd]) (l₂:=[L]) (c₁:=[]) (cs:=[_,_]) (c₂:=[_]) (C _ _ hd) rfl rfl rfl rfl rfl (fun _ _=>rfl) (fun _ _=>rfl)) all_nil))) ?_
 ·intro ad tk s2 R2 S2
  exact ⟨ad,fun m=>match m with | 0=>tk 18 | _=>tk 19,rfl,R2.pick [0,1] (by decide) (by simp),S1.trans S2⟩
end
section
open PySem PySem.W PySem.W.X PyProof.Rows
variable {w : World} {D U : Nat}
section
variable (P : Params) (u : Nat->Tok) (a : AD) (x : LX) (L : Addr) (k : Nat->Tok)
theorem pc1_b : Lf P (Tf P) [a.lx,a.ld] [lxO a,lxDict P u a true x] [] (zBA fd660 ⟨[.ref a.lx],[]⟩) 0 zve (fun ad tk=>[(lxO a),(lxDict P u a true x)]) (fun ad tk=>(.val [(a294,(.ref a.lx))])):=.mk' 3 0 (by kernel_rfl)
noncomputable abbrev y55 (p0 : Params) (p1 : Nat->Tok) (p2 : AD):=[en p0 a294 (p1 0) (.ref p2.lx)]
theorem pc1_e : Lf P (Tf P) [a.lx,a.ld] [lxO a,lxDict P u a true x] [] (zNE fd660 660 [(a294,(.ref a.lx))]) 1 zve (fun ad tk=>[(lxO a),(lxDict P u a true x),(zD zt98 (y55 P tk a) 1)]) (fun ad tk=>(.val (env660 (ad 0)))):=.mk' 8 771 (by kernel_rfl)
noncomputable def pc1_fr (P : Params) (u : Nat->Tok) (a : AD) (x : LX) (tk : Nat->Tok) : Obj:=(zD zt98 (y55 P tk a) 1)
theorem pc1_call (u : 'f') (a : AD) (x : LX) : CallT w [a.lx,a.ld] [lxO a,lxDict w.params u a true x] (pc1_fr w.params u a x) env660 body660 660 ⟨[.ref a.lx],[]⟩:=callT _ _ (top660 w.params) rfl rfl co660 ge660 rfl (cr660 w.params) (pc1_b w.params u a x) (pc1_e w.params u a x)
theorem pc1_w : Lf P (Tf P) [a.lx,a.ld,L] [lxO a,lxDict P u a true x,pc1_fr P u a x k] [] (zEX body660 (env660 L)) 0 zve (fun ad tk=>[(lxO a),(lxDict P u a true x),(pc1_fr P u a x k)]) (fun ad tk=>(.val (.ret (.str s!"();<>|&" (u 36))))):=.mk' 23 40565129901238982089067378770179 (by kernel_rfl)
theorem pc1_con { w : World } (u : 'f') (a : AD) (x : LX) { D U : Nat } (hD : D < recursionLimit) : Con w 'c' [a.lx,a.ld] (zR 660 [.ref a.lx]) [lxO a,lxDict w.params u a true x] (xC fun f=>.str s!"();<>|&" (u 36)) D U:=by
 intro A h₀ s h1 h2 hh X R
 refine pc1_call u a x (Nat.lt_of_le_of_lt h1 hD) hh X R ?_
 intro L k s1 R1 S1
 rw [tw_execs]
 refine (pc1_w w.params u a x L k).sound X R1 hh (fun _ _=>rfl) (fun _ _ y hy=>by cases hy) ?_
 intro ad tk s2 R2 S2
 exact ⟨ad,tk,rfl,R2.pick [0,1] (by decide) (by simp),S1.trans S2⟩
theorem pc0_b : Lf P (Tf P) [a.lx,a.ld] [lxO a,lxDict P u a false x] [] (zBA fd660 ⟨[.ref a.lx],[]⟩) 0 zve (fun ad tk=>[(lxO a),(lxDict P u a false x)]) (fun ad tk=>(.val [(a294,(.ref a.lx))])):=.mk' 3 0 (by kernel_rfl)
theorem pc0_e : Lf P (Tf P) [a.lx,a.ld] [lxO a,lxDict P u a false x] [] (zNE fd660 660 [(a294,(.ref a.lx))]) 1 zve (fun ad tk=>[(lxO a),(lxDict P u a false x),(zD zt98 (y55 P tk a) 1)]) (fun ad tk=>(.val (env660 (ad 0)))):=.mk' 8 771 (by kernel_rfl)
noncomputable def pc0_fr (P : Params) (u : Nat->Tok) (a : AD) (x : LX) (tk : Nat->Tok) : Obj:=(zD zt98 (y55 P tk a) 1)
theorem pc0_call (u : 'f') (a : AD) (x : LX) : CallT w [a.lx,a.ld] [lxO a,lxDict w.params u a false x] (pc0_fr w.params u a x) env660 body660 660 ⟨[.ref a.lx],[]⟩:=callT _ _ (top660 w.params) rfl rfl co660 ge660 rfl (cr660 w.params) (pc0_b w.params u a x) (pc0_e w.params u a x)
theorem pc0_w : Lf P (Tf P) [a.lx,a.ld,L] [lxO a,lxDict P u a false x,pc0_fr P u a x k] [] (zEX body660 (env660 L)) 0 zve (fun ad tk=>[(lxO a),(lxDict P u a false x),(pc0_fr P u a x k)]) (fun ad tk=>(.val (.ret (.str a181 (u 36))))):=.mk' 23 40565129901238982089067378770179 (by kernel_rfl)
theorem pc0_con (u : 'f') (a : AD) (x : LX) (hD : D < recursionLimit) : Con w 'c' [a.lx,a.ld] (.call (.ref 660) ⟨[.ref a.lx],[]⟩) [lxO a,lxDict w.params u a false x] (xC fun f=>.str a181 (u 36)) D U:=by
 intro A h₀ s h1 h2 hh X R
 refine pc0_call u a x (Nat.lt_of_le_of_lt h1 hD) hh X R ?_
 intro L k s1 R1 S1
 rw [tw_execs]
 refine (pc0_w w.params u a x L k).sound X R1 hh (fun _ _=>rfl) (fun _ _ y hy=>by cases hy) ?_
 intro ad tk s2 R2 S2
 exact ⟨ad,tk,rfl,R2.pick [0,1] (by decide) (by simp),S1.trans S2⟩
end
section
variable (P : Params) (u : Nat->Tok) (a : AD) (x : LX) (n : Int) (L : Addr) (q : Bool) (es : Str) (eT : Tok) (nx : Str) (nT : Tok) (y : Str) (p : Int) (yT : Tok)
noncomputable def rt3 : Obj:=frm [en P a294 (u 0) (.ref a.lx),en P a426 (u 1) (.bool q),zE P a427 (u 2) es eT] 3
noncomputable def rt4 : Obj:=frm [en P a294 (u 0) (.ref a.lx),en P a426 (u 1) (.bool q),zE P a427 (u 2) es eT,zE P a428 (u 3) nx nT] 4
noncomputable def rtB : List Stmt:=sBody (sNth body697 2)
noncomputable def rtW (L : Addr) : Code:=.whileLoop (sTest (sNth body697 2)) rtB (sElse (sNth body697 2)) (env697 L)
noncomputable abbrev y2 (p0 : AD) (p1 : Addr):=[p0.lx,p0.ld,p0.si,p0.sd,p0.d1,p0.d2,p0.d3,p1]
noncomputable abbrev y22 (p0 : Nat->Tok):=xC fun f=>.str s!"();<>|&" (p0 36)
noncomputable abbrev y82 (p0 : Nat->Tok) (p1 : Str) (p2 : Params) (p3 : AD) (p4 : LX) (p5 : Int):=[(y22 p0),⟨0,fun _ f=>.ok (.ret (.str p1 (f 0))),fun _ f l=>[getO l 0,lxDict p2 p0 p3 true p4,getO l 2,siDict p2 p0 { p4 with pos:=p5,posT:=f 1 },getO l 4,getO l 5,getO l 6,getO l 7],fun _ _=>[],false⟩]
noncomputable abbrev y3:=sBody (sNth body697 2)
noncomputable abbrev y54 (p0 : AD):=zR 660 [(.ref p0.lx)]
theorem n13_rd : Lf P (Tf P) (y2 a L) [lxO a,lxDict P u a true x,siO a,siDict P u x,dqO 0 [],dqO 0 [],dqO n [],rt3 P u a q es eT] (y82 u y P a x p) (zEX [sNth y3 0] (env697 L)) 0 (fun ad tk=>[⟨(y54 a),0,[(lxO a),(lxDict P u a true x),(siO a),'i','b','b',(dqO n []),(rt3 P u a q es eT)],0,1,(y22 u)⟩,⟨(zR 540 [(.ref a.si),(zI 1 (tk 15))]),0,[(lxO a),(lxDict P u a true x),(siO a),'i','b','b',(dqO n []),(rt3 P u a q es eT)],0,0,⟨0,fun _ f=>.ok (.ret (.str y (f 0))),fun _ f l=>[getO l 0,lxDict P u a true x,getO l 2,siDict P u 'l',getO l 4,getO l 5,getO l 6,getO l 7],fun _ _=>[],false⟩⟩]) (fun ad tk=>[(lxO a),(lxDict P u a true x),(siO a),(sv 'i' 2 (.int p (tk 17))),'b','b',(dqO n []),(sn (rt3 P u a q es eT) (zE P a428 (tk 24) y (tk 16)))]) zvn:=.mk' 128 (zd 999 0x8081f04437373031201314101081717170707120131410138cf410108) (by kernel_rfl)
theorem n13_pb : Lf P (Tf P) (y2 a L) [lxO a,lxDict P u a true x,siO a,siDict P u x,dqO 0 [],dqO 0 [],dqO n [.str y yT],rt3 P u a q es eT] [(y22 u)] (zEX [sNth y3 0] (env697 L)) 0 (fun ad tk=>[⟨(y54 a),0,[(lxO a),(lxDict P u a true x),(siO a),'i','b','b',(dqO n [.str y yT]),(rt3 P u a q es eT)],0,1,(y22 u)⟩]) (fun ad tk=>[(lxO a),(lxDict P u a true x),(siO a),'i','b','b',(zF zt95 [.none,(.int (n + 1) 0)]),(sn (rt3 P u a q es eT) (zE P a428 (tk 15) y yT))]) zvn:=.mk' 115 (zd 999 0x808070707071717070707071201314101081717170707120131410138cf410108) (by kernel_rfl)
theorem n14_rd : Lf P (Tf P) (y2 a L) [lxO a,lxDict P u a true x,siO a,siDict P u x,dqO 0 [],dqO 0 [],dqO n [],rt4 P u a q es eT nx nT] (y82 u y P a x p) (zEX [sNth y3 0] (env697 L)) 0 (fun ad tk=>[⟨(y54 a),0,[(lxO a),(lxDict P u a true x),(siO a),'i','b','b',(dqO n []),(rt4 P u a q es eT nx nT)],0,1,(y22 u)⟩,⟨(zR 540 [(.ref a.si),(zI 1 (tk 15))]),0,[(lxO a),(lxDict P u a true x),(siO a),'i','b','b',(dqO n []),(rt4 P u a q es eT nx nT)],0,0,⟨0,fun _ f=>.ok (.ret (.str y (f 0))),fun _ f l=>[getO l 0,lxDict P u a true x,getO l 2,siDict P u 'l',getO l 4,getO l 5,getO l 6,getO l 7],fun _ _=>[],false⟩⟩]) (fun ad tk=>[(lxO a),(lxDict P u a true x),(siO a),(sv 'i' 2 (.int p (tk 17))),'b','b',(dqO n []),(sv (rt4 P u a q es eT nx nT) 3 (.str y (tk 16)))]) zvn:=.mk' 128 (zd 999 0x8081f04437373031201314101081717170707120131410138cf410108) (by kernel_rfl)
theorem n14_pb : Lf P (Tf P) (y2 a L) [lxO a,lxDict P u a true x,siO a,siDict P u x,dqO 0 [],dqO 0 [],dqO n [.str y yT],rt4 P u a q es eT nx nT] [(y22 u)] (zEX [sNth y3 0] (env697 L)) 0 (fun ad tk=>[⟨(y54 a),0,[(lxO a),(lxDict P u a true x),(siO a),'i','b','b',(dqO n [.str y yT]),(rt4 P u a q es eT nx nT)],0,1,(y22 u)⟩]) (fun ad tk=>[(lxO a),(lxDict P u a true x),(siO a),'i','b','b',(zF zt95 [.none,(.int (n + 1) 0)]),(sv (rt4 P u a q es eT nx nT) 3 (.str y yT))]) zvn:=.mk' 115 (zd 999 0x808070707071717070707071201314101081717170707120131410138cf410108) (by kernel_rfl)
noncomputable abbrev y5 (p0 : AD) (p1 : Addr):=[p0.lx,p0.ld,p0.si,p0.sd,p0.d1,p0.d2,p1]
noncomputable abbrev y51 (p0 : Nat->Tok):=xC fun f=>.str a181 (p0 36)
noncomputable abbrev y89 (p0 : Nat->Tok) (p1 : Str) (p2 : Params) (p3 : AD) (p4 : LX) (p5 : Int):=[(y51 p0),⟨0,fun _ f=>.ok (.ret (.str p1 (f 0))),fun _ f l=>[getO l 0,lxDict p2 p0 p3 false p4,getO l 2,siDict p2 p0 { p4 with pos:=p5,posT:=f 1 },getO l 4,getO l 5,getO l 6],fun _ _=>[],false⟩]
theorem n03_rd : Lf P (Tf P) (y5 a L) [lxO a,lxDict P u a false x,siO a,siDict P u x,dqO 0 [],dqO 0 [],rt3 P u a q es eT] (y89 u y P a x p) (zEX [sNth y3 0] (env697 L)) 0 (fun ad tk=>[⟨(y54 a),0,[(lxO a),(lxDict P u a false x),(siO a),'i','b','b',(rt3 P u a q es eT)],0,1,(y51 u)⟩,⟨(zR 540 [(.ref a.si),(zI 1 (tk 12))]),0,[(lxO a),(lxDict P u a false x),(siO a),'i','b','b',(rt3 P u a q es eT)],0,0,⟨0,fun _ f=>.ok (.ret (.str y (f 0))),fun _ f l=>[getO l 0,lxDict P u a false x,getO l 2,siDict P u 'l',getO l 4,getO l 5,getO l 6],fun _ _=>[],false⟩⟩]) (fun ad tk=>[(lxO a),(lxDict P u a false x),(siO a),(sv 'i' 2 (.int p (tk 14))),'b','b',(sn (rt3 P u a q es eT) (zE P a428 (tk 21) y (tk 13)))]) zvn:=.mk' 95 (zd 999 0x7071f0443737303120131410137cf410107) (by kernel_rfl)
theorem n04_rd : Lf P (Tf P) (y5 a L) [lxO a,lxDict P u a false x,siO a,siDict P u x,dqO 0 [],dqO 0 [],rt4 P u a q es eT nx nT] (y89 u y P a x p) (zEX [sNth y3 0] (env697 L)) 0 (fun ad tk=>[⟨(y54 a),0,[(lxO a),(lxDict P u a false x),(siO a),'i','b','b',(rt4 P u a q es eT nx nT)],0,1,(y51 u)⟩,⟨(zR 540 [(.ref a.si),(zI 1 (tk 12))]),0,[(lxO a),(lxDict P u a false x),(siO a),'i','b','b',(rt4 P u a q es eT nx nT)],0,0,⟨0,fun _ f=>.ok (.ret (.str y (f 0))),fun _ f l=>[getO l 0,lxDict P u a false x,getO l 2,siDict P u 'l',getO l 4,getO l 5,getO l 6],fun _ _=>[],false⟩⟩]) (fun ad tk=>[(lxO a),(lxDict P u a false x),(siO a),(sv 'i' 2 (.int p (tk 14))),'b','b',(sv (rt4 P u a q es eT nx nT) 3 (.str y (tk 13)))]) zvn:=.mk' 95 (zd 999 0x7071f0443737303120131410137cf410107) (by kernel_rfl)
end
section
variable (P : Params) (u : Nat->Tok) (a : AD) (x : LX) (n : Int) (L : Addr) (q : Bool) (es : Str) (eT : Tok) (nx : Str) (nT : Tok)
theorem l1_t : Lf P (Tf P) (y2 a L) [lxO a,lxDict P u a true x,siO a,siDict P u x,dqO 0 [],dqO 0 [],dqO n [],rt4 P u a q es eT nx nT] [xT] (zEX [sNth y3 1] (env697 L)) 0 (fun ad tk=>[(zX (zB zb5 [(.str nx nT),(.str a349 (tk 0))]) xT)]) (fun ad tk=>[(lxO a),(sv (lxDict P u a true x) 13 (.int (x.ln + 1) (tk 11))),(siO a),'i','b','b',(dqO n []),(rt4 P u a q es eT nx nT)]) zvn:=by revert P; refine Lf.rw1 60 (zd 999 0x2021231112141211201314101080f08) ?_ ?_ <;> kernel_rfl
theorem l1_f : Lf P (Tf P) (y2 a L) [lxO a,lxDict P u a true x,siO a,siDict P u x,dqO 0 [],dqO 0 [],dqO n [],rt4 P u a q es eT nx nT] [xF] (zEX [sNth y3 1] (env697 L)) 0 (fun ad tk=>[(zX (zB zb5 [(.str nx nT),(.str a349 (tk 0))]) xF)]) (fun ad tk=>[(lxO a),(lxDict P u a true x),(siO a),'i','b','b',(dqO n []),(rt4 P u a q es eT nx nT)]) zvn:=by revert P; refine Lf.rw1 10 65288 ?_ ?_ <;> kernel_rfl
theorem l0_t : Lf P (Tf P) (y5 a L) [lxO a,lxDict P u a false x,siO a,siDict P u x,dqO 0 [],dqO 0 [],rt4 P u a q es eT nx nT] [xT] (zEX [sNth y3 1] (env697 L)) 0 (fun ad tk=>[(zX (zB zb5 [(.str nx nT),(.str a349 (tk 0))]) xT)]) (fun ad tk=>[(lxO a),(sv (lxDict P u a false x) 13 (.int (x.ln + 1) (tk 11))),(siO a),'i','b','b',(rt4 P u a q es eT nx nT)]) zvn:=by revert P; refine Lf.rw1 60 (zd 999 0x2021231112141211201314101070f07) ?_ ?_ <;> kernel_rfl
theorem l0_f : Lf P (Tf P) (y5 a L) [lxO a,lxDict P u a false x,siO a,siDict P u x,dqO 0 [],dqO 0 [],rt4 P u a q es eT nx nT] [xF] (zEX [sNth y3 1] (env697 L)) 0 (fun ad tk=>[(zX (zB zb5 [(.str nx nT),(.str a349 (tk 0))]) xF)]) (fun ad tk=>[(lxO a),(lxDict P u a false x),(siO a),'i','b','b',(rt4 P u a q es eT nx nT)]) zvn:=by revert P; refine Lf.rw1 10 65287 ?_ ?_ <;> kernel_rfl
end
noncomputable abbrev y0 (p0 : LX) (p1 : Tok):={ p0 with st:=.str s!" " p1,tok:=a181 }
noncomputable abbrev y19 (p0 : Nat->Tok) : Value:=.str s!" " (p0 4)
noncomputable abbrev y31 (p0 : Tok) (p1 : Nat->Tok):=zX (zB zb5 [(.str s!" " p0),(y19 p1)]) xT
section
variable (P : Params) (u : Nat->Tok) (a : AD) (x : LX) (n : Int) (L : Addr) (q : Bool) (es : Str) (eT : Tok) (c : Nat) (nT sT : Tok) (z : Str) (e : Nat) (l : List Nat) (m : Nat) (y : Str) (p : Int) (z2 : Str)
theorem m1_sp_eof : Lf P (Tf P) (y2 a L) [lxO a,lxDict P u a true (y0 x sT),siO a,siDict P u (y0 x sT),dqO 0 [],dqO 0 [],dqO n [],rt4 P u a false es eT a181 nT] [xT] 'd' 0 (fun ad tk=>[(y31 sT tk)]) (fun ad tk=>[(lxO a),(sv (lxDict P u a true (y0 x sT)) 11 .none),(siO a),(siDict P u (y0 x sT)),'b','b',(dqO n []),(rt4 P u a false es eT a181 nT)]) (fun ad tk=>(.val .brk)):=by revert P; refine Lf.rw1 114 (zd 999 0x20212311121410138080f120131410108120131410128120131410108) ?_ ?_ <;> kernel_rfl
noncomputable abbrev y1 (p0 : Nat) (p1 : Tok) : Value:=.str ⟨⟨[p0]⟩⟩ p1
noncomputable abbrev y16 (p0 : Nat->Tok) (p1 : Nat) (p2 : Tok):=zB zb6 [(.str s!" \t\r\n" (p0 19)),(y1 p1 p2)]
theorem m1_sp_white : Lf P (Tf P) (y2 a L) [lxO a,lxDict P u a true (y0 x sT),siO a,siDict P u (y0 x sT),dqO 0 [],dqO 0 [],dqO n [],rt4 P u a false es eT ⟨⟨[c]⟩⟩ nT] [xT,xT] 'd' 0 (fun ad tk=>[(y31 sT tk),(zX (y16 u c nT) xT)]) (fun ad tk=>[(lxO a),(lxDict P u a true (y0 x sT)),(siO a),(siDict P u (y0 x sT)),'b','b',(dqO n []),'h']) (fun ad tk=>(.val .cont)):=by revert P; refine Lf.rw1 189 (zd 999 0x81201314101381201314101281201314101080f12013141010838080f120131410108120131410128120131410108) ?_ ?_ <;> kernel_rfl
noncomputable abbrev y32 (p0 : Nat->Tok) (p1 : Nat) (p2 : Tok):=zB zb6 [(.str s!"#" (p0 15)),(y1 p1 p2)]
theorem m1_sp_hash : Lf P (Tf P) (y2 a L) [lxO a,lxDict P u a true (y0 x sT),siO a,siDict P u (y0 x sT),dqO 0 [],dqO 0 [],dqO n [],rt4 P u a false es eT ⟨⟨[c]⟩⟩ nT] [xT,xF,xT,⟨0,fun _ f=>.ok (.ret (.str y (f 0))),fun _ f l=>[getO l 0,getO l 1,getO l 2,siDict P u 'l',getO l 4,getO l 5,getO l 6,getO l 7],fun _ _=>[],false⟩] 'd' 0 (fun ad tk=>[(y31 sT tk),(zX (y16 u c nT) xF),(zX (y32 u c nT) xT),⟨(zR 548 [(.ref a.si)]),0,[(lxO a),(lxDict P u a true (y0 x sT)),(siO a),(siDict P u (y0 x sT)),'b','b',(dqO n []),'h'],0,0,⟨0,fun _ f=>.ok (.ret (.str y (f 0))),fun _ f l=>[getO l 0,getO l 1,getO l 2,siDict P u 'l',getO l 4,getO l 5,getO l 6,getO l 7],fun _ _=>[],false⟩⟩]) (fun ad tk=>[(lxO a),(sv (lxDict P u a true (y0 x sT)) 13 (.int (x.ln + 1) (tk 44))),(siO a),(sv (siDict P u (y0 x sT)) 2 (.int p (tk 35))),'b','b',(dqO n []),'h']) zvn:=by revert P; refine Lf.rw1 233 (zd 999 0x2021231112141211201314101081f04437373031201314101080f120131410108080f12013141010838080f120131410108120131410128120131410108) ?_ ?_ <;> kernel_rfl
noncomputable abbrev y59 (p0 : Nat->Tok) : Value:=.str s!" \t\r\n" (p0 19)
noncomputable abbrev y39 (p0 : Tok) : Value:=.str s!"\\" p0
noncomputable abbrev y78 (p0 : Nat->Tok) : Value:=.str s!"#" (p0 15)
noncomputable abbrev y17 (p0 : Nat->Tok) (p1 : Tok):=zX (zB zb6 [(.str s!"\\" (p0 24)),(.str s!"\\" p1)]) xT
theorem m1_sp_esc : Lf P (Tf P) (y2 a L) [lxO a,lxDict P u a true (y0 x sT),siO a,siDict P u (y0 x sT),dqO 0 [],dqO 0 [],dqO n [],rt4 P u a false es eT s!"\\" nT] [xT,xF,xF,xT] 'd' 0 (fun ad tk=>[(y31 sT tk),(zX (zB zb6 [(y59 u),(y39 nT)]) xF),(zX (zB zb6 [(y78 u),(y39 nT)]) xF),(y17 u nT)]) (fun ad tk=>[(lxO a),(sv (lxDict P u a true (y0 x sT)) 11 (y39 nT)),(siO a),(siDict P u (y0 x sT)),'b','b',(dqO n []),(sv (rt4 P u a false es eT s!"\\" nT) 2 (.str a398 (tk 43)))]) zvn:=by revert P; refine Lf.rw1 216 (zd 999 0x202123111214101080808080f120131410108081201314101080f120131410108080f12013141010838080f120131410108120131410128120131410108) ?_ ?_ <;> kernel_rfl
noncomputable abbrev y36 (p0 : Nat->Tok) (p1 : Nat) (p2 : Tok):=zX (zB zb6 [(.str s!"\\" (p0 24)),(y1 p1 p2)]) xF
noncomputable abbrev y68 (p0 : LX) (p1 : Nat->Tok) (p2 : Nat) (p3 : Tok):=zB zb6 [(.str p0.wc (p1 17)),(y1 p2 p3)]
theorem m1_sp_word : Lf P (Tf P) (y2 a L) [lxO a,lxDict P u a true (y0 x sT),siO a,siDict P u (y0 x sT),dqO 0 [],dqO 0 [],dqO n [],rt4 P u a false es eT ⟨⟨[c]⟩⟩ nT] [xT,xF,xF,xF,xT] 'd' 0 (fun ad tk=>[(y31 sT tk),(zX (y16 u c nT) xF),(zX (y32 u c nT) xF),(y36 u c nT),(zX (y68 x u c nT) xT)]) (fun ad tk=>[(lxO a),(sv (sv (lxDict P u a true (y0 x sT)) 11 (.str a398 (tk 54))) 15 (y1 c nT)),(siO a),(siDict P u (y0 x sT)),'b','b',(dqO n []),'h']) zvn:=by revert P; refine Lf.rw1 259 (zd 999 0x20212311121410108020212311121410108080f120131410108080f120131410108081201314101080f120131410108080f12013141010838080f120131410108120131410128120131410108) ?_ ?_ <;> kernel_rfl
theorem m1_sp_punct : Lf P (Tf P) (y2 a L) [lxO a,lxDict P u a true (y0 x sT),siO a,siDict P u (y0 x sT),dqO 0 [],dqO 0 [],dqO n [],rt4 P u a false es eT ⟨⟨[c]⟩⟩ nT] [xT,xF,xF,xF,xF,(y22 u),xT] 'd' 0 (fun ad tk=>[(y31 sT tk),(zX (y16 u c nT) xF),(zX (y32 u c nT) xF),(y36 u c nT),(zX (y68 x u c nT) xF),⟨(y54 a),0,[(lxO a),(lxDict P u a true (y0 x sT)),(siO a),(siDict P u (y0 x sT)),'b','b',(dqO n []),'h'],0,1,(y22 u)⟩,(zX (zB zb6 [(.str s!"();<>|&" (u 36)),(y1 c nT)]) xT)]) (fun ad tk=>[(lxO a),(sv (sv (lxDict P u a true (y0 x sT)) 11 (.str s!"c" (tk 71))) 15 (y1 c nT)),(siO a),(siDict P u (y0 x sT)),'b','b',(dqO n []),'h']) zvn:=by revert P; refine Lf.rw1 289 (zd 999 0x20212311121410108020212311121410108080fcf410108080f120131410108080f120131410108081201314101080f120131410108080f12013141010838080f120131410108120131410128120131410108) ?_ ?_ <;> kernel_rfl
noncomputable abbrev y12 (p0 : Nat->Tok) : Value:=.str s!"'\"" (p0 22)
noncomputable abbrev y42 (p0 : Nat->Tok) (p1 : Tok):=zX (zB zb6 [(y12 p0),(.str s!"'" p1)]) xT
theorem m1_sp_sq : Lf P (Tf P) (y2 a L) [lxO a,lxDict P u a true (y0 x sT),siO a,siDict P u (y0 x sT),dqO 0 [],dqO 0 [],dqO n [],rt4 P u a false es eT s!"'" nT] [xT,xF,xF,xF,xF,(y22 u),xF,xT] 'd' 0 (fun ad tk=>[(y31 sT tk),(zX (zB zb6 [(y59 u),(.str s!"'" nT)]) xF),(zX (zB zb6 [(y78 u),(.str s!"'" nT)]) xF),(zX (zB zb6 [(.str s!"\\" (u 24)),(.str s!"'" nT)]) xF),(zX (zB zb6 [(.str x.wc (u 17)),(.str s!"'" nT)]) xF),⟨(y54 a),0,[(lxO a),(lxDict P u a true (y0 x sT)),(siO a),(siDict P u (y0 x sT)),'b','b',(dqO n []),(rt4 P u a false es eT s!"'" nT)],0,1,(y22 u)⟩,(zX (zB zb6 [(.str s!"();<>|&" (u 36)),(.str s!"'" nT)]) xF),(y42 u nT)]) (fun ad tk=>[(lxO a),(sv (lxDict P u a true (y0 x sT)) 11 (.str s!"'" nT)),(siO a),(siDict P u (y0 x sT)),'b','b',(dqO n []),(rt4 P u a false es eT s!"'" nT)]) zvn:=by revert P; refine Lf.rw1 306 (zd 999 0x20212311121410108081201314101080f120131410108080fcf410108080f120131410108080f120131410108081201314101080f120131410108080f12013141010838080f120131410108120131410128120131410108) ?_ ?_ <;> kernel_rfl
noncomputable abbrev y29 (p0 : Tok) : Value:=.str s!"\"" p0
noncomputable abbrev y25 (p0 : Nat->Tok) (p1 : Tok):=zX (zB zb6 [(y12 p0),(.str s!"\"" p1)]) xT
theorem m1_sp_dq : Lf P (Tf P) (y2 a L) [lxO a,lxDict P u a true (y0 x sT),siO a,siDict P u (y0 x sT),dqO 0 [],dqO 0 [],dqO n [],rt4 P u a false es eT s!"\"" nT] [xT,xF,xF,xF,xF,(y22 u),xF,xT] 'd' 0 (fun ad tk=>[(y31 sT tk),(zX (zB zb6 [(y59 u),(y29 nT)]) xF),(zX (zB zb6 [(y78 u),(y29 nT)]) xF),(zX (zB zb6 [(.str s!"\\" (u 24)),(y29 nT)]) xF),(zX (zB zb6 [(.str x.wc (u 17)),(y29 nT)]) xF),⟨(y54 a),0,[(lxO a),(lxDict P u a true (y0 x sT)),(siO a),(siDict P u (y0 x sT)),'b','b',(dqO n []),(rt4 P u a false es eT s!"\"" nT)],0,1,(y22 u)⟩,(zX (zB zb6 [(.str s!"();<>|&" (u 36)),(y29 nT)]) xF),(y25 u nT)]) (fun ad tk=>[(lxO a),(sv (lxDict P u a true (y0 x sT)) 11 (y29 nT)),(siO a),(siDict P u (y0 x sT)),'b','b',(dqO n []),(rt4 P u a false es eT s!"\"" nT)]) zvn:=by revert P; refine Lf.rw1 306 (zd 999 0x20212311121410108081201314101080f120131410108080fcf410108080f120131410108080f120131410108081201314101080f120131410108080f12013141010838080f120131410108120131410128120131410108) ?_ ?_ <;> kernel_rfl
noncomputable abbrev y8 (p0 : LX) (p1 : Tok):={ p0 with st:=.str a398 p1 }
noncomputable abbrev y10:=xC fun f=>.bool true
noncomputable abbrev y15 (p0 : Tok) (p1 : Nat->Tok):=zX (zB zb5 [(.str a398 p0),(.str s!" " (p1 4))]) xF
noncomputable abbrev y24 (p0 : Nat->Tok) (p1 : Tok):=zX (zB zb6 [(y12 p0),(.str a398 p1)]) xF
noncomputable abbrev y13 (p0 : Nat->Tok) (p1 : Tok):=zX (zB zb6 [(.str s!"\\" (p0 24)),(.str a398 p1)]) xF
noncomputable abbrev y27 (p0 : Nat->Addr) (p1 : Tok):=zB zb7 [(.ref (p0 0)),(.str a398 p1)]
noncomputable abbrev y9 (p0 : Nat->Tok) : List Value:=[(.str a398 (p0 34)),(.str s!"c" (p0 35))]
theorem m1_a_eof : Lf P (Tf P) (y2 a L) [lxO a,lxDict P u a true (y8 x sT),siO a,siDict P u (y8 x sT),dqO 0 [],dqO 0 [],dqO n [],rt4 P u a q es eT a181 nT] [xF,xF,xF,y10] 'd' 0 (fun ad tk=>[(y15 sT tk),(y24 u sT),(y13 u sT),⟨(y27 ad sT),1,[(lxO a),(lxDict P u a true (y8 x sT)),(siO a),(siDict P u (y8 x sT)),'b','b',(dqO n []),(rt4 P u a q es eT a181 nT),(zQ zt23 (y9 tk))],0,0,y10⟩]) (fun ad tk=>[(lxO a),(sv (lxDict P u a true (y8 x sT)) 11 .none),(siO a),(siDict P u (y8 x sT)),'b','b',(dqO n []),(rt4 P u a q es eT a181 nT)]) (fun ad tk=>(.val .brk)):=by revert P; refine Lf.rw1 224 (zd 999 0x20212311121410138080f09091201314101080f1201314101081201314101080f1201314101081201314101080f120131410108120131410128120131410108) ?_ ?_ <;> kernel_rfl
noncomputable abbrev y35 (p0 : Tok) (p1 : Nat->Tok):=zX (zB zb5 [(.str a398 p0),(.str s!"c" (p1 65))]) xF
noncomputable abbrev y48 (p0 : Nat->Tok) (p1 : Tok):=zX (zB zb6 [(y12 p0),(y39 p1)]) xF
theorem m1_a_esc : Lf P (Tf P) (y2 a L) [lxO a,lxDict P u a true (y8 x sT),siO a,siDict P u (y8 x sT),dqO 0 [],dqO 0 [],dqO n [],rt4 P u a q es eT s!"\\" nT] [xF,xF,xF,y10,xF,xF,xF,xF,xT] 'd' 0 (fun ad tk=>[(y15 sT tk),(y24 u sT),(y13 u sT),⟨(y27 ad sT),1,[(lxO a),(lxDict P u a true (y8 x sT)),(siO a),(siDict P u (y8 x sT)),'b','b',(dqO n []),(rt4 P u a q es eT s!"\\" nT),(zQ zt23 (y9 tk))],0,0,y10⟩,(zX (zB zb6 [(y59 u),(y39 nT)]) xF),(zX (zB zb6 [(y78 u),(y39 nT)]) xF),(y35 sT tk),(y48 u nT),(y17 u nT)]) (fun ad tk=>[(lxO a),(sv (lxDict P u a true (y8 x sT)) 11 (y39 nT)),(siO a),(siDict P u (y8 x sT)),'b','b',(dqO n []),(sv (rt4 P u a q es eT s!"\\" nT) 2 (.str a398 (tk 94)))]) zvn:=by revert P; refine Lf.rw1 394 (zd 999 0x202123111214101080808080f120131410108081201314101080f120131410108081201314101080f1201314101080f120131410108080f12013141010838080f09091201314101080f1201314101081201314101080f1201314101081201314101080f120131410108120131410128120131410108) ?_ ?_ <;> kernel_rfl
noncomputable abbrev y6 (p0 : Str):=xP fun f=>.str p0 (f 0)
noncomputable abbrev y65 (p0 : Nat->Tok) (p1 : Nat) (p2 : Tok):=zX (zB zb6 [(y12 p0),(y1 p1 p2)]) xF
noncomputable abbrev y45 (p0 : LX) (p1 : Nat) (p2 : Tok) (p3 : Str):=zX (zB zb8 [(.str p0.tok p0.tokT),(y1 p1 p2)]) (y6 p3)
theorem m1_a_word : Lf P (Tf P) (y2 a L) [lxO a,lxDict P u a true (y8 x sT),siO a,siDict P u (y8 x sT),dqO 0 [],dqO 0 [],dqO n [],rt4 P u a q es eT ⟨⟨[c]⟩⟩ nT] [xF,xF,xF,y10,xF,xF,xF,xF,xF,xT,(y6 z)] 'd' 0 (fun ad tk=>[(y15 sT tk),(y24 u sT),(y13 u sT),⟨(y27 ad sT),1,[(lxO a),(lxDict P u a true (y8 x sT)),(siO a),(siDict P u (y8 x sT)),'b','b',(dqO n []),'j',(zQ zt23 (y9 tk))],0,0,y10⟩,(zX (y16 u c nT) xF),(zX (y32 u c nT) xF),(y35 sT tk),(y65 u c nT),(y36 u c nT),(zX (y68 x u c nT) xT),(y45 x c nT z)]) (fun ad tk=>[(lxO a),(sv (lxDict P u a true (y8 x sT)) 15 (.str z (tk 104))),(siO a),(siDict P u (y8 x sT)),'b','b',(dqO n []),'j']) zvn:=by revert P; refine Lf.rw1 429 (zd 999 0x2021231112141010f081201314101080f120131410108080f120131410108081201314101080f120131410108081201314101080f1201314101080f120131410108080f12013141010838080f09091201314101080f1201314101081201314101080f1201314101081201314101080f120131410108120131410128120131410108) ?_ ?_ <;> kernel_rfl
noncomputable abbrev y86:=[xF,xF,xF,y10,xF,xF,xF,xT]
theorem m1_a_sq : Lf P (Tf P) (y2 a L) [lxO a,lxDict P u a true (y8 x sT),siO a,siDict P u (y8 x sT),dqO 0 [],dqO 0 [],dqO n [],rt4 P u a q es eT s!"'" nT] y86 'd' 0 (fun ad tk=>[(y15 sT tk),(y24 u sT),(y13 u sT),⟨(y27 ad sT),1,[(lxO a),(lxDict P u a true (y8 x sT)),(siO a),(siDict P u (y8 x sT)),'b','b',(dqO n []),(rt4 P u a q es eT s!"'" nT),(zQ zt23 (y9 tk))],0,0,y10⟩,(zX (zB zb6 [(y59 u),(.str s!"'" nT)]) xF),(zX (zB zb6 [(y78 u),(.str s!"'" nT)]) xF),(y35 sT tk),(y42 u nT)]) (fun ad tk=>[(lxO a),(sv (lxDict P u a true (y8 x sT)) 11 (.str s!"'" nT)),(siO a),(siDict P u (y8 x sT)),'b','b',(dqO n []),(rt4 P u a q es eT s!"'" nT)]) zvn:=by revert P; refine Lf.rw1 341 (zd 999 0x20212311121410108080f120131410108081201314101080f1201314101080f120131410108080f12013141010838080f09091201314101080f1201314101081201314101080f1201314101081201314101080f120131410108120131410128120131410108) ?_ ?_ <;> kernel_rfl
theorem m1_a_dq : Lf P (Tf P) (y2 a L) [lxO a,lxDict P u a true (y8 x sT),siO a,siDict P u (y8 x sT),dqO 0 [],dqO 0 [],dqO n [],rt4 P u a q es eT s!"\"" nT] y86 'd' 0 (fun ad tk=>[(y15 sT tk),(y24 u sT),(y13 u sT),⟨(y27 ad sT),1,[(lxO a),(lxDict P u a true (y8 x sT)),(siO a),(siDict P u (y8 x sT)),'b','b',(dqO n []),(rt4 P u a q es eT s!"\"" nT),(zQ zt23 (y9 tk))],0,0,y10⟩,(zX (zB zb6 [(y59 u),(y29 nT)]) xF),(zX (zB zb6 [(y78 u),(y29 nT)]) xF),(y35 sT tk),(y25 u nT)]) (fun ad tk=>[(lxO a),(sv (lxDict P u a true (y8 x sT)) 11 (y29 nT)),(siO a),(siDict P u (y8 x sT)),'b','b',(dqO n []),(rt4 P u a q es eT s!"\"" nT)]) zvn:=by revert P; refine Lf.rw1 341 (zd 999 0x20212311121410108080f120131410108081201314101080f1201314101080f120131410108080f12013141010838080f09091201314101080f1201314101081201314101080f1201314101081201314101080f120131410108120131410128120131410108) ?_ ?_ <;> kernel_rfl
noncomputable abbrev y4 (p0 : LX) (p1 : Tok) (p2 : Nat) (p3 : List Nat):={ p0 with st:=.str a398 p1,tok:=⟨⟨p2 :: p3⟩⟩ }
noncomputable abbrev y33 (p0 : Nat):=xP fun f=>.int (.ofNat (p0 + 1)) (f 0)
noncomputable abbrev y28 (p0 : Nat) (p1 : List Nat) (p2 : LX) (p3 : Nat):=zX (.builtin "len" ⟨[(.str ⟨⟨p0 :: p1⟩⟩ p2.tokT)],[]⟩) (xP fun f=>.int (.ofNat (p3 + 1)) (f 0))
theorem m1_a_white_t : Lf P (Tf P) (y2 a L) [lxO a,lxDict P u a true (y4 x sT e l),siO a,siDict P u (y4 x sT e l),dqO 0 [],dqO 0 [],dqO n [],rt4 P u a q es eT ⟨⟨[c]⟩⟩ nT] [xF,xF,xF,y10,xT,(y33 m)] 'd' 0 (fun ad tk=>[(y15 sT tk),(y24 u sT),(y13 u sT),⟨(y27 ad sT),1,[(lxO a),(lxDict P u a true (y4 x sT e l)),(siO a),(siDict P u (y4 x sT e l)),'b','b',(dqO n []),'j',(zQ zt23 (y9 tk))],0,0,y10⟩,(zX (y16 u c nT) xT),(y28 e l x m)]) (fun ad tk=>[(lxO a),(sv (lxDict P u a true (y4 x sT e l)) 11 (.str s!" " (tk 57))),(siO a),(siDict P u (y4 x sT e l)),'b','b',(dqO n []),'j']) (fun ad tk=>(.val .brk)):=by revert P; refine Lf.rw1 297 (zd 999 0xf1201314101080202123111214101281201314101080f12013141010838080f09091201314101080f1201314101081201314101080f1201314101081201314101080f120131410108120131410128120131410108) ?_ ?_ <;> kernel_rfl
noncomputable abbrev y11 (p0 : LX) (p1 : Tok):={ p0 with st:=.str a398 p1,tok:=a181 }
theorem m1_a_white_q : Lf P (Tf P) (y2 a L) [lxO a,lxDict P u a true (y11 x sT),siO a,siDict P u (y11 x sT),dqO 0 [],dqO 0 [],dqO n [],rt4 P u a true es eT ⟨⟨[c]⟩⟩ nT] [xF,xF,xF,y10,xT] 'd' 0 (fun ad tk=>[(y15 sT tk),(y24 u sT),(y13 u sT),⟨(y27 ad sT),1,[(lxO a),(lxDict P u a true (y11 x sT)),(siO a),(siDict P u (y11 x sT)),'b','b',(dqO n []),(rt4 P u a true es eT ⟨⟨[c]⟩⟩ nT),(zQ zt23 (y9 tk))],0,0,y10⟩,(zX (y16 u c nT) xT)]) (fun ad tk=>[(lxO a),(sv (lxDict P u a true (y11 x sT)) 11 (.str s!" " (tk 57))),(siO a),(siDict P u (y11 x sT)),'b','b',(dqO n []),(rt4 P u a true es eT ⟨⟨[c]⟩⟩ nT)]) (fun ad tk=>(.val .brk)):=by revert P; refine Lf.rw1 327 (zd 999 0x81201314101381201314101080202123111214101281201314101080f12013141010838080f09091201314101080f1201314101081201314101080f1201314101081201314101080f120131410108120131410128120131410108) ?_ ?_ <;> kernel_rfl
theorem m1_a_hash_t : Lf P (Tf P) (y2 a L) [lxO a,lxDict P u a true (y4 x sT e l),siO a,siDict P u (y4 x sT e l),dqO 0 [],dqO 0 [],dqO n [],rt4 P u a q es eT ⟨⟨[c]⟩⟩ nT] [xF,xF,xF,y10,xF,xT,⟨0,fun _ f=>.ok (.ret (.str y (f 0))),fun _ f l=>[getO l 0,getO l 1,getO l 2,siDict P u 'l',getO l 4,getO l 5,getO l 6,getO l 7,getO l 8],fun _ _=>[],false⟩,(y33 m)] 'd' 0 (fun ad tk=>[(y15 sT tk),(y24 u sT),(y13 u sT),⟨(y27 ad sT),1,[(lxO a),(lxDict P u a true (y4 x sT e l)),(siO a),(siDict P u (y4 x sT e l)),'b','b',(dqO n []),'j',(zQ zt23 (y9 tk))],0,0,y10⟩,(zX (y16 u c nT) xF),(zX (y32 u c nT) xT),⟨(zR 548 [(.ref a.si)]),1,[(lxO a),(lxDict P u a true (y4 x sT e l)),(siO a),(siDict P u (y4 x sT e l)),'b','b',(dqO n []),'j',(zQ zt23 (y9 tk))],0,0,⟨0,fun _ f=>.ok (.ret (.str y (f 0))),fun _ f l=>[getO l 0,getO l 1,getO l 2,siDict P u 'l',getO l 4,getO l 5,getO l 6,getO l 7,getO l 8],fun _ _=>[],false⟩⟩,(y28 e l x m)]) (fun ad tk=>[(lxO a),(sv (sv (lxDict P u a true (y4 x sT e l)) 11 (.str s!" " (tk 79))) 13 (.int (x.ln + 1) (tk 75))),(siO a),(sv (siDict P u (y4 x sT e l)) 2 (.int p (tk 66))),'b','b',(dqO n []),'j']) (fun ad tk=>(.val .brk)):=by revert P; refine Lf.rw1 415 (zd 999 0xf12013141010802021231112141010812013141010802021231112141211201314101081f04437373031201314101080f120131410108080f12013141010838080f09091201314101080f1201314101081201314101080f1201314101081201314101080f120131410108120131410128120131410108) ?_ ?_ <;> kernel_rfl
theorem m1_a_hash_q : Lf P (Tf P) (y2 a L) [lxO a,lxDict P u a true (y11 x sT),siO a,siDict P u (y11 x sT),dqO 0 [],dqO 0 [],dqO n [],rt4 P u a true es eT ⟨⟨[c]⟩⟩ nT] [xF,xF,xF,y10,xF,xT,⟨0,fun _ f=>.ok (.ret (.str y (f 0))),fun _ f l=>[getO l 0,getO l 1,getO l 2,siDict P u 'l',getO l 4,getO l 5,getO l 6,getO l 7,getO l 8],fun _ _=>[],false⟩] 'd' 0 (fun ad tk=>[(y15 sT tk),(y24 u sT),(y13 u sT),⟨(y27 ad sT),1,[(lxO a),(lxDict P u a true (y11 x sT)),(siO a),(siDict P u (y11 x sT)),'b','b',(dqO n []),(rt4 P u a true es eT ⟨⟨[c]⟩⟩ nT),(zQ zt23 (y9 tk))],0,0,y10⟩,(zX (y16 u c nT) xF),(zX (y32 u c nT) xT),⟨(zR 548 [(.ref a.si)]),1,[(lxO a),(lxDict P u a true (y11 x sT)),(siO a),(siDict P u (y11 x sT)),'b','b',(dqO n []),(rt4 P u a true es eT ⟨⟨[c]⟩⟩ nT),(zQ zt23 (y9 tk))],0,0,⟨0,fun _ f=>.ok (.ret (.str y (f 0))),fun _ f l=>[getO l 0,getO l 1,getO l 2,siDict P u 'l',getO l 4,getO l 5,getO l 6,getO l 7,getO l 8],fun _ _=>[],false⟩⟩]) (fun ad tk=>[(lxO a),(sv (sv (lxDict P u a true (y11 x sT)) 11 (.str s!" " (tk 79))) 13 (.int (x.ln + 1) (tk 75))),(siO a),(sv (siDict P u (y11 x sT)) 2 (.int p (tk 66))),'b','b',(dqO n []),(rt4 P u a true es eT ⟨⟨[c]⟩⟩ nT)]) (fun ad tk=>(.val .brk)):=by revert P; refine Lf.rw1 445 (zd 999 0x812013141013812013141010802021231112141010812013141010802021231112141211201314101081f04437373031201314101080f120131410108080f12013141010838080f09091201314101080f1201314101081201314101080f1201314101081201314101080f120131410108120131410128120131410108) ?_ ?_ <;> kernel_rfl
theorem m1_a_punct_t : Lf P (Tf P) (y2 a L) [lxO a,lxDict P u a true (y4 x sT e l),siO a,siDict P u (y4 x sT e l),dqO 0 [],dqO 0 [],dqO n [],rt4 P u a q es eT ⟨⟨[c]⟩⟩ nT] [xF,xF,xF,y10,xF,xF,xF,xF,xF,xF,xF,(y22 u),(y33 m)] 'd' 0 (fun ad tk=>[(y15 sT tk),(y24 u sT),(y13 u sT),⟨(y27 ad sT),1,[(lxO a),(lxDict P u a true (y4 x sT e l)),(siO a),(siDict P u (y4 x sT e l)),'b','b',(dqO n []),'j',(zQ zt23 (y9 tk))],0,0,y10⟩,(zX (y16 u c nT) xF),(zX (y32 u c nT) xF),(y35 sT tk),(y65 u c nT),(y36 u c nT),(zX (y68 x u c nT) xF),(y65 u c nT),⟨(y54 a),1,[(lxO a),(lxDict P u a true (y4 x sT e l)),(siO a),(siDict P u (y4 x sT e l)),'b','b',(dqO n []),'j',(zQ zt23 (y9 tk))],0,1,(y22 u)⟩,(y28 e l x m)]) (fun ad tk=>[(lxO a),(sv (lxDict P u a true (y4 x sT e l)) 11 (.str s!" " (tk 127))),(siO a),(siDict P u (y4 x sT e l)),'b','b',(zF zt95 [.none,(.int (n + 1) 0),(y1 c nT)]),'j']) (fun ad tk=>(.val .brk)):=by revert P; refine Lf.rw1 574 (zd 999 0xf1201314101080202123111214101281201314101080707070717170807070707120131410138cf4101081201314101080f120131410108080f120131410108080f120131410108081201314101080f120131410108081201314101080f1201314101080f120131410108080f12013141010838080f09091201314101080f1201314101081201314101080f1201314101081201314101080f120131410108120131410128120131410108) ?_ ?_ <;> kernel_rfl
theorem m1_a_punct_q : Lf P (Tf P) (y2 a L) [lxO a,lxDict P u a true (y11 x sT),siO a,siDict P u (y11 x sT),dqO 0 [],dqO 0 [],dqO n [],rt4 P u a true es eT ⟨⟨[c]⟩⟩ nT] [xF,xF,xF,y10,xF,xF,xF,xF,xF,xF,xF,(y22 u)] 'd' 0 (fun ad tk=>[(y15 sT tk),(y24 u sT),(y13 u sT),⟨(y27 ad sT),1,[(lxO a),(lxDict P u a true (y11 x sT)),(siO a),(siDict P u (y11 x sT)),'b','b',(dqO n []),(rt4 P u a true es eT ⟨⟨[c]⟩⟩ nT),(zQ zt23 (y9 tk))],0,0,y10⟩,(zX (y16 u c nT) xF),(zX (y32 u c nT) xF),(y35 sT tk),(y65 u c nT),(y36 u c nT),(zX (y68 x u c nT) xF),(y65 u c nT),⟨(y54 a),1,[(lxO a),(lxDict P u a true (y11 x sT)),(siO a),(siDict P u (y11 x sT)),'b','b',(dqO n []),(rt4 P u a true es eT ⟨⟨[c]⟩⟩ nT),(zQ zt23 (y9 tk))],0,1,(y22 u)⟩]) (fun ad tk=>[(lxO a),(sv (lxDict P u a true (y11 x sT)) 11 (.str s!" " (tk 127))),(siO a),(siDict P u (y11 x sT)),'b','b',(zF zt95 [.none,(.int (n + 1) 0),(y1 c nT)]),(rt4 P u a true es eT ⟨⟨[c]⟩⟩ nT)]) (fun ad tk=>(.val .brk)):=by revert P; refine Lf.rw1 604 (zd 999 0x81201314101381201314101080202123111214101281201314101080707070717170807070707120131410138cf4101081201314101080f120131410108080f120131410108080f120131410108081201314101080f120131410108081201314101080f1201314101080f120131410108080f12013141010838080f09091201314101080f1201314101081201314101080f1201314101081201314101080f120131410108120131410128120131410108) ?_ ?_ <;> kernel_rfl
noncomputable abbrev y37 (p0 : LX) (p1 : Tok):={ p0 with st:=.str s!"c" p1 }
noncomputable abbrev y84 (p0 : Tok) (p1 : Nat->Tok):=zX (zB zb5 [(.str s!"c" p0),(y19 p1)]) xF
noncomputable abbrev y85 (p0 : Nat->Tok) (p1 : Tok):=zX (zB zb6 [(y12 p0),(.str s!"c" p1)]) xF
noncomputable abbrev y64 (p0 : Nat->Tok) (p1 : Tok):=zX (zB zb6 [(.str s!"\\" (p0 24)),(.str s!"c" p1)]) xF
noncomputable abbrev y96 (p0 : Nat->Addr) (p1 : Tok):=zB zb7 [(.ref (p0 0)),(.str s!"c" p1)]
theorem m1_c_eof : Lf P (Tf P) (y2 a L) [lxO a,lxDict P u a true (y37 x sT),siO a,siDict P u (y37 x sT),dqO 0 [],dqO 0 [],dqO n [],rt4 P u a false es eT a181 nT] [xF,xF,xF,y10] 'd' 0 (fun ad tk=>[(y84 sT tk),(y85 u sT),(y64 u sT),⟨(y96 ad sT),1,[(lxO a),(lxDict P u a true (y37 x sT)),(siO a),(siDict P u (y37 x sT)),'b','b',(dqO n []),(rt4 P u a false es eT a181 nT),(zQ zt23 (y9 tk))],0,0,y10⟩]) (fun ad tk=>[(lxO a),(sv (lxDict P u a true (y37 x sT)) 11 .none),(siO a),(siDict P u (y37 x sT)),'b','b',(dqO n []),(rt4 P u a false es eT a181 nT)]) (fun ad tk=>(.val .brk)):=by revert P; refine Lf.rw1 224 (zd 999 0x20212311121410138080f09091201314101080f1201314101081201314101080f1201314101081201314101080f120131410108120131410128120131410108) ?_ ?_ <;> kernel_rfl
theorem m1_c_punct : Lf P (Tf P) (y2 a L) [lxO a,lxDict P u a true (y37 x sT),siO a,siDict P u (y37 x sT),dqO 0 [],dqO 0 [],dqO n [],rt4 P u a false es eT ⟨⟨[c]⟩⟩ nT] [xF,xF,xF,y10,xF,xF,xT,(y22 u),xT,(y6 z)] 'd' 0 (fun ad tk=>[(y84 sT tk),(y85 u sT),(y64 u sT),⟨(y96 ad sT),1,[(lxO a),(lxDict P u a true (y37 x sT)),(siO a),(siDict P u (y37 x sT)),'b','b',(dqO n []),'h',(zQ zt23 (y9 tk))],0,0,y10⟩,(zX (y16 u c nT) xF),(zX (y32 u c nT) xF),(zX (zB zb5 [(.str s!"c" sT),(.str s!"c" (tk 65))]) xT),⟨(y54 a),1,[(lxO a),(lxDict P u a true (y37 x sT)),(siO a),(siDict P u (y37 x sT)),'b','b',(dqO n []),'h',(zQ zt23 (y9 tk))],0,1,(y22 u)⟩,(zX (zB zb6 [(.str s!"();<>|&" (u 36)),(y1 c nT)]) xT),(y45 x c nT z)]) (fun ad tk=>[(lxO a),(sv (lxDict P u a true (y37 x sT)) 15 (.str z (tk 92))),(siO a),(siDict P u (y37 x sT)),'b','b',(dqO n []),'h']) zvn:=by revert P; refine Lf.rw1 347 (zd 999 0x2021231112141010f081201314101080fcf410108080f1201314101080f120131410108080f12013141010838080f09091201314101080f1201314101081201314101080f1201314101081201314101080f120131410108120131410128120131410108) ?_ ?_ <;> kernel_rfl
theorem m1_c_other : Lf P (Tf P) (y2 a L) [lxO a,lxDict P u a true (y37 x sT),siO a,siDict P u (y37 x sT),dqO 0 [],dqO 0 [],dqO n [],rt4 P u a false es eT ⟨⟨[c]⟩⟩ nT] [xF,xF,xF,y10,xF,xF,xT,(y22 u),xF,xF] 'd' 0 (fun ad tk=>[(y84 sT tk),(y85 u sT),(y64 u sT),⟨(y96 ad sT),1,[(lxO a),(lxDict P u a true (y37 x sT)),(siO a),(siDict P u (y37 x sT)),'b','b',(dqO n []),'h',(zQ zt23 (y9 tk))],0,0,y10⟩,(zX (y16 u c nT) xF),(zX (y32 u c nT) xF),(zX (zB zb5 [(.str s!"c" sT),(.str s!"c" (tk 65))]) xT),⟨(y54 a),1,[(lxO a),(lxDict P u a true (y37 x sT)),(siO a),(siDict P u (y37 x sT)),'b','b',(dqO n []),'h',(zQ zt23 (y9 tk))],0,1,(y22 u)⟩,(zX (zB zb6 [(.str s!"();<>|&" (u 36)),(y1 c nT)]) xF),(zX (y16 u c nT) xF)]) (fun ad tk=>[(lxO a),(sv (lxDict P u a true (y37 x sT)) 11 (.str s!" " (tk 101))),(siO a),(siDict P u (y37 x sT)),'b','b',(zF zt95 [.none,(.int (n + 1) 0),(y1 c nT)]),'h']) (fun ad tk=>(.val .brk)):=by revert P; refine Lf.rw1 390 (zd 999 0x2021231112141010807070707171708070707071201314101080f120131410108080fcf410108080f1201314101080f120131410108080f12013141010838080f09091201314101080f1201314101081201314101080f1201314101081201314101080f120131410108120131410128120131410108) ?_ ?_ <;> kernel_rfl
noncomputable abbrev y30 (p0 : LX) (p1 : Tok) (p2 : Nat) (p3 : List Nat):={ p0 with st:=.str s!"c" p1,tok:=⟨⟨p2 :: p3⟩⟩ }
theorem m1_c_white_t : Lf P (Tf P) (y2 a L) [lxO a,lxDict P u a true (y30 x sT e l),siO a,siDict P u (y30 x sT e l),dqO 0 [],dqO 0 [],dqO n [],rt4 P u a false es eT ⟨⟨[c]⟩⟩ nT] [xF,xF,xF,y10,xT,(y33 m)] 'd' 0 (fun ad tk=>[(y84 sT tk),(y85 u sT),(y64 u sT),⟨(y96 ad sT),1,[(lxO a),(lxDict P u a true (y30 x sT e l)),(siO a),(siDict P u (y30 x sT e l)),'b','b',(dqO n []),'h',(zQ zt23 (y9 tk))],0,0,y10⟩,(zX (y16 u c nT) xT),(y28 e l x m)]) (fun ad tk=>[(lxO a),(sv (lxDict P u a true (y30 x sT e l)) 11 (.str s!" " (tk 57))),(siO a),(siDict P u (y30 x sT e l)),'b','b',(dqO n []),'h']) (fun ad tk=>(.val .brk)):=by revert P; refine Lf.rw1 297 (zd 999 0xf1201314101080202123111214101281201314101080f12013141010838080f09091201314101080f1201314101081201314101080f1201314101081201314101080f120131410108120131410128120131410108) ?_ ?_ <;> kernel_rfl
theorem m1_c_hash_t : Lf P (Tf P) (y2 a L) [lxO a,lxDict P u a true (y30 x sT e l),siO a,siDict P u (y30 x sT e l),dqO 0 [],dqO 0 [],dqO n [],rt4 P u a false es eT ⟨⟨[c]⟩⟩ nT] [xF,xF,xF,y10,xF,xT,⟨0,fun _ f=>.ok (.ret (.str y (f 0))),fun _ f l=>[getO l 0,getO l 1,getO l 2,siDict P u 'l',getO l 4,getO l 5,getO l 6,getO l 7,getO l 8],fun _ _=>[],false⟩,(y33 m)] 'd' 0 (fun ad tk=>[(y84 sT tk),(y85 u sT),(y64 u sT),⟨(y96 ad sT),1,[(lxO a),(lxDict P u a true (y30 x sT e l)),(siO a),(siDict P u (y30 x sT e l)),'b','b',(dqO n []),'h',(zQ zt23 (y9 tk))],0,0,y10⟩,(zX (y16 u c nT) xF),(zX (y32 u c nT) xT),⟨(zR 548 [(.ref a.si)]),1,[(lxO a),(lxDict P u a true (y30 x sT e l)),(siO a),(siDict P u (y30 x sT e l)),'b','b',(dqO n []),'h',(zQ zt23 (y9 tk))],0,0,⟨0,fun _ f=>.ok (.ret (.str y (f 0))),fun _ f l=>[getO l 0,getO l 1,getO l 2,siDict P u 'l',getO l 4,getO l 5,getO l 6,getO l 7,getO l 8],fun _ _=>[],false⟩⟩,(y28 e l x m)]) (fun ad tk=>[(lxO a),(sv (sv (lxDict P u a true (y30 x sT e l)) 11 (.str s!" " (tk 79))) 13 (.int (x.ln + 1) (tk 75))),(siO a),(sv (siDict P u (y30 x sT e l)) 2 (.int p (tk 66))),'b','b',(dqO n []),'h']) (fun ad tk=>(.val .brk)):=by revert P; refine Lf.rw1 415 (zd 999 0xf12013141010802021231112141010812013141010802021231112141211201314101081f04437373031201314101080f120131410108080f12013141010838080f09091201314101080f1201314101081201314101080f1201314101081201314101080f120131410108120131410128120131410108) ?_ ?_ <;> kernel_rfl
noncomputable abbrev y20 (p0 : LX) (p1 : Tok):={ p0 with st:=.str s!"'" p1 }
noncomputable abbrev y57 (p0 : Tok) (p1 : Nat->Tok):=zX (zB zb5 [(.str s!"'" p0),(y19 p1)]) xF
theorem m1_sq_sq : Lf P (Tf P) (y2 a L) [lxO a,lxDict P u a true (y20 x sT),siO a,siDict P u (y20 x sT),dqO 0 [],dqO 0 [],dqO n [],rt4 P u a q es eT s!"'" nT] [xF,xT,xT] 'd' 0 (fun ad tk=>[(y57 sT tk),(y42 u sT),(zX (zB zb5 [(.str s!"'" nT),(.str s!"'" sT)]) xT)]) (fun ad tk=>[(lxO a),(sv (lxDict P u a true (y20 x sT)) 11 (.str a398 (tk 36))),(siO a),(siDict P u (y20 x sT)),'b','b',(dqO n []),(sv (rt4 P u a q es eT s!"'" nT) 1 (.bool true))]) zvn:=by revert P; refine Lf.rw1 209 (zd 999 0x202123111214101081201314101080f120131410108380808080f1201314101081201314101080f120131410108120131410128120131410108) ?_ ?_ <;> kernel_rfl
noncomputable abbrev y62 (p0 : LX) (p1 : Tok) (p2 : Str):=zX (zB zb8 [(.str p0.tok p0.tokT),(y39 p1)]) (y6 p2)
theorem m1_sq_esc : Lf P (Tf P) (y2 a L) [lxO a,lxDict P u a true (y20 x sT),siO a,siDict P u (y20 x sT),dqO 0 [],dqO 0 [],dqO n [],rt4 P u a q es eT s!"\\" nT] [xF,xT,xF,xT,xF,(y6 z)] 'd' 0 (fun ad tk=>[(y57 sT tk),(y42 u sT),(zX (zB zb5 [(y39 nT),(.str s!"'" sT)]) xF),(y17 u nT),(zX (zB zb6 [(.str s!"\"" (u 26)),(.str s!"'" sT)]) xF),(y62 x nT z)]) (fun ad tk=>[(lxO a),(sv (lxDict P u a true (y20 x sT)) 15 (.str z (tk 56))),(siO a),(siDict P u (y20 x sT)),'b','b',(dqO n []),(sv (rt4 P u a q es eT s!"\\" nT) 1 (.bool true))]) zvn:=by revert P; refine Lf.rw1 293 (zd 999 0x2021231112141010f081201314101080f1201314101081201314101080f120131410108081201314101080f120131410108380808080f1201314101081201314101080f120131410108120131410128120131410108) ?_ ?_ <;> kernel_rfl
theorem m1_sq_any : Lf P (Tf P) (y2 a L) [lxO a,lxDict P u a true (y20 x sT),siO a,siDict P u (y20 x sT),dqO 0 [],dqO 0 [],dqO n [],rt4 P u a q es eT ⟨⟨[c]⟩⟩ nT] [xF,xT,xF,xF,(y6 z)] 'd' 0 (fun ad tk=>[(y57 sT tk),(y42 u sT),(zX (zB zb5 [(y1 c nT),(.str s!"'" sT)]) xF),(y36 u c nT),(y45 x c nT z)]) (fun ad tk=>[(lxO a),(sv (lxDict P u a true (y20 x sT)) 15 (.str z (tk 46))),(siO a),(siDict P u (y20 x sT)),'b','b',(dqO n []),(sv 'j' 1 (.bool true))]) zvn:=by revert P; refine Lf.rw1 253 (zd 999 0x2021231112141010f081201314101080f120131410108081201314101080f120131410108380808080f1201314101081201314101080f120131410108120131410128120131410108) ?_ ?_ <;> kernel_rfl
noncomputable abbrev y18 (p0 : LX) (p1 : Tok):={ p0 with st:=.str s!"\"" p1 }
noncomputable abbrev y66 (p0 : Tok) (p1 : Nat->Tok):=zX (zB zb5 [(y29 p0),(y19 p1)]) xF
theorem m1_dq_dq : Lf P (Tf P) (y2 a L) [lxO a,lxDict P u a true (y18 x sT),siO a,siDict P u (y18 x sT),dqO 0 [],dqO 0 [],dqO n [],rt4 P u a q es eT s!"\"" nT] [xF,xT,xT] 'd' 0 (fun ad tk=>[(y66 sT tk),(y25 u sT),(zX (zB zb5 [(y29 nT),(y29 sT)]) xT)]) (fun ad tk=>[(lxO a),(sv (lxDict P u a true (y18 x sT)) 11 (.str a398 (tk 36))),(siO a),(siDict P u (y18 x sT)),'b','b',(dqO n []),(sv (rt4 P u a q es eT s!"\"" nT) 1 (.bool true))]) zvn:=by revert P; refine Lf.rw1 209 (zd 999 0x202123111214101081201314101080f120131410108380808080f1201314101081201314101080f120131410108120131410128120131410108) ?_ ?_ <;> kernel_rfl
theorem m1_dq_esc : Lf P (Tf P) (y2 a L) [lxO a,lxDict P u a true (y18 x sT),siO a,siDict P u (y18 x sT),dqO 0 [],dqO 0 [],dqO n [],rt4 P u a q es eT s!"\\" nT] [xF,xT,xF,xT,xT] 'd' 0 (fun ad tk=>[(y66 sT tk),(y25 u sT),(zX (zB zb5 [(y39 nT),(y29 sT)]) xF),(y17 u nT),(zX (zB zb6 [(.str s!"\"" (u 26)),(y29 sT)]) xT)]) (fun ad tk=>[(lxO a),(sv (lxDict P u a true (y18 x sT)) 11 (y39 nT)),(siO a),(siDict P u (y18 x sT)),'b','b',(dqO n []),(sv (sv (rt4 P u a q es eT s!"\\" nT) 1 (.bool true)) 2 (y29 sT))]) zvn:=by revert P; refine Lf.rw1 300 (zd 999 0x202123111214101080808081201314101080f1201314101081201314101080f120131410108081201314101080f120131410108380808080f1201314101081201314101080f120131410108120131410128120131410108) ?_ ?_ <;> kernel_rfl
theorem m1_dq_any : Lf P (Tf P) (y2 a L) [lxO a,lxDict P u a true (y18 x sT),siO a,siDict P u (y18 x sT),dqO 0 [],dqO 0 [],dqO n [],rt4 P u a q es eT ⟨⟨[c]⟩⟩ nT] [xF,xT,xF,xF,(y6 z)] 'd' 0 (fun ad tk=>[(y66 sT tk),(y25 u sT),(zX (zB zb5 [(y1 c nT),(y29 sT)]) xF),(y36 u c nT),(y45 x c nT z)]) (fun ad tk=>[(lxO a),(sv (lxDict P u a true (y18 x sT)) 15 (.str z (tk 46))),(siO a),(siDict P u (y18 x sT)),'b','b',(dqO n []),(sv 'j' 1 (.bool true))]) zvn:=by revert P; refine Lf.rw1 253 (zd 999 0x2021231112141010f081201314101080f120131410108081201314101080f120131410108380808080f1201314101081201314101080f120131410108120131410128120131410108) ?_ ?_ <;> kernel_rfl
noncomputable abbrev y14 (p0 : LX) (p1 : Tok):={ p0 with st:=.str s!"\\" p1 }
noncomputable abbrev y56 (p0 : Tok) (p1 : Nat->Tok):=zX (zB zb5 [(y39 p0),(y19 p1)]) xF
theorem m1_esc_any : Lf P (Tf P) (y2 a L) [lxO a,lxDict P u a true (y14 x sT),siO a,siDict P u (y14 x sT),dqO 0 [],dqO 0 [],dqO n [],rt4 P u a q a398 eT ⟨⟨[c]⟩⟩ nT] [xF,xF,xT,xF,(y6 z)] 'd' 0 (fun ad tk=>[(y56 sT tk),(y48 u sT),(y17 u sT),(y24 u eT),(y45 x c nT z)]) (fun ad tk=>[(lxO a),(sv (sv (lxDict P u a true (y14 x sT)) 11 (.str a398 eT)) 15 (.str z (tk 45))),(siO a),(siDict P u (y14 x sT)),'b','b',(dqO n []),(rt4 P u a q a398 eT ⟨⟨[c]⟩⟩ nT)]) zvn:=by revert P; refine Lf.rw1 270 (zd 999 0x202123111214101080802021231112141010f081201314101080f12013141010838080f1201314101081201314101080f1201314101081201314101080f120131410108120131410128120131410108) ?_ ?_ <;> kernel_rfl
noncomputable abbrev y91 (p0 : LX) : Value:=.str p0.tok p0.tokT
theorem m1_esc_dq_d : Lf P (Tf P) (y2 a L) [lxO a,lxDict P u a true (y14 x sT),siO a,siDict P u (y14 x sT),dqO 0 [],dqO 0 [],dqO n [],rt4 P u a q s!"\"" eT s!"\"" nT] [xF,xF,xT,xT,xT,xF,(y6 z)] 'd' 0 (fun ad tk=>[(y56 sT tk),(y48 u sT),(y17 u sT),(y25 u eT),(zX (zB zb9 [(y29 nT),(y39 sT)]) xT),(zX (zB zb9 [(y29 nT),(y29 eT)]) xF),(zX (zB zb8 [(y91 x),(y29 nT)]) (y6 z))]) (fun ad tk=>[(lxO a),(sv (sv (lxDict P u a true (y14 x sT)) 11 (y29 eT)) 15 (.str z (tk 62))),(siO a),(siDict P u (y14 x sT)),'b','b',(dqO n []),(rt4 P u a q s!"\"" eT s!"\"" nT)]) zvn:=by revert P; refine Lf.rw1 301 (zd 999 0x202123111214101080802021231112141010f081201314101080f08080f120131410108080f12013141010838080f1201314101081201314101080f1201314101081201314101080f120131410108120131410128120131410108) ?_ ?_ <;> kernel_rfl
theorem m1_esc_esc_d : Lf P (Tf P) (y2 a L) [lxO a,lxDict P u a true (y14 x sT),siO a,siDict P u (y14 x sT),dqO 0 [],dqO 0 [],dqO n [],rt4 P u a q s!"\"" eT s!"\\" nT] [xF,xF,xT,xT,xF,(y6 z)] 'd' 0 (fun ad tk=>[(y56 sT tk),(y48 u sT),(y17 u sT),(y25 u eT),(zX (zB zb9 [(y39 nT),(y39 sT)]) xF),(y62 x nT z)]) (fun ad tk=>[(lxO a),(sv (sv (lxDict P u a true (y14 x sT)) 11 (y29 eT)) 15 (.str z (tk 54))),(siO a),(siDict P u (y14 x sT)),'b','b',(dqO n []),(rt4 P u a q s!"\"" eT s!"\\" nT)]) zvn:=by revert P; refine Lf.rw1 294 (zd 999 0x202123111214101080802021231112141010f081201314101080f120131410108080f12013141010838080f1201314101081201314101080f1201314101081201314101080f120131410108120131410128120131410108) ?_ ?_ <;> kernel_rfl
theorem m1_esc_any_d : Lf P (Tf P) (y2 a L) [lxO a,lxDict P u a true (y14 x sT),siO a,siDict P u (y14 x sT),dqO 0 [],dqO 0 [],dqO n [],rt4 P u a q s!"\"" eT ⟨⟨[c]⟩⟩ nT] [xF,xF,xT,xT,xT,xT,(y6 z2),(y6 z)] 'd' 0 (fun ad tk=>[(y56 sT tk),(y48 u sT),(y17 u sT),(y25 u eT),(zX (zB zb9 [(y1 c nT),(y39 sT)]) xT),(zX (zB zb9 [(y1 c nT),(y29 eT)]) xT),(y62 x sT z2),(zX (zB zb8 [(.str z2 (tk 63)),(y1 c nT)]) (y6 z))]) (fun ad tk=>[(lxO a),(sv (sv (lxDict P u a true (y14 x sT)) 11 (y29 eT)) 15 (.str z (tk 74))),(siO a),(siDict P u (y14 x sT)),'b','b',(dqO n []),(rt4 P u a q s!"\"" eT ⟨⟨[c]⟩⟩ nT)]) zvn:=by revert P; refine Lf.rw1 367 (zd 999 0x202123111214101080802021231112141010f0812013141010802021231112141010f1201314101081201314101080f08080f120131410108080f12013141010838080f1201314101081201314101080f1201314101081201314101080f120131410108120131410128120131410108) ?_ ?_ <;> kernel_rfl
end
section
variable (P : Params) (u : Nat->Tok) (a : AD) (x : LX) (L : Addr) (q : Bool) (es : Str) (eT : Tok) (c : Nat) (nT sT : Tok) (z : Str) (e : Nat) (l : List Nat) (m : Nat) (y : Str) (p : Int) (z2 : Str)
theorem m0_sp_eof : Lf P (Tf P) (y5 a L) [lxO a,lxDict P u a false (y0 x sT),siO a,siDict P u (y0 x sT),dqO 0 [],dqO 0 [],rt4 P u a false es eT a181 nT] [xT] 'd' 0 (fun ad tk=>[(y31 sT tk)]) (fun ad tk=>[(lxO a),(sv (lxDict P u a false (y0 x sT)) 11 .none),(siO a),(siDict P u (y0 x sT)),'b','b',(rt4 P u a false es eT a181 nT)]) (fun ad tk=>(.val .brk)):=by revert P; refine Lf.rw1 114 (zd 999 0x20212311121410137070f120131410107120131410127120131410107) ?_ ?_ <;> kernel_rfl
theorem m0_sp_white : Lf P (Tf P) (y5 a L) [lxO a,lxDict P u a false (y0 x sT),siO a,siDict P u (y0 x sT),dqO 0 [],dqO 0 [],rt4 P u a false es eT ⟨⟨[c]⟩⟩ nT] [xT,xT] 'd' 0 (fun ad tk=>[(y31 sT tk),(zX (y16 u c nT) xT)]) (fun ad tk=>[(lxO a),(lxDict P u a false (y0 x sT)),(siO a),(siDict P u (y0 x sT)),'b','b','h']) (fun ad tk=>(.val .cont)):=by revert P; refine Lf.rw1 189 (zd 999 0x71201314101371201314101271201314101070f12013141010737070f120131410107120131410127120131410107) ?_ ?_ <;> kernel_rfl
theorem m0_sp_hash : Lf P (Tf P) (y5 a L) [lxO a,lxDict P u a false (y0 x sT),siO a,siDict P u (y0 x sT),dqO 0 [],dqO 0 [],rt4 P u a false es eT ⟨⟨[c]⟩⟩ nT] [xT,xF,xT,⟨0,fun _ f=>.ok (.ret (.str y (f 0))),fun _ f l=>[getO l 0,getO l 1,getO l 2,siDict P u 'l',getO l 4,getO l 5,getO l 6],fun _ _=>[],false⟩] 'd' 0 (fun ad tk=>[(y31 sT tk),(zX (y16 u c nT) xF),(zX (y32 u c nT) xT),⟨(zR 548 [(.ref a.si)]),0,[(lxO a),(lxDict P u a false (y0 x sT)),(siO a),(siDict P u (y0 x sT)),'b','b','h'],0,0,⟨0,fun _ f=>.ok (.ret (.str y (f 0))),fun _ f l=>[getO l 0,getO l 1,getO l 2,siDict P u 'l',getO l 4,getO l 5,getO l 6],fun _ _=>[],false⟩⟩]) (fun ad tk=>[(lxO a),(sv (lxDict P u a false (y0 x sT)) 13 (.int (x.ln + 1) (tk 44))),(siO a),(sv (siDict P u (y0 x sT)) 2 (.int p (tk 35))),'b','b','h']) zvn:=by revert P; refine Lf.rw1 233 (zd 999 0x2021231112141211201314101071f04437373031201314101070f120131410107070f12013141010737070f120131410107120131410127120131410107) ?_ ?_ <;> kernel_rfl
theorem m0_sp_esc : Lf P (Tf P) (y5 a L) [lxO a,lxDict P u a false (y0 x sT),siO a,siDict P u (y0 x sT),dqO 0 [],dqO 0 [],rt4 P u a false es eT s!"\\" nT] [xT,xF,xF,xT] 'd' 0 (fun ad tk=>[(y31 sT tk),(zX (zB zb6 [(y59 u),(y39 nT)]) xF),(zX (zB zb6 [(y78 u),(y39 nT)]) xF),(y17 u nT)]) (fun ad tk=>[(lxO a),(sv (lxDict P u a false (y0 x sT)) 11 (y39 nT)),(siO a),(siDict P u (y0 x sT)),'b','b',(sv (rt4 P u a false es eT s!"\\" nT) 2 (.str a398 (tk 43)))]) zvn:=by revert P; refine Lf.rw1 216 (zd 999 0x202123111214101070707070f120131410107071201314101070f120131410107070f12013141010737070f120131410107120131410127120131410107) ?_ ?_ <;> kernel_rfl
theorem m0_sp_word : Lf P (Tf P) (y5 a L) [lxO a,lxDict P u a false (y0 x sT),siO a,siDict P u (y0 x sT),dqO 0 [],dqO 0 [],rt4 P u a false es eT ⟨⟨[c]⟩⟩ nT] [xT,xF,xF,xF,xT] 'd' 0 (fun ad tk=>[(y31 sT tk),(zX (y16 u c nT) xF),(zX (y32 u c nT) xF),(y36 u c nT),(zX (y68 x u c nT) xT)]) (fun ad tk=>[(lxO a),(sv (sv (lxDict P u a false (y0 x sT)) 11 (.str a398 (tk 54))) 15 (y1 c nT)),(siO a),(siDict P u (y0 x sT)),'b','b','h']) zvn:=by revert P; refine Lf.rw1 259 (zd 999 0x20212311121410107020212311121410107070f120131410107070f120131410107071201314101070f120131410107070f12013141010737070f120131410107120131410127120131410107) ?_ ?_ <;> kernel_rfl
theorem m0_sp_other : Lf P (Tf P) (y5 a L) [lxO a,lxDict P u a false (y0 x sT),siO a,siDict P u (y0 x sT),dqO 0 [],dqO 0 [],rt4 P u a false es eT ⟨⟨[c]⟩⟩ nT] [xT,xF,xF,xF,xF,(y51 u),xF,xF] 'd' 0 (fun ad tk=>[(y31 sT tk),(zX (y16 u c nT) xF),(zX (y32 u c nT) xF),(y36 u c nT),(zX (y68 x u c nT) xF),⟨(y54 a),0,[(lxO a),(lxDict P u a false (y0 x sT)),(siO a),(siDict P u (y0 x sT)),'b','b','h'],0,1,(y51 u)⟩,(zX (zB zb6 [(.str a181 (u 36)),(y1 c nT)]) xF),(y65 u c nT)]) (fun ad tk=>[(lxO a),(sv (sv (lxDict P u a false (y0 x sT)) 11 (.str a398 (tk 81))) 15 (y1 c nT)),(siO a),(siDict P u (y0 x sT)),'b','b','h']) zvn:=by revert P; refine Lf.rw1 334 (zd 999 0x20212311121410107020212311121410107071201314101070f120131410107070fcf410107070f120131410107070f120131410107071201314101070f120131410107070f12013141010737070f120131410107120131410127120131410107) ?_ ?_ <;> kernel_rfl
theorem m0_sp_sq : Lf P (Tf P) (y5 a L) [lxO a,lxDict P u a false (y0 x sT),siO a,siDict P u (y0 x sT),dqO 0 [],dqO 0 [],rt4 P u a false es eT s!"'" nT] [xT,xF,xF,xF,xF,(y51 u),xF,xT] 'd' 0 (fun ad tk=>[(y31 sT tk),(zX (zB zb6 [(y59 u),(.str s!"'" nT)]) xF),(zX (zB zb6 [(y78 u),(.str s!"'" nT)]) xF),(zX (zB zb6 [(.str s!"\\" (u 24)),(.str s!"'" nT)]) xF),(zX (zB zb6 [(.str x.wc (u 17)),(.str s!"'" nT)]) xF),⟨(y54 a),0,[(lxO a),(lxDict P u a false (y0 x sT)),(siO a),(siDict P u (y0 x sT)),'b','b',(rt4 P u a false es eT s!"'" nT)],0,1,(y51 u)⟩,(zX (zB zb6 [(.str a181 (u 36)),(.str s!"'" nT)]) xF),(y42 u nT)]) (fun ad tk=>[(lxO a),(sv (lxDict P u a false (y0 x sT)) 11 (.str s!"'" nT)),(siO a),(siDict P u (y0 x sT)),'b','b',(rt4 P u a false es eT s!"'" nT)]) zvn:=by revert P; refine Lf.rw1 306 (zd 999 0x20212311121410107071201314101070f120131410107070fcf410107070f120131410107070f120131410107071201314101070f120131410107070f12013141010737070f120131410107120131410127120131410107) ?_ ?_ <;> kernel_rfl
theorem m0_sp_dq : Lf P (Tf P) (y5 a L) [lxO a,lxDict P u a false (y0 x sT),siO a,siDict P u (y0 x sT),dqO 0 [],dqO 0 [],rt4 P u a false es eT s!"\"" nT] [xT,xF,xF,xF,xF,(y51 u),xF,xT] 'd' 0 (fun ad tk=>[(y31 sT tk),(zX (zB zb6 [(y59 u),(y29 nT)]) xF),(zX (zB zb6 [(y78 u),(y29 nT)]) xF),(zX (zB zb6 [(.str s!"\\" (u 24)),(y29 nT)]) xF),(zX (zB zb6 [(.str x.wc (u 17)),(y29 nT)]) xF),⟨(y54 a),0,[(lxO a),(lxDict P u a false (y0 x sT)),(siO a),(siDict P u (y0 x sT)),'b','b',(rt4 P u a false es eT s!"\"" nT)],0,1,(y51 u)⟩,(zX (zB zb6 [(.str a181 (u 36)),(y29 nT)]) xF),(y25 u nT)]) (fun ad tk=>[(lxO a),(sv (lxDict P u a false (y0 x sT)) 11 (y29 nT)),(siO a),(siDict P u (y0 x sT)),'b','b',(rt4 P u a false es eT s!"\"" nT)]) zvn:=by revert P; refine Lf.rw1 306 (zd 999 0x20212311121410107071201314101070f120131410107070fcf410107070f120131410107070f120131410107071201314101070f120131410107070f12013141010737070f120131410107120131410127120131410107) ?_ ?_ <;> kernel_rfl
theorem m0_a_eof : Lf P (Tf P) (y5 a L) [lxO a,lxDict P u a false (y8 x sT),siO a,siDict P u (y8 x sT),dqO 0 [],dqO 0 [],rt4 P u a q es eT a181 nT] [xF,xF,xF,y10] 'd' 0 (fun ad tk=>[(y15 sT tk),(y24 u sT),(y13 u sT),⟨(y27 ad sT),1,[(lxO a),(lxDict P u a false (y8 x sT)),(siO a),(siDict P u (y8 x sT)),'b','b',(rt4 P u a q es eT a181 nT),(zQ zt23 (y9 tk))],0,0,y10⟩]) (fun ad tk=>[(lxO a),(sv (lxDict P u a false (y8 x sT)) 11 .none),(siO a),(siDict P u (y8 x sT)),'b','b',(rt4 P u a q es eT a181 nT)]) (fun ad tk=>(.val .brk)):=by revert P; refine Lf.rw1 224 (zd 999 0x20212311121410137070f08081201314101070f1201314101071201314101070f1201314101071201314101070f120131410107120131410127120131410107) ?_ ?_ <;> kernel_rfl
theorem m0_a_esc : Lf P (Tf P) (y5 a L) [lxO a,lxDict P u a false (y8 x sT),siO a,siDict P u (y8 x sT),dqO 0 [],dqO 0 [],rt4 P u a q es eT s!"\\" nT] [xF,xF,xF,y10,xF,xF,xF,xF,xT] 'd' 0 (fun ad tk=>[(y15 sT tk),(y24 u sT),(y13 u sT),⟨(y27 ad sT),1,[(lxO a),(lxDict P u a false (y8 x sT)),(siO a),(siDict P u (y8 x sT)),'b','b',(rt4 P u a q es eT s!"\\" nT),(zQ zt23 (y9 tk))],0,0,y10⟩,(zX (zB zb6 [(y59 u),(y39 nT)]) xF),(zX (zB zb6 [(y78 u),(y39 nT)]) xF),(y35 sT tk),(y48 u nT),(y17 u nT)]) (fun ad tk=>[(lxO a),(sv (lxDict P u a false (y8 x sT)) 11 (y39 nT)),(siO a),(siDict P u (y8 x sT)),'b','b',(sv (rt4 P u a q es eT s!"\\" nT) 2 (.str a398 (tk 94)))]) zvn:=by revert P; refine Lf.rw1 394 (zd 999 0x202123111214101070707070f120131410107071201314101070f120131410107071201314101070f1201314101070f120131410107070f12013141010737070f08081201314101070f1201314101071201314101070f1201314101071201314101070f120131410107120131410127120131410107) ?_ ?_ <;> kernel_rfl
theorem m0_a_word : Lf P (Tf P) (y5 a L) [lxO a,lxDict P u a false (y8 x sT),siO a,siDict P u (y8 x sT),dqO 0 [],dqO 0 [],rt4 P u a q es eT ⟨⟨[c]⟩⟩ nT] [xF,xF,xF,y10,xF,xF,xF,xF,xF,xT,(y6 z)] 'd' 0 (fun ad tk=>[(y15 sT tk),(y24 u sT),(y13 u sT),⟨(y27 ad sT),1,[(lxO a),(lxDict P u a false (y8 x sT)),(siO a),(siDict P u (y8 x sT)),'b','b','j',(zQ zt23 (y9 tk))],0,0,y10⟩,(zX (y16 u c nT) xF),(zX (y32 u c nT) xF),(y35 sT tk),(y65 u c nT),(y36 u c nT),(zX (y68 x u c nT) xT),(y45 x c nT z)]) (fun ad tk=>[(lxO a),(sv (lxDict P u a false (y8 x sT)) 15 (.str z (tk 104))),(siO a),(siDict P u (y8 x sT)),'b','b','j']) zvn:=by revert P; refine Lf.rw1 429 (zd 999 0x2021231112141010f071201314101070f120131410107070f120131410107071201314101070f120131410107071201314101070f1201314101070f120131410107070f12013141010737070f08081201314101070f1201314101071201314101070f1201314101071201314101070f120131410107120131410127120131410107) ?_ ?_ <;> kernel_rfl
theorem m0_a_sq : Lf P (Tf P) (y5 a L) [lxO a,lxDict P u a false (y8 x sT),siO a,siDict P u (y8 x sT),dqO 0 [],dqO 0 [],rt4 P u a q es eT s!"'" nT] y86 'd' 0 (fun ad tk=>[(y15 sT tk),(y24 u sT),(y13 u sT),⟨(y27 ad sT),1,[(lxO a),(lxDict P u a false (y8 x sT)),(siO a),(siDict P u (y8 x sT)),'b','b',(rt4 P u a q es eT s!"'" nT),(zQ zt23 (y9 tk))],0,0,y10⟩,(zX (zB zb6 [(y59 u),(.str s!"'" nT)]) xF),(zX (zB zb6 [(y78 u),(.str s!"'" nT)]) xF),(y35 sT tk),(y42 u nT)]) (fun ad tk=>[(lxO a),(sv (lxDict P u a false (y8 x sT)) 11 (.str s!"'" nT)),(siO a),(siDict P u (y8 x sT)),'b','b',(rt4 P u a q es eT s!"'" nT)]) zvn:=by revert P; refine Lf.rw1 341 (zd 999 0x20212311121410107070f120131410107071201314101070f1201314101070f120131410107070f12013141010737070f08081201314101070f1201314101071201314101070f1201314101071201314101070f120131410107120131410127120131410107) ?_ ?_ <;> kernel_rfl
theorem m0_a_dq : Lf P (Tf P) (y5 a L) [lxO a,lxDict P u a false (y8 x sT),siO a,siDict P u (y8 x sT),dqO 0 [],dqO 0 [],rt4 P u a q es eT s!"\"" nT] y86 'd' 0 (fun ad tk=>[(y15 sT tk),(y24 u sT),(y13 u sT),⟨(y27 ad sT),1,[(lxO a),(lxDict P u a false (y8 x sT)),(siO a),(siDict P u (y8 x sT)),'b','b',(rt4 P u a q es eT s!"\"" nT),(zQ zt23 (y9 tk))],0,0,y10⟩,(zX (zB zb6 [(y59 u),(y29 nT)]) xF),(zX (zB zb6 [(y78 u),(y29 nT)]) xF),(y35 sT tk),(y25 u nT)]) (fun ad tk=>[(lxO a),(sv (lxDict P u a false (y8 x sT)) 11 (y29 nT)),(siO a),(siDict P u (y8 x sT)),'b','b',(rt4 P u a q es eT s!"\"" nT)]) zvn:=by revert P; refine Lf.rw1 341 (zd 999 0x20212311121410107070f120131410107071201314101070f1201314101070f120131410107070f12013141010737070f08081201314101070f1201314101071201314101070f1201314101071201314101070f120131410107120131410127120131410107) ?_ ?_ <;> kernel_rfl
theorem m0_a_other : Lf P (Tf P) (y5 a L) [lxO a,lxDict P u a false (y8 x sT),siO a,siDict P u (y8 x sT),dqO 0 [],dqO 0 [],rt4 P u a q es eT ⟨⟨[c]⟩⟩ nT] [xF,xF,xF,y10,xF,xF,xF,xF,xF,xF,xF,(y51 u),xF,(y6 z)] 'd' 0 (fun ad tk=>[(y15 sT tk),(y24 u sT),(y13 u sT),⟨(y27 ad sT),1,[(lxO a),(lxDict P u a false (y8 x sT)),(siO a),(siDict P u (y8 x sT)),'b','b','j',(zQ zt23 (y9 tk))],0,0,y10⟩,(zX (y16 u c nT) xF),(zX (y32 u c nT) xF),(y35 sT tk),(y65 u c nT),(y36 u c nT),(zX (y68 x u c nT) xF),(y65 u c nT),⟨(y54 a),1,[(lxO a),(lxDict P u a false (y8 x sT)),(siO a),(siDict P u (y8 x sT)),'b','b','j',(zQ zt23 (y9 tk))],0,1,(y51 u)⟩,(zX (zB zb6 [(.str a181 (u 36)),(y1 c nT)]) xF),(y45 x c nT z)]) (fun ad tk=>[(lxO a),(sv (lxDict P u a false (y8 x sT)) 15 (.str z (tk 131))),(siO a),(siDict P u (y8 x sT)),'b','b','j']) zvn:=by revert P; refine Lf.rw1 501 (zd 999 0x2021231112141010f071201314101070fcf410107071201314101070f120131410107070f120131410107070f120131410107071201314101070f120131410107071201314101070f1201314101070f120131410107070f12013141010737070f08081201314101070f1201314101071201314101070f1201314101071201314101070f120131410107120131410127120131410107) ?_ ?_ <;> kernel_rfl
theorem m0_a_white_t : Lf P (Tf P) (y5 a L) [lxO a,lxDict P u a false (y4 x sT e l),siO a,siDict P u (y4 x sT e l),dqO 0 [],dqO 0 [],rt4 P u a q es eT ⟨⟨[c]⟩⟩ nT] [xF,xF,xF,y10,xT,(y33 m)] 'd' 0 (fun ad tk=>[(y15 sT tk),(y24 u sT),(y13 u sT),⟨(y27 ad sT),1,[(lxO a),(lxDict P u a false (y4 x sT e l)),(siO a),(siDict P u (y4 x sT e l)),'b','b','j',(zQ zt23 (y9 tk))],0,0,y10⟩,(zX (y16 u c nT) xT),(y28 e l x m)]) (fun ad tk=>[(lxO a),(sv (lxDict P u a false (y4 x sT e l)) 11 (.str s!" " (tk 57))),(siO a),(siDict P u (y4 x sT e l)),'b','b','j']) (fun ad tk=>(.val .brk)):=by revert P; refine Lf.rw1 297 (zd 999 0xf1201314101070202123111214101271201314101070f12013141010737070f08081201314101070f1201314101071201314101070f1201314101071201314101070f120131410107120131410127120131410107) ?_ ?_ <;> kernel_rfl
theorem m0_a_white_q : Lf P (Tf P) (y5 a L) [lxO a,lxDict P u a false (y11 x sT),siO a,siDict P u (y11 x sT),dqO 0 [],dqO 0 [],rt4 P u a true es eT ⟨⟨[c]⟩⟩ nT] [xF,xF,xF,y10,xT] 'd' 0 (fun ad tk=>[(y15 sT tk),(y24 u sT),(y13 u sT),⟨(y27 ad sT),1,[(lxO a),(lxDict P u a false (y11 x sT)),(siO a),(siDict P u (y11 x sT)),'b','b',(rt4 P u a true es eT ⟨⟨[c]⟩⟩ nT),(zQ zt23 (y9 tk))],0,0,y10⟩,(zX (y16 u c nT) xT)]) (fun ad tk=>[(lxO a),(sv (lxDict P u a false (y11 x sT)) 11 (.str s!" " (tk 57))),(siO a),(siDict P u (y11 x sT)),'b','b',(rt4 P u a true es eT ⟨⟨[c]⟩⟩ nT)]) (fun ad tk=>(.val .brk)):=by revert P; refine Lf.rw1 327 (zd 999 0x71201314101371201314101070202123111214101271201314101070f12013141010737070f08081201314101070f1201314101071201314101070f1201314101071201314101070f120131410107120131410127120131410107) ?_ ?_ <;> kernel_rfl
theorem m0_a_hash_t : Lf P (Tf P) (y5 a L) [lxO a,lxDict P u a false (y4 x sT e l),siO a,siDict P u (y4 x sT e l),dqO 0 [],dqO 0 [],rt4 P u a q es eT ⟨⟨[c]⟩⟩ nT] [xF,xF,xF,y10,xF,xT,⟨0,fun _ f=>.ok (.ret (.str y (f 0))),fun _ f l=>[getO l 0,getO l 1,getO l 2,siDict P u 'l',getO l 4,getO l 5,getO l 6,getO l 7],fun _ _=>[],false⟩,(y33 m)] 'd' 0 (fun ad tk=>[(y15 sT tk),(y24 u sT),(y13 u sT),⟨(y27 ad sT),1,[(lxO a),(lxDict P u a false (y4 x sT e l)),(siO a),(siDict P u (y4 x sT e l)),'b','b','j',(zQ zt23 (y9 tk))],0,0,y10⟩,(zX (y16 u c nT) xF),(zX (y32 u c nT) xT),⟨(zR 548 [(.ref a.si)]),1,[(lxO a),(lxDict P u a false (y4 x sT e l)),(siO a),(siDict P u (y4 x sT e l)),'b','b','j',(zQ zt23 (y9 tk))],0,0,⟨0,fun _ f=>.ok (.ret (.str y (f 0))),fun _ f l=>[getO l 0,getO l 1,getO l 2,siDict P u 'l',getO l 4,getO l 5,getO l 6,getO l 7],fun _ _=>[],false⟩⟩,(y28 e l x m)]) (fun ad tk=>[(lxO a),(sv (sv (lxDict P u a false (y4 x sT e l)) 11 (.str s!" " (tk 79))) 13 (.int (x.ln + 1) (tk 75))),(siO a),(sv (siDict P u (y4 x sT e l)) 2 (.int p (tk 66))),'b','b','j']) (fun ad tk=>(.val .brk)):=by revert P; refine Lf.rw1 415 (zd 999 0xf12013141010702021231112141010712013141010702021231112141211201314101071f04437373031201314101070f120131410107070f12013141010737070f08081201314101070f1201314101071201314101070f1201314101071201314101070f120131410107120131410127120131410107) ?_ ?_ <;> kernel_rfl
theorem m0_a_hash_q : Lf P (Tf P) (y5 a L) [lxO a,lxDict P u a false (y11 x sT),siO a,siDict P u (y11 x sT),dqO 0 [],dqO 0 [],rt4 P u a true es eT ⟨⟨[c]⟩⟩ nT] [xF,xF,xF,y10,xF,xT,⟨0,fun _ f=>.ok (.ret (.str y (f 0))),fun _ f l=>[getO l 0,getO l 1,getO l 2,siDict P u 'l',getO l 4,getO l 5,getO l 6,getO l 7],fun _ _=>[],false⟩] 'd' 0 (fun ad tk=>[(y15 sT tk),(y24 u sT),(y13 u sT),⟨(y27 ad sT),1,[(lxO a),(lxDict P u a false (y11 x sT)),(siO a),(siDict P u (y11 x sT)),'b','b',(rt4 P u a true es eT ⟨⟨[c]⟩⟩ nT),(zQ zt23 (y9 tk))],0,0,y10⟩,(zX (y16 u c nT) xF),(zX (y32 u c nT) xT),⟨(zR 548 [(.ref a.si)]),1,[(lxO a),(lxDict P u a false (y11 x sT)),(siO a),(siDict P u (y11 x sT)),'b','b',(rt4 P u a true es eT ⟨⟨[c]⟩⟩ nT),(zQ zt23 (y9 tk))],0,0,⟨0,fun _ f=>.ok (.ret (.str y (f 0))),fun _ f l=>[getO l 0,getO l 1,getO l 2,siDict P u 'l',getO l 4,getO l 5,getO l 6,getO l 7],fun _ _=>[],false⟩⟩]) (fun ad tk=>[(lxO a),(sv (sv (lxDict P u a false (y11 x sT)) 11 (.str s!" " (tk 79))) 13 (.int (x.ln + 1) (tk 75))),(siO a),(sv (siDict P u (y11 x sT)) 2 (.int p (tk 66))),'b','b',(rt4 P u a true es eT ⟨⟨[c]⟩⟩ nT)]) (fun ad tk=>(.val .brk)):=by revert P; refine Lf.rw1 445 (zd 999 0x712013141013712013141010702021231112141010712013141010702021231112141211201314101071f04437373031201314101070f120131410107070f12013141010737070f08081201314101070f1201314101071201314101070f1201314101071201314101070f120131410107120131410127120131410107) ?_ ?_ <;> kernel_rfl
theorem m0_sq_sq : Lf P (Tf P) (y5 a L) [lxO a,lxDict P u a false (y20 x sT),siO a,siDict P u (y20 x sT),dqO 0 [],dqO 0 [],rt4 P u a q es eT s!"'" nT] [xF,xT,xT] 'd' 0 (fun ad tk=>[(y57 sT tk),(y42 u sT),(zX (zB zb5 [(.str s!"'" nT),(.str s!"'" sT)]) xT)]) (fun ad tk=>[(lxO a),(sv (lxDict P u a false (y20 x sT)) 11 (.str a398 (tk 36))),(siO a),(siDict P u (y20 x sT)),'b','b',(sv (rt4 P u a q es eT s!"'" nT) 1 (.bool true))]) zvn:=by revert P; refine Lf.rw1 209 (zd 999 0x202123111214101071201314101070f120131410107370707070f1201314101071201314101070f120131410107120131410127120131410107) ?_ ?_ <;> kernel_rfl
theorem m0_sq_esc : Lf P (Tf P) (y5 a L) [lxO a,lxDict P u a false (y20 x sT),siO a,siDict P u (y20 x sT),dqO 0 [],dqO 0 [],rt4 P u a q es eT s!"\\" nT] [xF,xT,xF,xT,xF,(y6 z)] 'd' 0 (fun ad tk=>[(y57 sT tk),(y42 u sT),(zX (zB zb5 [(y39 nT),(.str s!"'" sT)]) xF),(y17 u nT),(zX (zB zb6 [(.str s!"\"" (u 26)),(.str s!"'" sT)]) xF),(y62 x nT z)]) (fun ad tk=>[(lxO a),(sv (lxDict P u a false (y20 x sT)) 15 (.str z (tk 56))),(siO a),(siDict P u (y20 x sT)),'b','b',(sv (rt4 P u a q es eT s!"\\" nT) 1 (.bool true))]) zvn:=by revert P; refine Lf.rw1 293 (zd 999 0x2021231112141010f071201314101070f1201314101071201314101070f120131410107071201314101070f120131410107370707070f1201314101071201314101070f120131410107120131410127120131410107) ?_ ?_ <;> kernel_rfl
theorem m0_sq_any : Lf P (Tf P) (y5 a L) [lxO a,lxDict P u a false (y20 x sT),siO a,siDict P u (y20 x sT),dqO 0 [],dqO 0 [],rt4 P u a q es eT ⟨⟨[c]⟩⟩ nT] [xF,xT,xF,xF,(y6 z)] 'd' 0 (fun ad tk=>[(y57 sT tk),(y42 u sT),(zX (zB zb5 [(y1 c nT),(.str s!"'" sT)]) xF),(y36 u c nT),(y45 x c nT z)]) (fun ad tk=>[(lxO a),(sv (lxDict P u a false (y20 x sT)) 15 (.str z (tk 46))),(siO a),(siDict P u (y20 x sT)),'b','b',(sv 'j' 1 (.bool true))]) zvn:=by revert P; refine Lf.rw1 253 (zd 999 0x2021231112141010f071201314101070f120131410107071201314101070f120131410107370707070f1201314101071201314101070f120131410107120131410127120131410107) ?_ ?_ <;> kernel_rfl
theorem m0_dq_dq : Lf P (Tf P) (y5 a L) [lxO a,lxDict P u a false (y18 x sT),siO a,siDict P u (y18 x sT),dqO 0 [],dqO 0 [],rt4 P u a q es eT s!"\"" nT] [xF,xT,xT] 'd' 0 (fun ad tk=>[(y66 sT tk),(y25 u sT),(zX (zB zb5 [(y29 nT),(y29 sT)]) xT)]) (fun ad tk=>[(lxO a),(sv (lxDict P u a false (y18 x sT)) 11 (.str a398 (tk 36))),(siO a),(siDict P u (y18 x sT)),'b','b',(sv (rt4 P u a q es eT s!"\"" nT) 1 (.bool true))]) zvn:=by revert P; refine Lf.rw1 209 (zd 999 0x202123111214101071201314101070f120131410107370707070f1201314101071201314101070f120131410107120131410127120131410107) ?_ ?_ <;> kernel_rfl
theorem m0_dq_esc : Lf P (Tf P) (y5 a L) [lxO a,lxDict P u a false (y18 x sT),siO a,siDict P u (y18 x sT),dqO 0 [],dqO 0 [],rt4 P u a q es eT s!"\\" nT] [xF,xT,xF,xT,xT] 'd' 0 (fun ad tk=>[(y66 sT tk),(y25 u sT),(zX (zB zb5 [(y39 nT),(y29 sT)]) xF),(y17 u nT),(zX (zB zb6 [(.str s!"\"" (u 26)),(y29 sT)]) xT)]) (fun ad tk=>[(lxO a),(sv (lxDict P u a false (y18 x sT)) 11 (y39 nT)),(siO a),(siDict P u (y18 x sT)),'b','b',(sv (sv (rt4 P u a q es eT s!"\\" nT) 1 (.bool true)) 2 (y29 sT))]) zvn:=by revert P; refine Lf.rw1 300 (zd 999 0x202123111214101070707071201314101070f1201314101071201314101070f120131410107071201314101070f120131410107370707070f1201314101071201314101070f120131410107120131410127120131410107) ?_ ?_ <;> kernel_rfl
theorem m0_dq_any : Lf P (Tf P) (y5 a L) [lxO a,lxDict P u a false (y18 x sT),siO a,siDict P u (y18 x sT),dqO 0 [],dqO 0 [],rt4 P u a q es eT ⟨⟨[c]⟩⟩ nT] [xF,xT,xF,xF,(y6 z)] 'd' 0 (fun ad tk=>[(y66 sT tk),(y25 u sT),(zX (zB zb5 [(y1 c nT),(y29 sT)]) xF),(y36 u c nT),(y45 x c nT z)]) (fun ad tk=>[(lxO a),(sv (lxDict P u a false (y18 x sT)) 15 (.str z (tk 46))),(siO a),(siDict P u (y18 x sT)),'b','b',(sv 'j' 1 (.bool true))]) zvn:=by revert P; refine Lf.rw1 253 (zd 999 0x2021231112141010f071201314101070f120131410107071201314101070f120131410107370707070f1201314101071201314101070f120131410107120131410127120131410107) ?_ ?_ <;> kernel_rfl
theorem m0_esc_any : Lf P (Tf P) (y5 a L) [lxO a,lxDict P u a false (y14 x sT),siO a,siDict P u (y14 x sT),dqO 0 [],dqO 0 [],rt4 P u a q a398 eT ⟨⟨[c]⟩⟩ nT] [xF,xF,xT,xF,(y6 z)] 'd' 0 (fun ad tk=>[(y56 sT tk),(y48 u sT),(y17 u sT),(y24 u eT),(y45 x c nT z)]) (fun ad tk=>[(lxO a),(sv (sv (lxDict P u a false (y14 x sT)) 11 (.str a398 eT)) 15 (.str z (tk 45))),(siO a),(siDict P u (y14 x sT)),'b','b',(rt4 P u a q a398 eT ⟨⟨[c]⟩⟩ nT)]) zvn:=by revert P; refine Lf.rw1 270 (zd 999 0x202123111214101070702021231112141010f071201314101070f12013141010737070f1201314101071201314101070f1201314101071201314101070f120131410107120131410127120131410107) ?_ ?_ <;> kernel_rfl
theorem m0_esc_dq_d : Lf P (Tf P) (y5 a L) [lxO a,lxDict P u a false (y14 x sT),siO a,siDict P u (y14 x sT),dqO 0 [],dqO 0 [],rt4 P u a q s!"\"" eT s!"\"" nT] [xF,xF,xT,xT,xT,xF,(y6 z)] 'd' 0 (fun ad tk=>[(y56 sT tk),(y48 u sT),(y17 u sT),(y25 u eT),(zX (zB zb9 [(y29 nT),(y39 sT)]) xT),(zX (zB zb9 [(y29 nT),(y29 eT)]) xF),(zX (zB zb8 [(y91 x),(y29 nT)]) (y6 z))]) (fun ad tk=>[(lxO a),(sv (sv (lxDict P u a false (y14 x sT)) 11 (y29 eT)) 15 (.str z (tk 62))),(siO a),(siDict P u (y14 x sT)),'b','b',(rt4 P u a q s!"\"" eT s!"\"" nT)]) zvn:=by revert P; refine Lf.rw1 301 (zd 999 0x202123111214101070702021231112141010f071201314101070f07070f120131410107070f12013141010737070f1201314101071201314101070f1201314101071201314101070f120131410107120131410127120131410107) ?_ ?_ <;> kernel_rfl
theorem m0_esc_esc_d : Lf P (Tf P) (y5 a L) [lxO a,lxDict P u a false (y14 x sT),siO a,siDict P u (y14 x sT),dqO 0 [],dqO 0 [],rt4 P u a q s!"\"" eT s!"\\" nT] [xF,xF,xT,xT,xF,(y6 z)] 'd' 0 (fun ad tk=>[(y56 sT tk),(y48 u sT),(y17 u sT),(y25 u eT),(zX (zB zb9 [(y39 nT),(y39 sT)]) xF),(y62 x nT z)]) (fun ad tk=>[(lxO a),(sv (sv (lxDict P u a false (y14 x sT)) 11 (y29 eT)) 15 (.str z (tk 54))),(siO a),(siDict P u (y14 x sT)),'b','b',(rt4 P u a q s!"\"" eT s!"\\" nT)]) zvn:=by revert P; refine Lf.rw1 294 (zd 999 0x202123111214101070702021231112141010f071201314101070f120131410107070f12013141010737070f1201314101071201314101070f1201314101071201314101070f120131410107120131410127120131410107) ?_ ?_ <;> kernel_rfl
theorem m0_esc_any_d : Lf P (Tf P) (y5 a L) [lxO a,lxDict P u a false (y14 x sT),siO a,siDict P u (y14 x sT),dqO 0 [],dqO 0 [],rt4 P u a q s!"\"" eT ⟨⟨[c]⟩⟩ nT] [xF,xF,xT,xT,xT,xT,(y6 z2),(y6 z)] 'd' 0 (fun ad tk=>[(y56 sT tk),(y48 u sT),(y17 u sT),(y25 u eT),(zX (zB zb9 [(y1 c nT),(y39 sT)]) xT),(zX (zB zb9 [(y1 c nT),(y29 eT)]) xT),(y62 x sT z2),(zX (zB zb8 [(.str z2 (tk 63)),(y1 c nT)]) (y6 z))]) (fun ad tk=>[(lxO a),(sv (sv (lxDict P u a false (y14 x sT)) 11 (y29 eT)) 15 (.str z (tk 74))),(siO a),(siDict P u (y14 x sT)),'b','b',(rt4 P u a q s!"\"" eT ⟨⟨[c]⟩⟩ nT)]) zvn:=by revert P; refine Lf.rw1 367 (zd 999 0x202123111214101070702021231112141010f0712013141010702021231112141010f1201314101071201314101070f07070f120131410107070f12013141010737070f1201314101071201314101070f1201314101071201314101070f120131410107120131410127120131410107) ?_ ?_ <;> kernel_rfl
end
noncomputable abbrev y76 (p0 : Addr) : List Value:=[.ref p0,.none,.none,.none,.bool false,.none]
section
variable (t : Addr) (vs : List Value) (P : Params) (u : Nat->Tok) (a : AD) (x : LX) (n : Int) (L : Addr) (q : Bool) (es : Str) (eT : Tok) (nx : Str) (nT sT : Tok)
noncomputable def excO : Obj:=⟨.type SL.s6070975301684473832x10,none,.fields ⟨(y76 t)⟩,⟨[]⟩⟩
noncomputable def tpO : Obj:=⟨.type SL.s2766695959194262286x5,none,.seq ⟨vs⟩ 0,⟨[]⟩⟩
noncomputable def xVE (m : Str) : Ext:=⟨2,fun g _=>.ok (.ret (.ref (g 0))),fun _ _ l=>l,fun g f=>[excO (g 1),tpO [.str m (f 0)]],false⟩
noncomputable def msgQ : Str:=s!"No closing quotation"
noncomputable def msgE : Str:=s!"No escaped character"
noncomputable abbrev y50 (p0 : Nat->Addr) : List Value:=[(.ref (p0 1)),.none,.none,.none,(.bool false),.none]
theorem m1_sq_eof : Lf P (Tf P) (y2 a L) [lxO a,lxDict P u a true (y20 x sT),siO a,siDict P u (y20 x sT),dqO 0 [],dqO 0 [],dqO n [],rt4 P u a q es eT a181 nT] [xF,xT,(xVE msgQ)] 'd' 2 (fun ad tk=>[(y57 sT tk),(y42 u sT),⟨(.call zt49 ⟨[(.str msgQ (tk 28))],[]⟩),0,[(lxO a),(lxDict P u a true (y20 x sT)),(siO a),(siDict P u (y20 x sT)),'b','b',(dqO n []),(sv (rt4 P u a q es eT a181 nT) 1 (.bool true))],0,0,(xVE msgQ)⟩]) (fun ad tk=>[(lxO a),(lxDict P u a true (y20 x sT)),(siO a),(siDict P u (y20 x sT)),'b','b',(dqO n []),(sv (rt4 P u a q es eT a181 nT) 1 (.bool true)),(zF zt49 (y50 ad)),(zQ zt23 [(.str msgQ (tk 29))])]) (fun ad tk=>(.exc (.ref (ad 0)))):=by revert P; refine Lf.rw1 176 (zd 999 0x9090909094f1201314101380808080f1201314101081201314101080f120131410108120131410128120131410108) ?_ ?_ <;> kernel_rfl
theorem m1_dq_eof : Lf P (Tf P) (y2 a L) [lxO a,lxDict P u a true (y18 x sT),siO a,siDict P u (y18 x sT),dqO 0 [],dqO 0 [],dqO n [],rt4 P u a q es eT a181 nT] [xF,xT,(xVE msgQ)] 'd' 2 (fun ad tk=>[(y66 sT tk),(y25 u sT),⟨(.call zt49 ⟨[(.str msgQ (tk 28))],[]⟩),0,[(lxO a),(lxDict P u a true (y18 x sT)),(siO a),(siDict P u (y18 x sT)),'b','b',(dqO n []),(sv (rt4 P u a q es eT a181 nT) 1 (.bool true))],0,0,(xVE msgQ)⟩]) (fun ad tk=>[(lxO a),(lxDict P u a true (y18 x sT)),(siO a),(siDict P u (y18 x sT)),'b','b',(dqO n []),(sv (rt4 P u a q es eT a181 nT) 1 (.bool true)),(zF zt49 (y50 ad)),(zQ zt23 [(.str msgQ (tk 29))])]) (fun ad tk=>(.exc (.ref (ad 0)))):=by revert P; refine Lf.rw1 176 (zd 999 0x9090909094f1201314101380808080f1201314101081201314101080f120131410108120131410128120131410108) ?_ ?_ <;> kernel_rfl
theorem m1_esc_eof : Lf P (Tf P) (y2 a L) [lxO a,lxDict P u a true (y14 x sT),siO a,siDict P u (y14 x sT),dqO 0 [],dqO 0 [],dqO n [],rt4 P u a q es eT a181 nT] [xF,xF,xT,(xVE msgE)] 'd' 2 (fun ad tk=>[(y56 sT tk),(y48 u sT),(y17 u sT),⟨(.call zt49 ⟨[(.str msgE (tk 37))],[]⟩),0,[(lxO a),(lxDict P u a true (y14 x sT)),(siO a),(siDict P u (y14 x sT)),'b','b',(dqO n []),(rt4 P u a q es eT a181 nT)],0,0,(xVE msgE)⟩]) (fun ad tk=>[(lxO a),(lxDict P u a true (y14 x sT)),(siO a),(siDict P u (y14 x sT)),'b','b',(dqO n []),(rt4 P u a q es eT a181 nT),(zF zt49 (y50 ad)),(zQ zt23 [(.str msgE (tk 38))])]) (fun ad tk=>(.exc (.ref (ad 0)))):=by revert P; refine Lf.rw1 209 (zd 999 0x9090909094f120131410138080f1201314101081201314101080f1201314101081201314101080f120131410108120131410128120131410108) ?_ ?_ <;> kernel_rfl
theorem m0_sq_eof : Lf P (Tf P) (y5 a L) [lxO a,lxDict P u a false (y20 x sT),siO a,siDict P u (y20 x sT),dqO 0 [],dqO 0 [],rt4 P u a q es eT a181 nT] [xF,xT,(xVE msgQ)] 'd' 2 (fun ad tk=>[(y57 sT tk),(y42 u sT),⟨(.call zt49 ⟨[(.str msgQ (tk 28))],[]⟩),0,[(lxO a),(lxDict P u a false (y20 x sT)),(siO a),(siDict P u (y20 x sT)),'b','b',(sv (rt4 P u a q es eT a181 nT) 1 (.bool true))],0,0,(xVE msgQ)⟩]) (fun ad tk=>[(lxO a),(lxDict P u a false (y20 x sT)),(siO a),(siDict P u (y20 x sT)),'b','b',(sv (rt4 P u a q es eT a181 nT) 1 (.bool true)),(zF zt49 (y50 ad)),(zQ zt23 [(.str msgQ (tk 29))])]) (fun ad tk=>(.exc (.ref (ad 0)))):=by revert P; refine Lf.rw1 176 (zd 999 0x8080808084f1201314101370707070f1201314101071201314101070f120131410107120131410127120131410107) ?_ ?_ <;> kernel_rfl
theorem m0_dq_eof : Lf P (Tf P) (y5 a L) [lxO a,lxDict P u a false (y18 x sT),siO a,siDict P u (y18 x sT),dqO 0 [],dqO 0 [],rt4 P u a q es eT a181 nT] [xF,xT,(xVE msgQ)] 'd' 2 (fun ad tk=>[(y66 sT tk),(y25 u sT),⟨(.call zt49 ⟨[(.str msgQ (tk 28))],[]⟩),0,[(lxO a),(lxDict P u a false (y18 x sT)),(siO a),(siDict P u (y18 x sT)),'b','b',(sv (rt4 P u a q es eT a181 nT) 1 (.bool true))],0,0,(xVE msgQ)⟩]) (fun ad tk=>[(lxO a),(lxDict P u a false (y18 x sT)),(siO a),(siDict P u (y18 x sT)),'b','b',(sv (rt4 P u a q es eT a181 nT) 1 (.bool true)),(zF zt49 (y50 ad)),(zQ zt23 [(.str msgQ (tk 29))])]) (fun ad tk=>(.exc (.ref (ad 0)))):=by revert P; refine Lf.rw1 176 (zd 999 0x8080808084f1201314101370707070f1201314101071201314101070f120131410107120131410127120131410107) ?_ ?_ <;> kernel_rfl
theorem m0_esc_eof : Lf P (Tf P) (y5 a L) [lxO a,lxDict P u a false (y14 x sT),siO a,siDict P u (y14 x sT),dqO 0 [],dqO 0 [],rt4 P u a q es eT a181 nT] [xF,xF,xT,(xVE msgE)] 'd' 2 (fun ad tk=>[(y56 sT tk),(y48 u sT),(y17 u sT),⟨(.call zt49 ⟨[(.str msgE (tk 37))],[]⟩),0,[(lxO a),(lxDict P u a false (y14 x sT)),(siO a),(siDict P u (y14 x sT)),'b','b',(rt4 P u a q es eT a181 nT)],0,0,(xVE msgE)⟩]) (fun ad tk=>[(lxO a),(lxDict P u a false (y14 x sT)),(siO a),(siDict P u (y14 x sT)),'b','b',(rt4 P u a q es eT a181 nT),(zF zt49 (y50 ad)),(zQ zt23 [(.str msgE (tk 38))])]) (fun ad tk=>(.exc (.ref (ad 0)))):=by revert P; refine Lf.rw1 209 (zd 999 0x8080808084f120131410137070f1201314101071201314101070f1201314101071201314101070f120131410107120131410127120131410107) ?_ ?_ <;> kernel_rfl
noncomputable abbrev y90 (p0 : LX):={ p0 with st:=.none }
theorem m1_nul : Lf P (Tf P) (y2 a L) [lxO a,lxDict P u a true (y90 x),siO a,siDict P u (y90 x),dqO 0 [],dqO 0 [],dqO n [],rt4 P u a q es eT nx nT] [] 'd' 0 zve (fun ad tk=>[(lxO a),(sv (lxDict P u a true (y90 x)) 15 (.str a181 (tk 3))),(siO a),(siDict P u (y90 x)),'b','b',(dqO n []),(rt4 P u a q es eT nx nT)]) (fun ad tk=>(.val .brk)):=by revert P; refine Lf.rw1 79 (zd 999 0x20212311121410108120131410128120131410108) ?_ ?_ <;> kernel_rfl
theorem m0_nul : Lf P (Tf P) (y5 a L) [lxO a,lxDict P u a false (y90 x),siO a,siDict P u (y90 x),dqO 0 [],dqO 0 [],rt4 P u a q es eT nx nT] [] 'd' 0 zve (fun ad tk=>[(lxO a),(sv (lxDict P u a false (y90 x)) 15 (.str a181 (tk 3))),(siO a),(siDict P u (y90 x)),'b','b',(rt4 P u a q es eT nx nT)]) (fun ad tk=>(.val .brk)):=by revert P; refine Lf.rw1 79 (zd 999 0x20212311121410107120131410127120131410107) ?_ ?_ <;> kernel_rfl
end
end
section
open PySem PySem.W PySem.W.X PyProof.Rows PySem.Builtin PySem.Builtin.Str PySem.Builtin.Int
variable {w : World} {as : List Addr} {cs : List Obj} {D U : Nat} {T : BT}
theorem con_tin {z : Addr} (m : Nat) {x y v : Str} {t u e : Tok} (hz : as[m]? = some z) (hc : cs[m]? = some (tpO [.str x t,.str y u])) (h : ([x,y].any (· == v)) = true) :
  Con w 'c' as (.call (.builtin "tuple.__contains__") ⟨[.ref z,.str v e],[]⟩) cs (xC fun _=>.bool true) D U:=by
 intro A h₀ s hD hU hh X R
 have hg:=R.cell m z _ hz hc
 refine codeAny_call_builtin F.slot_tuple_contains.plain F.entry_tuple_contains (F.slot_tuple_contains.check _ _ _ _ _ _ _ _ ⟨_,hg,rfl⟩ (F.args_tuple_contains_2 _ _) (tuple_contains_strs (ys:=[x,y]) ⟨_,hg,rfl,0,rfl⟩ (.cons x t (.cons y u .nil)) ?_))
 rw [h]
 exact told_now (r:=fun _=>.bool true) 0 _ rfl R
theorem Rep.two {h₀ h h' : Heap} {e t : Addr} {oe ot : Obj} (R : Rep h₀ as cs h) (k : ∀ b o,h.get? b = some o->h'.get? b = some o) (he : h.get? e = none) (ht : h.get? t = none) (hne : e ≠ t)
  (ge : h'.get? e = some oe) (gt : h'.get? t = some ot) : Rep h₀ (as ++ [e,t]) (cs ++ [oe,ot]) h':=by
 have hn : ∀ a ∈ as,a ≠ e ∧ a ≠ t:=fun a ha=>by
  obtain ⟨o,ho⟩:=R.has ha
  constructor <;> (intro q; subst q; simp_all)
 refine ⟨by simp [R.len],?_,?_,?_,fun b o q=>k b o (R.keep b o q)⟩
 ·refine List.nodup_append.mpr ⟨R.nd,by simp [hne],?_⟩
  intro a ha b hb q
  subst q
  simp only [List.mem_cons,List.not_mem_nil,or_false] at hb
  rcases hb with q | q
  ·exact (hn a ha).1 q
  ·exact (hn a ha).2 q
 ·intro m a o h1 h2
  by_cases hm : m < as.length
  ·rw [List.getElem?_append_left hm] at h1
   rw [List.getElem?_append_left (R.len ▸ hm)] at h2
   exact k _ _ (R.cell m a o h1 h2)
  ·rw [List.getElem?_append_right (Nat.le_of_not_lt hm)] at h1
   rw [List.getElem?_append_right (R.len ▸ Nat.le_of_not_lt hm)] at h2
   rw [R.len] at h1
   generalize m - cs.length = j at h1 h2
   match j,h1,h2 with
   | 0,h1,h2=>simp at h1 h2; subst h1 h2; exact ge
   | 1,h1,h2=>simp at h1 h2; subst h1 h2; exact gt
   | j + 2,h1,h2=>simp at h1
 ·intro a ha
  have no : ∀ b,h.get? b = none->h₀.get? b = none:=fun b hb=>by
   cases q : h₀.get? b with
   | none=>rfl
   | some o=>rw [R.keep b o q] at hb; cases hb
  rcases List.mem_append.mp ha with ha | ha
  ·exact R.fresh a ha
  ·simp only [List.mem_cons,List.not_mem_nil,or_false] at ha
   rcases ha with rfl | rfl
   ·exact no _ he
   ·exact no _ ht
theorem con_exc {m : Str} {t : Tok} :
  Con w 'c' as (.call (.type "ValueError") ⟨[.str m t],[]⟩) cs (xVE m) D U:=by
 intro A h₀ s hD hU hh X R
 refine codeAny_of_tree ?_
 show wpAny _ _ (again (.builtin "type.__call__" ⟨.type "ValueError" :: [.str m t],[]⟩)) _ _ _
 obtain ⟨hp,g,d,tk,os⟩:=s
 refine wpAny_pure ⟨Code.quiet_builtin _ (by decide +kernel),codeAny_builtin entry_typeCall (wpAny_type_call_exc F.excCall_ValueError (fun h' e hm=>?_) (by show 1 ≤ sizeLine; decide +kernel))⟩
 obtain ⟨k,hn,t',ge,ht,gt⟩:=hm
 have hne : e ≠ t':=fun q=>by
  subst q
  rw [ge] at gt
  injection gt with gt
  injection gt with h1
  injection h1 with h1
  exact absurd h1 (by decide)
 refine ⟨fun i=>match i with | 0=>e | _=>t',fun _=>t,rfl,?_,⟨rfl,rfl,rfl⟩⟩
 exact R.two k hn ht hne ge gt
theorem con_lenb {x : Str} {t : Tok} (v : Int) (hv : v = x.length) (h : x.length ≤ sizeLine) :
  Con w T as (.builtin "len" ⟨[.str x t],[]⟩) cs (xP fun f=>.int v (f 0)) D U:=by
 subst hv
 intro A h₀ s hD hU hh X R
 refine codeAny_builtin entry_len ?_
 unfold Builtin.«len»
 refine wpAny_bind (m:=oneArg "len" _) (wpAny_pure ?_)
 refine wpAny_bind (m:=callSpecial? (.str x t) (Str.ofString "__len__")) (wpAny_callSpecial?_slot (name:=Str.ofString "__len__") (typeIs_str s x t) F.slot_str_len (call_gives F.slot_str_len (typeIs_str s x t) F.entry_str_len (F.args_str_len_1 _) (gives_str_len x t) ?_))
 show wpAny _ _ _ _ _ { s with toks:=s.toks + 1 }
 refine wpAny_bind (wpAny_holding (wpAny_pure ?_))
 refine wpAny_bind (wpAny_letGo ?_)
 have hs : sizeLine < 2 ^ 63:=by decide +kernel
 show wpAny _ _ (if (x.length : Int) < 0 then _ else _) _ _ _
 rw [if_neg (by omega)]
 show wpAny _ _ (if (x.length : Int) ≥ 2 ^ 63 then _ else _) _ _ _
 rw [if_neg (by omega)]
 exact wpAny_bind (wpAny_mkInt (wpAny_pure (told_at _ _ rfl R)))
variable {w : World} {as : List Addr} {cs : List Obj} {D U : Nat} {T : BT}
inductive St where
 | nul | sp | a | c | sq | dq | ea | ed
inductive Io where
 | no | line | push
inductive Nx where
 | err (b : Bool)
 | go (stop : Bool) (st : St) (tok : List Nat) (q : Bool) (io : Io)
inductive Cl where
 | white | hash | esc | word | punct | sq | dq
noncomputable def cl (c : Nat) : Cl :=
 if c = 32 ∨ c = 9 ∨ c = 13 ∨ c = 10 then .white
 else if c = 35 then .hash
 else if c = 92 then .esc
 else if c = 39 then .sq
 else if c = 34 then .dq
 else if c = 40 ∨ c = 41 ∨ c = 59 ∨ c = 60 ∨ c = 62 ∨ c = 124 ∨ c = 38 then .punct
 else .word
noncomputable def step (k : Bool) (st : St) (tok : List Nat) (q : Bool) (oc : Option Nat) : Nx:=match st,oc with
 | .nul,_=>.go true .nul [] q .no
 | .sp,none=>.go true .nul tok q .no
 | .sp,some c=>match cl c with
  | .white=>.go false .sp tok q .no
  | .hash=>.go false .sp tok q .line
  | .esc=>.go false .ea tok q .no
  | .word=>.go false .a [c] q .no
  | .punct=>match k with
   | true=>.go false .c [c] q .no
   | false=>.go false .a [c] q .no
  | .sq=>.go false .sq tok q .no
  | .dq=>.go false .dq tok q .no
 | .sq,none=>.err true
 | .dq,none=>.err true
 | .ea,none=>.err false
 | .ed,none=>.err false
 | .sq,some c=>match cl c with
  | .sq=>.go false .a tok true .no
  | _=>.go false .sq (tok ++ [c]) true .no
 | .dq,some c=>match cl c with
  | .dq=>.go false .a tok true .no
  | .esc=>.go false .ed tok true .no
  | _=>.go false .dq (tok ++ [c]) true .no
 | .ea,some c=>.go false .a (tok ++ [c]) q .no
 | .ed,some c=>match cl c with
  | .dq=>.go false .dq (tok ++ [c]) q .no
  | .esc=>.go false .dq (tok ++ [c]) q .no
  | _=>.go false .dq (tok ++ [92] ++ [c]) q .no
 | .a,none=>.go true .nul tok q .no
 | .a,some c=>match cl c with
  | .white=>.go true .sp tok q .no
  | .hash=>.go true .sp tok q .line
  | .esc=>.go false .ea tok q .no
  | .word=>.go false .a (tok ++ [c]) q .no
  | .punct=>match k with
   | true=>.go true .sp tok q .push
   | false=>.go false .a (tok ++ [c]) q .no
  | .sq=>.go false .sq tok q .no
  | .dq=>.go false .dq tok q .no
 | .c,none=>.go true .nul tok q .no
 | .c,some c=>match cl c with
  | .white=>.go true .sp tok q .no
  | .hash=>.go true .sp tok q .line
  | .punct=>.go false .c (tok ++ [c]) q .no
  | _=>.go true .sp tok q .push
noncomputable def Inv (st : St) (tok : List Nat) (q : Bool) : Prop:=match st with
 | .sp=>tok = [] ∧ q = false
 | .a=>tok ≠ [] ∨ q = true
 | .c=>tok ≠ [] ∧ q = false
 | _=>True
noncomputable def alpha : List Nat:=[39,34,92,32,10,97,59,124,35,9,13,40,41,60,62,38,98,55,95,126,45,46,47,42,63,61,233,223]
noncomputable def wcL : List Nat:=[nat_lit 97,nat_lit 98,nat_lit 99,nat_lit 100,nat_lit 102,nat_lit 101,nat_lit 103,nat_lit 104,nat_lit 105,nat_lit 106,nat_lit 107,nat_lit 108,nat_lit 109,nat_lit 110,nat_lit 111,nat_lit 112,nat_lit 113,nat_lit 114,nat_lit 115,nat_lit 116,nat_lit 117,nat_lit 118,nat_lit 119,nat_lit 120,nat_lit 121,nat_lit 122,nat_lit 65,nat_lit 66,nat_lit 67,nat_lit 68,nat_lit 69,nat_lit 70,nat_lit 71,nat_lit 72,nat_lit 73,nat_lit 74,nat_lit 75,nat_lit 76,nat_lit 77,nat_lit 78,nat_lit 79,nat_lit 80,nat_lit 81,nat_lit 82,nat_lit 83,nat_lit 84,nat_lit 85,nat_lit 86,nat_lit 87,nat_lit 88,nat_lit 89,nat_lit 90,nat_lit 48,nat_lit 49,nat_lit 50,nat_lit 51,nat_lit 52,nat_lit 53,nat_lit 54,nat_lit 55,nat_lit 56,nat_lit 57,nat_lit 95,nat_lit 223,nat_lit 224,nat_lit 225,nat_lit 226,nat_lit 227,nat_lit 228,nat_lit 229,nat_lit 230,nat_lit 231,nat_lit 232,nat_lit 233,nat_lit 234,nat_lit 235,nat_lit 236,nat_lit 237,nat_lit 238,nat_lit 239,nat_lit 240,nat_lit 241,nat_lit 242,nat_lit 243,nat_lit 244,nat_lit 245,nat_lit 246,nat_lit 248,nat_lit 249,nat_lit 250,nat_lit 251,nat_lit 252,nat_lit 253,nat_lit 254,nat_lit 255,nat_lit 192,nat_lit 193,nat_lit 194,nat_lit 195,nat_lit 196,nat_lit 197,nat_lit 198,nat_lit 199,nat_lit 200,nat_lit 201,nat_lit 202,nat_lit 203,nat_lit 204,nat_lit 205,nat_lit 206,nat_lit 207,nat_lit 208,nat_lit 209,nat_lit 210,nat_lit 211,nat_lit 212,nat_lit 213,nat_lit 214,nat_lit 216,nat_lit 217,nat_lit 218,nat_lit 219,nat_lit 220,nat_lit 221,nat_lit 222,nat_lit 126,nat_lit 45,nat_lit 46,nat_lit 47,nat_lit 42,nat_lit 63,nat_lit 61]
noncomputable def wcG : List Nat:=[nat_lit 97,nat_lit 98,nat_lit 99,nat_lit 100,nat_lit 102,nat_lit 101,nat_lit 103,nat_lit 104,nat_lit 105,nat_lit 106,nat_lit 107,nat_lit 108,nat_lit 109,nat_lit 110,nat_lit 111,nat_lit 112,nat_lit 113,nat_lit 114,nat_lit 115,nat_lit 116,nat_lit 117,nat_lit 118,nat_lit 119,nat_lit 120,nat_lit 121,nat_lit 122,nat_lit 65,nat_lit 66,nat_lit 67,nat_lit 68,nat_lit 69,nat_lit 70,nat_lit 71,nat_lit 72,nat_lit 73,nat_lit 74,nat_lit 75,nat_lit 76,nat_lit 77,nat_lit 78,nat_lit 79,nat_lit 80,nat_lit 81,nat_lit 82,nat_lit 83,nat_lit 84,nat_lit 85,nat_lit 86,nat_lit 87,nat_lit 88,nat_lit 89,nat_lit 90,nat_lit 48,nat_lit 49,nat_lit 50,nat_lit 51,nat_lit 52,nat_lit 53,nat_lit 54,nat_lit 55,nat_lit 56,nat_lit 57,nat_lit 95,nat_lit 223,nat_lit 224,nat_lit 225,nat_lit 226,nat_lit 227,nat_lit 228,nat_lit 229,nat_lit 230,nat_lit 231,nat_lit 232,nat_lit 233,nat_lit 234,nat_lit 235,nat_lit 236,nat_lit 237,nat_lit 238,nat_lit 239,nat_lit 240,nat_lit 241,nat_lit 242,nat_lit 243,nat_lit 244,nat_lit 245,nat_lit 246,nat_lit 248,nat_lit 249,nat_lit 250,nat_lit 251,nat_lit 252,nat_lit 253,nat_lit 254,nat_lit 255,nat_lit 192,nat_lit 193,nat_lit 194,nat_lit 195,nat_lit 196,nat_lit 197,nat_lit 198,nat_lit 199,nat_lit 200,nat_lit 201,nat_lit 202,nat_lit 203,nat_lit 204,nat_lit 205,nat_lit 206,nat_lit 207,nat_lit 208,nat_lit 209,nat_lit 210,nat_lit 211,nat_lit 212,nat_lit 213,nat_lit 214,nat_lit 216,nat_lit 217,nat_lit 218,nat_lit 219,nat_lit 220,nat_lit 221,nat_lit 222]
noncomputable def wcs (k : Bool) : List Nat:=match k with
 | true=>wcL
 | false=>wcG
noncomputable def isW : Cl->Bool | .white=>true | _=>false
noncomputable def isH : Cl->Bool | .hash=>true | _=>false
noncomputable def isE : Cl->Bool | .esc=>true | _=>false
noncomputable def isQ : Cl->Bool | .sq=>true | .dq=>true | _=>false
noncomputable def isP : Cl->Bool | .punct=>true | _=>false
noncomputable def isWd : Cl->Bool | .word=>true | _=>false
structure Fc (c : Nat) : Prop where
 w : decide (c ∈ [32,9,13,10]) = isW (cl c)
 h : decide (c ∈ [35]) = isH (cl c)
 e : decide (c ∈ [92]) = isE (cl c)
 q : decide (c ∈ [39,34]) = isQ (cl c)
 p : decide (c ∈ [40,41,59,60,62,124,38]) = isP (cl c)
theorem facts (c : Nat) : Fc c:=by
 by_cases h1 : c = 32 ∨ c = 9 ∨ c = 13 ∨ c = 10
 ·rcases h1 with rfl | rfl | rfl | rfl <;> exact ⟨rfl,rfl,rfl,rfl,rfl⟩
 by_cases h2 : c = 35
 ·subst h2; exact ⟨rfl,rfl,rfl,rfl,rfl⟩
 by_cases h3 : c = 92
 ·subst h3; exact ⟨rfl,rfl,rfl,rfl,rfl⟩
 by_cases h4 : c = 39
 ·subst h4; exact ⟨rfl,rfl,rfl,rfl,rfl⟩
 by_cases h5 : c = 34
 ·subst h5; exact ⟨rfl,rfl,rfl,rfl,rfl⟩
 by_cases h6 : c = 40 ∨ c = 41 ∨ c = 59 ∨ c = 60 ∨ c = 62 ∨ c = 124 ∨ c = 38
 ·rcases h6 with rfl | rfl | rfl | rfl | rfl | rfl | rfl <;> exact ⟨rfl,rfl,rfl,rfl,rfl⟩
 have hc : cl c = .word:=by simp [cl,h1,h2,h3,h4,h5,h6]
 constructor <;> rw [hc] <;> simp only [isW,isH,isE,isQ,isP,decide_eq_false_iff_not,List.mem_cons,List.not_mem_nil,or_false] <;> omega
theorem wct_ok : (alpha.all fun c=>decide (c ∈ wcs true) == isWd (cl c)) = true:=by decide +kernel
theorem wcf_ok : (alpha.all fun c=>!(decide (c ∈ wcs false)) || isWd (cl c)) = true:=by decide +kernel
theorem wct {c : Nat} (h : c ∈ alpha) : decide (c ∈ wcs true) = isWd (cl c):=by
 have:=List.all_eq_true.mp wct_ok c h
 exact eq_of_beq this
theorem wcf {c : Nat} (h : c ∈ alpha) (hc : isWd (cl c) = false) : decide (c ∈ wcs false) = false:=by
 have:=List.all_eq_true.mp wcf_ok c h
 rw [hc] at this
 simpa using this
theorem cl_sq {c : Nat} (h : cl c = .sq) : c = 39:=by
 unfold cl at h
 repeat' split at h
 all_goals first | assumption | cases h
theorem cl_dq {c : Nat} (h : cl c = .dq) : c = 34:=by
 unfold cl at h
 repeat' split at h
 all_goals first | assumption | cases h
theorem cl_esc {c : Nat} (h : cl c = .esc) : c = 92:=by
 unfold cl at h
 repeat' split at h
 all_goals first | assumption | cases h
theorem beq_no {c d : Nat} (h : c ≠ d) : ([c] == [d]) = false:=by simp [h]
theorem bne_no {c d : Nat} (h : c ≠ d) : ([c] != [d]) = true:=by simp [h]
theorem ne_of_cl {c d : Nat} (h : cl c ≠ cl d) : c ≠ d:=fun q=>h (q ▸ rfl)
theorem mem_no {c d : Nat} (h : c ≠ d) : decide (c ∈ [d]) = false:=by simp [h]
theorem str_snoc (l m : List Nat) : (⟨⟨l⟩⟩ : Str) ++ ⟨⟨m⟩⟩ = ⟨⟨l ++ m⟩⟩:=by
 show (⟨_⟩ : Str) = _
 simp
theorem con_snoc {l : List Nat} {c : Nat} {t u : Tok} (h : l.length ≤ 1001) :
  Con w T as (.call (.builtin "str.__add__") ⟨[.str ⟨⟨l⟩⟩ t,.str ⟨⟨[c]⟩⟩ u],[]⟩) cs (xP fun f=>.str ⟨⟨l ++ [c]⟩⟩ (f 0)) D U:=by
 have hs : (1002 : Nat) ≤ sizeLine:=by decide +kernel
 have e:=str_snoc l [c]
 have:=con_add (w:=w) (T:=T) (as:=as) (cs:=cs) (x:=⟨⟨l⟩⟩) (y:=⟨⟨[c]⟩⟩) (t:=t) (u:=u) (D:=D) (U:=U) (by rw [e]; show (l ++ [c]).length ≤ _; simp; omega)
 rw [e] at this
 exact this
noncomputable def stV (st : St) (T : Tok) : Value:=match st with
 | .nul=>.none
 | .sp=>.str ⟨⟨[nat_lit 32]⟩⟩ T
 | .a=>.str a398 T
 | .c=>.str ⟨⟨[nat_lit 99]⟩⟩ T
 | .sq=>.str ⟨⟨[nat_lit 39]⟩⟩ T
 | .dq=>.str ⟨⟨[nat_lit 34]⟩⟩ T
 | .ea=>.str ⟨⟨[nat_lit 92]⟩⟩ T
 | .ed=>.str ⟨⟨[nat_lit 92]⟩⟩ T
noncomputable def esOk (st : St) (es : Str) : Prop:=match st with
 | .ea=>es = a398
 | .ed=>es = ⟨⟨[nat_lit 34]⟩⟩
 | _=>True
noncomputable def xS (x : LX) (st : St) (sT : Tok) (tok : List Nat) : LX:={ x with st:=stV st sT,tok:=⟨⟨tok⟩⟩ }
theorem xS_eq {x : LX} {st : St} {T : Tok} {tok : List Nat} (h1 : x.st = stV st T) (h2 : x.tok = ⟨⟨tok⟩⟩) : x = xS x st T tok:=by
 obtain ⟨_,_,_,_,_,_,_,_,_,_⟩:=x
 simp only at h1 h2
 subst h1 h2
 rfl
noncomputable def ASr (k : Bool) (a : AD) (L : Addr) : List Addr:=match k with
 | true=>[a.lx,a.ld,a.si,a.sd,a.d1,a.d2,a.d3,L]
 | false=>[a.lx,a.ld,a.si,a.sd,a.d1,a.d2,L]
noncomputable def CSr (k : Bool) (P : Params) (u : Nat->Tok) (a : AD) (x : LX) (n : Int) (pb : List Value) (fr : Obj) : List Obj:=match k with
 | true=>[lxO a,lxDict P u a true x,siO a,siDict P u x,dqO 0 [],dqO 0 [],dqO n pb,fr]
 | false=>[lxO a,lxDict P u a false x,siO a,siDict P u x,dqO 0 [],dqO 0 [],fr]
theorem ASr_len (k : Bool) (a : AD) (L : Addr) (P : Params) (u : 'f') (x : LX) (n : Int) (pb : List Value) (fr : Obj) : (CSr k P u a x n pb fr).length = (ASr k a L).length:=by cases k <;> rfl
noncomputable def AtP (x : LX) (post : List Nat) : Prop:=x.buf.length ≤ sizeLine ∧ ∃ pre,x.buf.cps.toList = pre ++ post ∧ x.pos = pre.length
noncomputable def nxS (oc : Option Nat) : Str:=match oc with
 | none=>⟨⟨[]⟩⟩
 | some c=>⟨⟨[c]⟩⟩
noncomputable def afterIo (io : Io) (post : List Nat) : List Nat:=match io with
 | .line=>skipLine post
 | _=>post
noncomputable def pbOf (io : Io) (oc : Option Nat) (nT : Tok) : List Value:=match io,oc with
 | .push,some c=>[.str ⟨⟨[c]⟩⟩ nT]
 | _,_=>[]
noncomputable def flowOk (stop : Bool) (f : Flow) : Prop:=match stop with
 | true=>f = .brk
 | false=>f = .next ∨ f = .cont
noncomputable def msgOf (b : Bool) : Str:=match b with
 | true=>msgQ
 | false=>msgE
section
variable (P : Params) (u : Nat->Tok) (a : AD) (k : Bool) (x : LX) (v : Value) (i : Int) (q : Bool) (es : Str) (eT : Tok) (nx : Str) (nT : Tok) (z : Str) (t : Tok) (b : Bool)
theorem lx_st : sv (lxDict P u a k x) 11 v = lxDict P u a k { x with st:=v }:=by cases k <;> kernel_rfl!
theorem lx_tok : sv (lxDict P u a k x) 15 (.str z t) = lxDict P u a k { x with tok:=z,tokT:=t }:=by cases k <;> kernel_rfl!
theorem lx_ln : sv (lxDict P u a k x) 13 (.int i t) = lxDict P u a k { x with ln:=i,lnT:=t }:=by cases k <;> kernel_rfl!
theorem si_pos : sv 'i' 2 (.int i t) = siDict P u { x with pos:=i,posT:=t }:=by kernel_rfl!
theorem rt_q : sv (rt4 P u a q es eT nx nT) 1 (.bool b) = rt4 P u a b es eT nx nT:=by kernel_rfl!
theorem rt_es : sv (rt4 P u a q es eT nx nT) 2 (.str z t) = rt4 P u a q z t nx nT:=by kernel_rfl!
theorem rt_nx : sv (rt4 P u a q es eT nx nT) 3 (.str z t) = rt4 P u a q es eT z t:=by kernel_rfl!
end
end
section
open PySem PySem.Builtin PySem.W PySem.W.X PyProof.Rows
variable {w : World} {D U : Nat} {T : BT}
theorem lx_p (P : Params) (u : 'f') (a : AD) (k : Bool) (x : LX) (p : Int) (t : Tok) : lxDict P u a k x = lxDict P u a k { x with pos:=p,posT:=t }:=rfl
theorem rt4_nf (P : Params) (u : 'f') (a : AD) (q : Bool) (es : Str) (eT : Tok) (nx : Str) (nT : Tok) : ∀ vs,(rt4 P u a q es eT nx nT).data ≠ .fields vs:=fun vs h=>by
 unfold rt4 frm at h
 cases h
theorem zc {α : Type} {p : α->Prop} {a : α} {l : List α} (h : p a) (k : ∀ y ∈ l,p y) : ∀ y ∈ a :: l,p y:=all_cons h k
theorem zi0 {x : Str} {c : Nat} {t u : Tok} (h : decide (c ∈ x.cps.toList) = false) (as : List Addr) (cs : List Obj) : Con w T as (.call (.builtin "str.__contains__") ⟨[.str x t,.str ⟨⟨[c]⟩⟩ u],[]⟩) cs (xP fun _=>.bool false) D U:=con_in1 false h
theorem zi1 {x : Str} {c : Nat} {t u : Tok} (h : decide (c ∈ x.cps.toList) = true) (as : List Addr) (cs : List Obj) : Con w T as (.call (.builtin "str.__contains__") ⟨[.str x t,.str ⟨⟨[c]⟩⟩ u],[]⟩) cs (xP fun _=>.bool true) D U:=con_in1 true h
theorem ze0 {x y : Str} {t u : Tok} (h : (x.cps.toList == y.cps.toList) = false) (as : List Addr) (cs : List Obj) : Con w T as (.call (.builtin "str.__eq__") ⟨[.str x t,.str y u],[]⟩) cs (xP fun _=>.bool false) D U:=con_eq false h
theorem ze1 {x y : Str} {t u : Tok} (h : (x.cps.toList == y.cps.toList) = true) (as : List Addr) (cs : List Obj) : Con w T as (.call (.builtin "str.__eq__") ⟨[.str x t,.str y u],[]⟩) cs (xP fun _=>.bool true) D U:=con_eq true h
theorem zq {l : List Nat} {c : Nat} {t u : Tok} (h : l.length ≤ 1001) (as : List Addr) (cs : List Obj) : Con w T as (.call (.builtin "str.__add__") ⟨[.str ⟨⟨l⟩⟩ t,.str ⟨⟨[c]⟩⟩ u],[]⟩) cs (xP fun f=>.str ⟨⟨l ++ [c]⟩⟩ (f 0)) D U:=con_snoc h
theorem zall : (∀ (P : Params) (u : 'f') (a : AD) (k : Bool) (x : LX) (v : Value),sv (lxDict P u a k x) 11 v = lxDict P u a k { x with st:=v }) ∧ (∀ (P : Params) (u : 'f') (a : AD) (k : Bool) (x : LX) (z : Str) (t : Tok),sv (lxDict P u a k x) 15 (.str z t) = lxDict P u a k { x with tok:=z,tokT:=t }) ∧
  (∀ (P : Params) (u : 'f') (a : AD) (k : Bool) (x : LX) (i : Int) (t : Tok),sv (lxDict P u a k x) 13 (.int i t) = lxDict P u a k { x with ln:=i,lnT:=t }) ∧ (∀ (P : Params) (u : 'f') (x : LX) (i : Int) (t : Tok),sv 'i' 2 (.int i t) = siDict P u { x with pos:=i,posT:=t }) ∧
  (∀ (P : Params) (u : 'f') (a : AD) (q : Bool) (es : Str) (eT : Tok) (nx : Str) (nT : Tok) (b : Bool),sv (rt4 P u a q es eT nx nT) 1 (.bool b) = rt4 P u a b es eT nx nT) ∧ (∀ (P : Params) (u : 'f') (a : AD) (q : Bool) (es : Str) (eT : Tok) (nx : Str) (nT : Tok) (z : Str) (t : Tok),sv (rt4 P u a q es eT nx nT) 2 (.str z t) = rt4 P u a q z t nx nT) :=
 ⟨lx_st,lx_tok,lx_ln,si_pos,rt_q,rt_es⟩
noncomputable def MainT (w : World) (k : Bool) (st : St) : Prop:=∀ (u : Nat->Tok) (a : AD) (x : LX) (sT : Tok) (tok : List Nat) (q : Bool) (es : Str) (eT : Tok) (n : Int) (L : Addr) (nT : Tok) (oc : Option Nat) (post : List Nat) (A : Around) (h₀ : Heap) (s : Shared) (Q : Flow->Shared->Prop) (E : Value->Shared->Prop),
  Inv st tok q->(∀ c,oc = some c->c ∈ alpha)->AtP x post->tok.length ≤ 1000->x.wc.cps.toList = wcs k->esOk st es->A.depth + 5 < recursionLimit->A.handled = none->TopIn (Tf w.params) h₀ →
  Rep h₀ (ASr k a L) (CSr k w.params u a (xS x st sT tok) n [] (rt4 w.params u a q es eT (nxS oc) nT)) s.heap →
  (∀ stop st2 tok2 q2 io,step k st tok q oc = .go stop st2 tok2 q2 io->∀ f x2 n2 es2 eT2 s',Rep h₀ (ASr k a L) (CSr k w.params u a x2 n2 (pbOf io oc nT) (rt4 w.params u a q2 es2 eT2 (nxS oc) nT)) s'.heap->Same s s'->flowOk stop f->AtP x2 (afterIo io post)->x2.wc = x.wc->(∃ T,x2.st = stV st2 T)->x2.tok = ⟨⟨tok2⟩⟩ →
   esOk st2 es2->Q f s') →
  (∀ b,step k st tok q oc = .err b->∀ e t m fr s',Rep h₀ (ASr k a L ++ [e,t]) (CSr k w.params u a (xS x st sT tok) n [] fr ++ [excO t,tpO [.str (msgOf b) m]]) s'.heap->Same s s'->(∀ vs,fr.data ≠ .fields vs)->E (.ref e) s') →
  WP w A (execs ((sBody (sNth body697 2)).drop 2) (env697 L)) Q E s
theorem step_sq (k : Bool) {c : Nat} (h1 : c ≠ 39) (h2 : c ≠ 92) (tok : List Nat) (q : Bool) : step k .sq tok q (some c) = .go false .sq (tok ++ [c]) true .no:=by
 simp only [step]
 split
 ·rename_i h; exact absurd (cl_sq h) h1
 ·rfl
theorem step_dq (k : Bool) {c : Nat} (h1 : c ≠ 34) (h2 : c ≠ 92) (tok : List Nat) (q : Bool) : step k .dq tok q (some c) = .go false .dq (tok ++ [c]) true .no:=by
 simp only [step]
 split
 ·rename_i h; exact absurd (cl_dq h) h1
 ·rename_i h; exact absurd (cl_esc h) h2
 ·rfl
theorem step_ed (k : Bool) {c : Nat} (h1 : c ≠ 34) (h2 : c ≠ 92) (tok : List Nat) (q : Bool) : step k .ed tok q (some c) = .go false .dq (tok ++ [92] ++ [c]) q .no:=by
 simp only [step]
 split
 ·rename_i h; exact absurd (cl_dq h) h1
 ·rename_i h; exact absurd (cl_esc h) h2
 ·rfl
theorem at_line {x y : LX} {pre post : List Nat} {p : Nat} (hp : AtP x post) (hpre : x.buf.cps.toList = pre ++ post) (hl : p + (skipLine post).length = x.buf.length) (hb : y.buf = x.buf:=by rfl) (hy : y.pos = p:=by rfl) : AtP y (skipLine post):=by
 have hn : ∃ p2,post = p2 ++ skipLine post:=by
  rcases skipLine_cases post with ⟨_,h2⟩ | ⟨mid,rest,h1,_,h2⟩
  ·exact ⟨post,by rw [h2]; simp⟩
  ·exact ⟨mid ++ [10],by rw [h2,h1]; simp⟩
 obtain ⟨p2,hp2⟩:=hn
 refine ⟨by rw [hb]; exact hp.1,pre ++ p2,by rw [hb,hpre,List.append_assoc,← hp2],?_⟩
 rw [hy]
 have e : x.buf.length = pre.length + (p2.length + (skipLine post).length):=by
  show x.buf.cps.size = _
  rw [← Array.length_toList,hpre,List.length_append,← List.length_append (as:=p2),← hp2]
 have : p = (pre ++ p2).length:=by rw [List.length_append]; omega
 rw [this]
theorem len_ok {e : Nat} {l : List Nat} (h : (e :: l).length ≤ 1000) : (⟨⟨e :: l⟩⟩ : Str).length ≤ sizeLine:=by
 have hs : (1000 : Nat) ≤ sizeLine:=by decide +kernel
 show (e :: l).length ≤ _
 omega
theorem main1_nul : MainT w true .nul:=by
 intro u a x sT tok q es eT n L nT oc post A h₀ s Q E hinv hal hp htl hwc hes hd hh X R hQ hE
 rw [tw_execs]
 have hd0 : A.depth + 0 < recursionLimit:=by omega
 have hd1 : A.depth + 0 + 1 < recursionLimit:=by omega
 obtain ⟨hsz,pre,hpre,hpos⟩:=id hp
 refine (m1_nul w.params u a (xS x .nul sT tok) n L q es eT (nxS oc) nT).sound X R hh 'a' (fun ad tk=>all_nil) fun ad tk s R S=>?_
 try simp only [zall] at R
 exact hQ _ _ _ _ _ rfl _ _ _ _ _ s R S rfl hp rfl ⟨0,rfl⟩ rfl trivial
theorem main1_sp : MainT w true .sp:=by
 intro u a x sT tok q es eT n L nT oc post A h₀ s Q E hinv hal hp htl hwc hes hd hh X R hQ hE
 rw [tw_execs]
 have hd0 : A.depth + 0 < recursionLimit:=by omega
 have hd1 : A.depth + 0 + 1 < recursionLimit:=by omega
 obtain ⟨hsz,pre,hpre,hpos⟩:=id hp
 obtain ⟨rfl,rfl⟩:=hinv
 cases oc with
 | none =>
  refine (m1_sp_eof w.params u a (xS x .sp sT []) n L es eT nT sT).sound X R hh 'a' (fun ad tk=>zc (ze1 rfl) all_nil) fun ad tk s R S=>?_
  try simp only [zall] at R
  exact hQ _ _ _ _ _ rfl _ _ _ _ _ s R S rfl hp rfl ⟨0,rfl⟩ rfl trivial
 | some c =>
  have hc:=hal c rfl
  obtain ⟨hW,hH,hEs,hQu,hP⟩:=facts c
  have hWd : decide (c ∈ x.wc.cps.toList) = isWd (cl c):=by rw [hwc]; exact wct hc
  simp only [step] at hQ hE
  cases hcl : cl c <;> rw [hcl] at hW hH hEs hQu hP hWd <;> simp only [hcl] at hQ hE
  case white =>
   refine (m1_sp_white w.params u a (xS x .sp sT []) n L es eT c nT sT).sound X R hh 'a' (fun ad tk=>zc (ze1 rfl) (zc (zi1 hW) all_nil)) fun ad tk s R S=>?_
   try simp only [zall] at R
   exact hQ _ _ _ _ _ rfl _ _ _ _ _ s R S (.inr rfl) hp rfl ⟨_,rfl⟩ rfl trivial
  case hash =>
   obtain ⟨yrl,prl,hpl,hrl⟩:=rl_con (w:=w) u a (xS x .sp sT []) hp.1 hpre hpos
   refine (m1_sp_hash w.params u a (xS x .sp sT []) n L es eT c nT sT yrl prl).sound X R hh 'a' (fun ad tk=>zc (ze1 rfl) (zc (zi0 hW) (zc (zi1 hH) (zc (Con.frame (l₁:=[a.lx,a.ld]) (as:=[a.si,a.sd]) (l₂:=[_,_,_,_]) (c₁:=[_,_]) (cs:=[_,_]) (c₂:=[_,_,_,_]) (hrl _ _ hd1) rfl rfl rfl rfl rfl 'a' 'a') all_nil)))) fun ad tk s R S=>?_
   try simp only [zall] at R
   rw [lx_p _ _ _ _ _ prl (tk 35)] at R
   exact hQ _ _ _ _ _ rfl _ _ _ _ _ s R S (.inl rfl) (at_line hp hpre hpl) rfl ⟨_,rfl⟩ rfl trivial
  case esc =>
   cases cl_esc hcl
   refine (m1_sp_esc w.params u a (xS x .sp sT []) n L es eT nT sT).sound X R hh 'a' (fun ad tk=>zc (ze1 rfl) (zc 'o' (zc 'o' (zc (zi1 rfl) all_nil)))) fun ad tk s R S=>?_
   try simp only [zall] at R
   exact hQ _ _ _ _ _ rfl _ _ _ _ _ s R S (.inl rfl) hp rfl ⟨_,rfl⟩ rfl rfl
  case word =>
   refine (m1_sp_word w.params u a (xS x .sp sT []) n L es eT c nT sT).sound X R hh 'a' (fun ad tk=>zc (ze1 rfl) (zc (zi0 hW) (zc (zi0 hH) (zc (zi0 hEs) (zc (zi1 hWd) all_nil))))) fun ad tk s R S=>?_
   try simp only [zall] at R
   exact hQ _ _ _ _ _ rfl _ _ _ _ _ s R S (.inl rfl) hp rfl ⟨_,rfl⟩ rfl trivial
  case punct =>
   refine (m1_sp_punct w.params u a (xS x .sp sT []) n L es eT c nT sT).sound X R hh 'a' (fun ad tk=>zc (ze1 rfl) (zc (zi0 hW) (zc (zi0 hH) (zc (zi0 hEs) (zc (zi0 hWd) (zc (Con.left (as:=[a.lx,a.ld]) (l₂:=[_,_,_,_,_,_]) (cs:=[_,_]) (c₂:=[_,_,_,_,_,_]) (pc1_con u a _ hd0) rfl) (zc (zi1 hP) all_nil))))))) fun ad tk s R S=>?_
   try simp only [zall] at R
   exact hQ _ _ _ _ _ rfl _ _ _ _ _ s R S (.inl rfl) hp rfl ⟨_,rfl⟩ rfl trivial
  case sq =>
   cases cl_sq hcl
   refine (m1_sp_sq w.params u a (xS x .sp sT []) n L es eT nT sT).sound X R hh 'a' (fun ad tk=>zc (ze1 rfl) (zc 'o' (zc 'o' (zc 'o' (zc (zi0 hWd) (zc (Con.left (as:=[a.lx,a.ld]) (l₂:=[_,_,_,_,_,_]) (cs:=[_,_]) (c₂:=[_,_,_,_,_,_]) (pc1_con u a _ hd0) rfl) (zc (zi0 hP) (zc (zi1 rfl) all_nil)))))))) fun ad tk s R S=>?_
   try simp only [zall] at R
   exact hQ _ _ _ _ _ rfl _ _ _ _ _ s R S (.inl rfl) hp rfl ⟨_,rfl⟩ rfl trivial
  case dq =>
   cases cl_dq hcl
   refine (m1_sp_dq w.params u a (xS x .sp sT []) n L es eT nT sT).sound X R hh 'a' (fun ad tk=>zc (ze1 rfl) (zc 'o' (zc 'o' (zc 'o' (zc (zi0 hWd) (zc (Con.left (as:=[a.lx,a.ld]) (l₂:=[_,_,_,_,_,_]) (cs:=[_,_]) (c₂:=[_,_,_,_,_,_]) (pc1_con u a _ hd0) rfl) (zc (zi0 hP) (zc (zi1 rfl) all_nil)))))))) fun ad tk s R S=>?_
   try simp only [zall] at R
   exact hQ _ _ _ _ _ rfl _ _ _ _ _ s R S (.inl rfl) hp rfl ⟨_,rfl⟩ rfl trivial
theorem main1_a : MainT w true .a:=by
 intro u a x sT tok q es eT n L nT oc post A h₀ s Q E hinv hal hp htl hwc hes hd hh X R hQ hE
 rw [tw_execs]
 have hd0 : A.depth + 0 < recursionLimit:=by omega
 have hd1 : A.depth + 0 + 1 < recursionLimit:=by omega
 obtain ⟨hsz,pre,hpre,hpos⟩:=id hp
 cases oc with
 | none =>
  refine (m1_a_eof w.params u a (xS x .a sT tok) n L q es eT nT sT).sound X R hh 'a' (fun ad tk=>zc (ze0 rfl) (zc 'o' (zc 'o' (zc (con_tin 8 rfl rfl (by decide)) all_nil)))) fun ad tk s R S=>?_
  try simp only [zall] at R
  exact hQ _ _ _ _ _ rfl _ _ _ _ _ s R S rfl hp rfl ⟨0,rfl⟩ rfl trivial
 | some c =>
  have hc:=hal c rfl
  obtain ⟨hW,hH,hEs,hQu,hP⟩:=facts c
  have hWd : decide (c ∈ x.wc.cps.toList) = isWd (cl c):=by rw [hwc]; exact wct hc
  simp only [step] at hQ hE
  cases hcl : cl c <;> rw [hcl] at hW hH hEs hQu hP hWd <;> simp only [hcl] at hQ hE
  case white =>
   cases tok with
   | nil =>
    have hq : q = true:=hinv.resolve_left (fun h=>h rfl)
    subst hq
    refine (m1_a_white_q w.params u a (xS x .a sT []) n L es eT c nT sT).sound X R hh 'a' (fun ad tk=>zc (ze0 rfl) (zc 'o' (zc 'o' (zc (con_tin 8 rfl rfl (by decide)) (zc (zi1 hW) all_nil))))) fun ad tk s R S=>?_
    try simp only [zall] at R
    exact hQ _ _ _ _ _ rfl _ _ _ _ _ s R S rfl hp rfl ⟨_,rfl⟩ rfl trivial
   | cons e l =>
    have hlen : (⟨⟨e :: l⟩⟩ : Str).length ≤ sizeLine:=len_ok htl
    refine (m1_a_white_t w.params u a (xS x .a sT (e :: l)) n L q es eT c nT sT e l l.length).sound X R hh 'a' (fun ad tk=>zc (ze0 rfl) (zc 'o' (zc 'o' (zc (con_tin 8 rfl rfl (by decide)) (zc (zi1 hW) (zc (fun _ _=>con_lenb _ rfl hlen) all_nil)))))) fun ad tk s R S=>?_
    try simp only [zall] at R
    exact hQ _ _ _ _ _ rfl _ _ _ _ _ s R S rfl hp rfl ⟨_,rfl⟩ rfl trivial
  case hash =>
   cases tok with
   | nil =>
    have hq : q = true:=hinv.resolve_left (fun h=>h rfl)
    subst hq
    obtain ⟨yrl,prl,hpl,hrl⟩:=rl_con (w:=w) u a (xS x .a sT []) hp.1 hpre hpos
    refine (m1_a_hash_q w.params u a (xS x .a sT []) n L es eT c nT sT yrl prl).sound X R hh 'a' (fun ad tk=>zc (ze0 rfl) (zc 'o' (zc 'o' (zc (con_tin 8 rfl rfl (by decide)) (zc (zi0 hW) (zc (zi1 hH) (zc (Con.frame (l₁:=[a.lx,a.ld]) (as:=[a.si,a.sd]) (l₂:=[_,_,_,_,_]) (c₁:=[_,_]) (cs:=[_,_]) (c₂:=[_,_,_,_,_]) (hrl _ _ hd1) rfl rfl rfl rfl rfl 'a' 'a') all_nil))))))) fun ad tk s R S=>?_
    try simp only [zall] at R
    rw [lx_p _ _ _ _ _ prl (tk 66)] at R
    exact hQ _ _ _ _ _ rfl _ _ _ _ _ s R S rfl (at_line hp hpre hpl) rfl ⟨_,rfl⟩ rfl trivial
   | cons e l =>
    have hlen : (⟨⟨e :: l⟩⟩ : Str).length ≤ sizeLine:=len_ok htl
    obtain ⟨yrl,prl,hpl,hrl⟩:=rl_con (w:=w) u a (xS x .a sT (e :: l)) hp.1 hpre hpos
    refine (m1_a_hash_t w.params u a (xS x .a sT (e :: l)) n L q es eT c nT sT e l l.length yrl prl).sound X R hh 'a' (fun ad tk=>zc (ze0 rfl) (zc 'o' (zc 'o' (zc (con_tin 8 rfl rfl (by decide)) (zc (zi0 hW) (zc (zi1 hH) (zc (Con.frame (l₁:=[a.lx,a.ld]) (as:=[a.si,a.sd]) (l₂:=[_,_,_,_,_]) (c₁:=[_,_]) (cs:=[_,_]) (c₂:=[_,_,_,_,_]) (hrl _ _ hd1) rfl rfl rfl rfl rfl 'a' 'a') (zc (fun _ _=>con_lenb _ rfl hlen) all_nil)))))))) fun ad tk s R S=>?_
    try simp only [zall] at R
    rw [lx_p _ _ _ _ _ prl (tk 66)] at R
    exact hQ _ _ _ _ _ rfl _ _ _ _ _ s R S rfl (at_line hp hpre hpl) rfl ⟨_,rfl⟩ rfl trivial
  case esc =>
   cases cl_esc hcl
   refine (m1_a_esc w.params u a (xS x .a sT tok) n L q es eT nT sT).sound X R hh 'a' (fun ad tk=>zc (ze0 rfl) (zc 'o' (zc 'o' (zc (con_tin 8 rfl rfl (by decide)) (zc 'o' (zc 'o' (zc (ze0 rfl) (zc 'o' (zc (zi1 rfl) all_nil))))))))) fun ad tk s R S=>?_
   try simp only [zall] at R
   exact hQ _ _ _ _ _ rfl _ _ _ _ _ s R S (.inl rfl) hp rfl ⟨_,rfl⟩ rfl rfl
  case word =>
   refine (m1_a_word w.params u a (xS x .a sT tok) n L q es eT c nT sT ⟨⟨tok ++ [c]⟩⟩).sound X R hh (fun _ _=>rfl) (fun ad tk=>zc (ze0 rfl) (zc (zi0 rfl) (zc (zi0 rfl) (zc (con_tin 8 rfl rfl (by decide)) (zc (zi0 hW) (zc (zi0 hH) (zc (ze0 rfl) (zc (zi0 hQu) (zc (zi0 hEs) (zc (zi1 hWd) (zc (zq (by first | omega | (simp; omega))) all_nil))))))))))) fun ad tk s R S=>?_
   try simp only [zall] at R
   exact hQ _ _ _ _ _ rfl _ _ _ _ _ s R S (.inl rfl) hp rfl ⟨_,rfl⟩ rfl trivial
  case punct =>
   cases tok with
   | nil =>
    have hq : q = true:=hinv.resolve_left (fun h=>h rfl)
    subst hq
    refine (m1_a_punct_q w.params u a (xS x .a sT []) n L es eT c nT sT).sound X R hh 'a' (fun ad tk=>zc (ze0 rfl) (zc 'o' (zc 'o' (zc (con_tin 8 rfl rfl (by decide)) (zc (zi0 hW) (zc (zi0 hH) (zc (ze0 rfl) (zc (zi0 hQu) (zc (zi0 hEs) (zc (zi0 hWd) (zc (zi0 hQu) (zc (Con.left (as:=[a.lx,a.ld]) (l₂:=[_,_,_,_,_,_,_]) (cs:=[_,_]) (c₂:=[_,_,_,_,_,_,_]) (pc1_con u a _ hd0) rfl) all_nil)))))))))))) fun ad tk s R S=>?_
    try simp only [zall] at R
    exact hQ _ _ _ _ _ rfl _ _ _ _ _ s R S rfl hp rfl ⟨_,rfl⟩ rfl trivial
   | cons e l =>
    have hlen : (⟨⟨e :: l⟩⟩ : Str).length ≤ sizeLine:=len_ok htl
    refine (m1_a_punct_t w.params u a (xS x .a sT (e :: l)) n L q es eT c nT sT e l l.length).sound X R hh 'a' (fun ad tk=>zc (ze0 rfl) (zc 'o' (zc 'o' (zc (con_tin 8 rfl rfl (by decide)) (zc (zi0 hW) (zc (zi0 hH) (zc (ze0 rfl) (zc (zi0 hQu) (zc (zi0 hEs) (zc (zi0 hWd) (zc (zi0 hQu) (zc (Con.left (as:=[a.lx,a.ld]) (l₂:=[_,_,_,_,_,_,_]) (cs:=[_,_]) (c₂:=[_,_,_,_,_,_,_]) (pc1_con u a _ hd0) rfl) (zc (fun _ _=>con_lenb _ rfl hlen) all_nil))))))))))))) fun ad tk s R S=>?_
    try simp only [zall] at R
    exact hQ _ _ _ _ _ rfl _ _ _ _ _ s R S rfl hp rfl ⟨_,rfl⟩ rfl trivial
  case sq =>
   cases cl_sq hcl
   refine (m1_a_sq w.params u a (xS x .a sT tok) n L q es eT nT sT).sound X R hh 'a' (fun ad tk=>zc (ze0 rfl) (zc 'o' (zc 'o' (zc (con_tin 8 rfl rfl (by decide)) (zc 'o' (zc 'o' (zc (ze0 rfl) (zc (zi1 rfl) all_nil)))))))) fun ad tk s R S=>?_
   try simp only [zall] at R
   exact hQ _ _ _ _ _ rfl _ _ _ _ _ s R S (.inl rfl) hp rfl ⟨_,rfl⟩ rfl trivial
  case dq =>
   cases cl_dq hcl
   refine (m1_a_dq w.params u a (xS x .a sT tok) n L q es eT nT sT).sound X R hh 'a' (fun ad tk=>zc (ze0 rfl) (zc 'o' (zc 'o' (zc (con_tin 8 rfl rfl (by decide)) (zc 'o' (zc 'o' (zc (ze0 rfl) (zc (zi1 rfl) all_nil)))))))) fun ad tk s R S=>?_
   try simp only [zall] at R
   exact hQ _ _ _ _ _ rfl _ _ _ _ _ s R S (.inl rfl) hp rfl ⟨_,rfl⟩ rfl trivial
theorem main1_c : MainT w true .c:=by
 intro u a x sT tok q es eT n L nT oc post A h₀ s Q E hinv hal hp htl hwc hes hd hh X R hQ hE
 rw [tw_execs]
 have hd0 : A.depth + 0 < recursionLimit:=by omega
 have hd1 : A.depth + 0 + 1 < recursionLimit:=by omega
 obtain ⟨hsz,pre,hpre,hpos⟩:=id hp
 obtain ⟨htn,rfl⟩:=hinv
 cases oc with
 | none =>
  refine (m1_c_eof w.params u a (xS x .c sT tok) n L es eT nT sT).sound X R hh 'a' (fun ad tk=>zc (ze0 rfl) (zc 'o' (zc 'o' (zc (con_tin 8 rfl rfl (by decide)) all_nil)))) fun ad tk s R S=>?_
  try simp only [zall] at R
  exact hQ _ _ _ _ _ rfl _ _ _ _ _ s R S rfl hp rfl ⟨0,rfl⟩ rfl trivial
 | some c =>
  have hc:=hal c rfl
  obtain ⟨hW,hH,hEs,hQu,hP⟩:=facts c
  have hWd : decide (c ∈ x.wc.cps.toList) = isWd (cl c):=by rw [hwc]; exact wct hc
  simp only [step] at hQ hE
  cases hcl : cl c <;> rw [hcl] at hW hH hEs hQu hP hWd <;> simp only [hcl] at hQ hE
  case white =>
   cases tok with
   | nil=>exact absurd rfl htn
   | cons e l =>
    have hlen : (⟨⟨e :: l⟩⟩ : Str).length ≤ sizeLine:=len_ok htl
    refine (m1_c_white_t w.params u a (xS x .c sT (e :: l)) n L es eT c nT sT e l l.length).sound X R hh 'a' (fun ad tk=>zc (ze0 rfl) (zc 'o' (zc 'o' (zc (con_tin 8 rfl rfl (by decide)) (zc (zi1 hW) (zc (fun _ _=>con_lenb _ rfl hlen) all_nil)))))) fun ad tk s R S=>?_
    try simp only [zall] at R
    exact hQ _ _ _ _ _ rfl _ _ _ _ _ s R S rfl hp rfl ⟨_,rfl⟩ rfl trivial
  case hash =>
   cases tok with
   | nil=>exact absurd rfl htn
   | cons e l =>
    have hlen : (⟨⟨e :: l⟩⟩ : Str).length ≤ sizeLine:=len_ok htl
    obtain ⟨yrl,prl,hpl,hrl⟩:=rl_con (w:=w) u a (xS x .c sT (e :: l)) hp.1 hpre hpos
    refine (m1_c_hash_t w.params u a (xS x .c sT (e :: l)) n L es eT c nT sT e l l.length yrl prl).sound X R hh 'a' (fun ad tk=>zc (ze0 rfl) (zc 'o' (zc 'o' (zc (con_tin 8 rfl rfl (by decide)) (zc (zi0 hW) (zc (zi1 hH) (zc (Con.frame (l₁:=[a.lx,a.ld]) (as:=[a.si,a.sd]) (l₂:=[_,_,_,_,_]) (c₁:=[_,_]) (cs:=[_,_]) (c₂:=[_,_,_,_,_]) (hrl _ _ hd1) rfl rfl rfl rfl rfl 'a' 'a') (zc (fun _ _=>con_lenb _ rfl hlen) all_nil)))))))) fun ad tk s R S=>?_
    try simp only [zall] at R
    rw [lx_p _ _ _ _ _ prl (tk 66)] at R
    exact hQ _ _ _ _ _ rfl _ _ _ _ _ s R S rfl (at_line hp hpre hpl) rfl ⟨_,rfl⟩ rfl trivial
  case esc =>
   cases cl_esc hcl
   refine (m1_c_other w.params u a (xS x .c sT tok) n L es eT 92 nT sT).sound X R hh 'a' (fun ad tk=>zc (ze0 rfl) (zc 'o' (zc 'o' (zc (con_tin 8 rfl rfl (by decide)) (zc (zi0 hW) (zc (zi0 hH) (zc (ze1 rfl) (zc (Con.left (as:=[a.lx,a.ld]) (l₂:=[_,_,_,_,_,_,_]) (cs:=[_,_]) (c₂:=[_,_,_,_,_,_,_]) (pc1_con u a _ hd0) rfl) (zc (zi0 hP) (zc (zi0 hW) all_nil)))))))))) fun ad tk s R S=>?_
   try simp only [zall] at R
   exact hQ _ _ _ _ _ rfl _ _ _ _ _ s R S rfl hp rfl ⟨_,rfl⟩ rfl trivial
  case word =>
   refine (m1_c_other w.params u a (xS x .c sT tok) n L es eT c nT sT).sound X R hh 'a' (fun ad tk=>zc (ze0 rfl) (zc 'o' (zc 'o' (zc (con_tin 8 rfl rfl (by decide)) (zc (zi0 hW) (zc (zi0 hH) (zc (ze1 rfl) (zc (Con.left (as:=[a.lx,a.ld]) (l₂:=[_,_,_,_,_,_,_]) (cs:=[_,_]) (c₂:=[_,_,_,_,_,_,_]) (pc1_con u a _ hd0) rfl) (zc (zi0 hP) (zc (zi0 hW) all_nil)))))))))) fun ad tk s R S=>?_
   try simp only [zall] at R
   exact hQ _ _ _ _ _ rfl _ _ _ _ _ s R S rfl hp rfl ⟨_,rfl⟩ rfl trivial
  case punct =>
   refine (m1_c_punct w.params u a (xS x .c sT tok) n L es eT c nT sT ⟨⟨tok ++ [c]⟩⟩).sound X R hh (fun _ _=>rfl) (fun ad tk=>zc (ze0 rfl) (zc (zi0 rfl) (zc (zi0 rfl) (zc (con_tin 8 rfl rfl (by decide)) (zc (zi0 hW) (zc (zi0 hH) (zc (ze1 rfl) (zc (Con.left (as:=[a.lx,a.ld]) (l₂:=[_,_,_,_,_,_,_]) (cs:=[_,_]) (c₂:=[_,_,_,_,_,_,_]) (pc1_con u a _ hd0) rfl) (zc (zi1 hP) (zc (zq (by first | omega | (simp; omega))) all_nil)))))))))) fun ad tk s R S=>?_
   try simp only [zall] at R
   exact hQ _ _ _ _ _ rfl _ _ _ _ _ s R S (.inl rfl) hp rfl ⟨_,rfl⟩ rfl trivial
  case sq =>
   cases cl_sq hcl
   refine (m1_c_other w.params u a (xS x .c sT tok) n L es eT 39 nT sT).sound X R hh 'a' (fun ad tk=>zc (ze0 rfl) (zc 'o' (zc 'o' (zc (con_tin 8 rfl rfl (by decide)) (zc (zi0 hW) (zc (zi0 hH) (zc (ze1 rfl) (zc (Con.left (as:=[a.lx,a.ld]) (l₂:=[_,_,_,_,_,_,_]) (cs:=[_,_]) (c₂:=[_,_,_,_,_,_,_]) (pc1_con u a _ hd0) rfl) (zc (zi0 hP) (zc (zi0 hW) all_nil)))))))))) fun ad tk s R S=>?_
   try simp only [zall] at R
   exact hQ _ _ _ _ _ rfl _ _ _ _ _ s R S rfl hp rfl ⟨_,rfl⟩ rfl trivial
  case dq =>
   cases cl_dq hcl
   refine (m1_c_other w.params u a (xS x .c sT tok) n L es eT 34 nT sT).sound X R hh 'a' (fun ad tk=>zc (ze0 rfl) (zc 'o' (zc 'o' (zc (con_tin 8 rfl rfl (by decide)) (zc (zi0 hW) (zc (zi0 hH) (zc (ze1 rfl) (zc (Con.left (as:=[a.lx,a.ld]) (l₂:=[_,_,_,_,_,_,_]) (cs:=[_,_]) (c₂:=[_,_,_,_,_,_,_]) (pc1_con u a _ hd0) rfl) (zc (zi0 hP) (zc (zi0 hW) all_nil)))))))))) fun ad tk s R S=>?_
   try simp only [zall] at R
   exact hQ _ _ _ _ _ rfl _ _ _ _ _ s R S rfl hp rfl ⟨_,rfl⟩ rfl trivial
theorem main1_sq : MainT w true .sq:=by
 intro u a x sT tok q es eT n L nT oc post A h₀ s Q E hinv hal hp htl hwc hes hd hh X R hQ hE
 rw [tw_execs]
 have hd0 : A.depth + 0 < recursionLimit:=by omega
 have hd1 : A.depth + 0 + 1 < recursionLimit:=by omega
 obtain ⟨hsz,pre,hpre,hpos⟩:=id hp
 cases oc with
 | none =>
  refine (m1_sq_eof w.params u a (xS x .sq sT tok) n L q es eT nT sT).sound X R hh 'a' (fun ad tk=>zc (ze0 rfl) (zc (zi1 rfl) (zc con_exc all_nil))) fun ad tk s R S=>?_
  try simp only [zall] at R
  exact hE _ rfl _ _ _ _ s R S (rt4_nf _ _ _ _ _ _ _ _)
 | some c =>
  have hc:=hal c rfl
  by_cases h1 : c = 39
  ·subst h1
   refine (m1_sq_sq w.params u a (xS x .sq sT tok) n L q es eT nT sT).sound X R hh 'a' (fun ad tk=>zc (ze0 rfl) (zc (zi1 rfl) (zc (ze1 rfl) all_nil))) fun ad tk s R S=>?_
   try simp only [zall] at R
   exact hQ _ _ _ _ _ rfl _ _ _ _ _ s R S (.inl rfl) hp rfl ⟨_,rfl⟩ rfl trivial
  by_cases h2 : c = 92
  ·subst h2
   refine (m1_sq_esc w.params u a (xS x .sq sT tok) n L q es eT nT sT ⟨⟨tok ++ [92]⟩⟩).sound X R hh (fun _ _=>rfl) (fun ad tk=>zc (ze0 rfl) (zc (zi1 rfl) (zc (ze0 rfl) (zc (zi1 rfl) (zc (zi0 rfl) (zc (zq (by first | omega | (simp; omega))) all_nil)))))) fun ad tk s R S=>?_
   try simp only [zall] at R
   exact hQ _ _ _ _ _ rfl _ _ _ _ _ s R S (.inl rfl) hp rfl ⟨_,rfl⟩ rfl trivial
  simp only [step_sq true h1 h2] at hQ
  refine (m1_sq_any w.params u a (xS x .sq sT tok) n L q es eT c nT sT ⟨⟨tok ++ [c]⟩⟩).sound X R hh (fun _ _=>rfl) (fun ad tk=>zc (ze0 rfl) (zc (zi1 rfl) (zc (ze0 (beq_no h1)) (zc (zi0 (mem_no h2)) (zc (zq (by first | omega | (simp; omega))) all_nil))))) fun ad tk s R S=>?_
  try simp only [zall] at R
  exact hQ _ _ _ _ _ rfl _ _ _ _ _ s R S (.inl rfl) hp rfl ⟨_,rfl⟩ rfl trivial
theorem main1_dq : MainT w true .dq:=by
 intro u a x sT tok q es eT n L nT oc post A h₀ s Q E hinv hal hp htl hwc hes hd hh X R hQ hE
 rw [tw_execs]
 have hd0 : A.depth + 0 < recursionLimit:=by omega
 have hd1 : A.depth + 0 + 1 < recursionLimit:=by omega
 obtain ⟨hsz,pre,hpre,hpos⟩:=id hp
 cases oc with
 | none =>
  refine (m1_dq_eof w.params u a (xS x .dq sT tok) n L q es eT nT sT).sound X R hh 'a' (fun ad tk=>zc (ze0 rfl) (zc (zi1 rfl) (zc con_exc all_nil))) fun ad tk s R S=>?_
  try simp only [zall] at R
  exact hE _ rfl _ _ _ _ s R S (rt4_nf _ _ _ _ _ _ _ _)
 | some c =>
  have hc:=hal c rfl
  by_cases h1 : c = 34
  ·subst h1
   refine (m1_dq_dq w.params u a (xS x .dq sT tok) n L q es eT nT sT).sound X R hh 'a' (fun ad tk=>zc (ze0 rfl) (zc (zi1 rfl) (zc (ze1 rfl) all_nil))) fun ad tk s R S=>?_
   try simp only [zall] at R
   exact hQ _ _ _ _ _ rfl _ _ _ _ _ s R S (.inl rfl) hp rfl ⟨_,rfl⟩ rfl trivial
  by_cases h2 : c = 92
  ·subst h2
   refine (m1_dq_esc w.params u a (xS x .dq sT tok) n L q es eT nT sT).sound X R hh 'a' (fun ad tk=>zc (ze0 rfl) (zc (zi1 rfl) (zc (ze0 rfl) (zc (zi1 rfl) (zc (zi1 rfl) all_nil))))) fun ad tk s R S=>?_
   try simp only [zall] at R
   exact hQ _ _ _ _ _ rfl _ _ _ _ _ s R S (.inl rfl) hp rfl ⟨_,rfl⟩ rfl rfl
  simp only [step_dq true h1 h2] at hQ
  refine (m1_dq_any w.params u a (xS x .dq sT tok) n L q es eT c nT sT ⟨⟨tok ++ [c]⟩⟩).sound X R hh (fun _ _=>rfl) (fun ad tk=>zc (ze0 rfl) (zc (zi1 rfl) (zc (ze0 (beq_no h1)) (zc (zi0 (mem_no h2)) (zc (zq (by first | omega | (simp; omega))) all_nil))))) fun ad tk s R S=>?_
  try simp only [zall] at R
  exact hQ _ _ _ _ _ rfl _ _ _ _ _ s R S (.inl rfl) hp rfl ⟨_,rfl⟩ rfl trivial
theorem main1_ea : MainT w true .ea:=by
 intro u a x sT tok q es eT n L nT oc post A h₀ s Q E hinv hal hp htl hwc hes hd hh X R hQ hE
 rw [tw_execs]
 have hd0 : A.depth + 0 < recursionLimit:=by omega
 have hd1 : A.depth + 0 + 1 < recursionLimit:=by omega
 obtain ⟨hsz,pre,hpre,hpos⟩:=id hp
 cases oc with
 | none =>
  refine (m1_esc_eof w.params u a (xS x .ea sT tok) n L q es eT nT sT).sound X R hh 'a' (fun ad tk=>zc (ze0 rfl) (zc 'o' (zc (zi1 rfl) (zc con_exc all_nil)))) fun ad tk s R S=>?_
  try simp only [zall] at R
  exact hE _ rfl _ _ _ _ s R S (rt4_nf _ _ _ _ _ _ _ _)
 | some c =>
  have hes:=id hes
  simp only [esOk] at hes
  subst hes
  refine (m1_esc_any w.params u a (xS x .ea sT tok) n L q eT c nT sT ⟨⟨tok ++ [c]⟩⟩).sound X R hh (fun _ _=>rfl) (fun ad tk=>zc (ze0 rfl) (zc (zi0 rfl) (zc (zi1 rfl) (zc (zi0 rfl) (zc (zq (by first | omega | (simp; omega))) all_nil))))) fun ad tk s R S=>?_
  try simp only [zall] at R
  exact hQ _ _ _ _ _ rfl _ _ _ _ _ s R S (.inl rfl) hp rfl ⟨_,rfl⟩ rfl trivial
theorem main1_ed : MainT w true .ed:=by
 intro u a x sT tok q es eT n L nT oc post A h₀ s Q E hinv hal hp htl hwc hes hd hh X R hQ hE
 rw [tw_execs]
 have hd0 : A.depth + 0 < recursionLimit:=by omega
 have hd1 : A.depth + 0 + 1 < recursionLimit:=by omega
 obtain ⟨hsz,pre,hpre,hpos⟩:=id hp
 cases oc with
 | none =>
  refine (m1_esc_eof w.params u a (xS x .ed sT tok) n L q es eT nT sT).sound X R hh 'a' (fun ad tk=>zc (ze0 rfl) (zc 'o' (zc (zi1 rfl) (zc con_exc all_nil)))) fun ad tk s R S=>?_
  try simp only [zall] at R
  exact hE _ rfl _ _ _ _ s R S (rt4_nf _ _ _ _ _ _ _ _)
 | some c =>
  have hes:=id hes
  simp only [esOk] at hes
  subst hes
  have hc:=hal c rfl
  by_cases h1 : c = 34
  ·subst h1
   refine (m1_esc_dq_d w.params u a (xS x .ed sT tok) n L q eT nT sT ⟨⟨tok ++ [34]⟩⟩).sound X R hh (fun _ _=>rfl) (fun ad tk=>zc (ze0 rfl) (zc (zi0 rfl) (zc (zi1 rfl) (zc (zi1 rfl) (zc (fun _ _=>con_ne true rfl) (zc (fun _ _=>con_ne false rfl) (zc (zq (by first | omega | (simp; omega))) all_nil))))))) fun ad tk s R S=>?_
   try simp only [zall] at R
   exact hQ _ _ _ _ _ rfl _ _ _ _ _ s R S (.inl rfl) hp rfl ⟨_,rfl⟩ rfl trivial
  by_cases h2 : c = 92
  ·subst h2
   refine (m1_esc_esc_d w.params u a (xS x .ed sT tok) n L q eT nT sT ⟨⟨tok ++ [92]⟩⟩).sound X R hh (fun _ _=>rfl) (fun ad tk=>zc (ze0 rfl) (zc (zi0 rfl) (zc (zi1 rfl) (zc (zi1 rfl) (zc (fun _ _=>con_ne false rfl) (zc (zq (by first | omega | (simp; omega))) all_nil)))))) fun ad tk s R S=>?_
   try simp only [zall] at R
   exact hQ _ _ _ _ _ rfl _ _ _ _ _ s R S (.inl rfl) hp rfl ⟨_,rfl⟩ rfl trivial
  simp only [step_ed true h1 h2] at hQ
  refine (m1_esc_any_d w.params u a (xS x .ed sT tok) n L q eT c nT sT ⟨⟨tok ++ [92] ++ [c]⟩⟩ ⟨⟨tok ++ [92]⟩⟩).sound X R hh (fun _ _=>rfl) (fun ad tk=>zc (ze0 rfl) (zc (zi0 rfl) (zc (zi1 rfl) (zc (zi1 rfl) (zc (fun _ _=>con_ne true (bne_no h2)) (zc (fun _ _=>con_ne true (bne_no h1)) (zc (zq (by omega)) (zc (zq (by first | omega | (simp; omega))) all_nil)))))))) fun ad tk s R S=>?_
  try simp only [zall] at R
  exact hQ _ _ _ _ _ rfl _ _ _ _ _ s R S (.inl rfl) hp rfl ⟨_,rfl⟩ rfl trivial
variable {w : World}
theorem main0_nul : MainT w false .nul:=by
 intro u a x sT tok q es eT n L nT oc post A h₀ s Q E hinv hal hp htl hwc hes hd hh X R hQ hE
 rw [tw_execs]
 have hd0 : A.depth + 0 < recursionLimit:=by omega
 have hd1 : A.depth + 0 + 1 < recursionLimit:=by omega
 obtain ⟨hsz,pre,hpre,hpos⟩:=id hp
 refine (m0_nul w.params u a (xS x .nul sT tok) L q es eT (nxS oc) nT).sound X R hh 'a' (fun ad tk=>all_nil) fun ad tk s R S=>?_
 try simp only [zall] at R
 exact hQ _ _ _ _ _ rfl _ _ n _ _ s R S rfl hp rfl ⟨0,rfl⟩ rfl trivial
theorem main0_sp : MainT w false .sp:=by
 intro u a x sT tok q es eT n L nT oc post A h₀ s Q E hinv hal hp htl hwc hes hd hh X R hQ hE
 rw [tw_execs]
 have hd0 : A.depth + 0 < recursionLimit:=by omega
 have hd1 : A.depth + 0 + 1 < recursionLimit:=by omega
 obtain ⟨hsz,pre,hpre,hpos⟩:=id hp
 obtain ⟨rfl,rfl⟩:=hinv
 cases oc with
 | none =>
  refine (m0_sp_eof w.params u a (xS x .sp sT []) L es eT nT sT).sound X R hh 'a' (fun ad tk=>zc (ze1 rfl) all_nil) fun ad tk s R S=>?_
  try simp only [zall] at R
  exact hQ _ _ _ _ _ rfl _ _ n _ _ s R S rfl hp rfl ⟨0,rfl⟩ rfl trivial
 | some c =>
  have hc:=hal c rfl
  obtain ⟨hW,hH,hEs,hQu,hP⟩:=facts c
  have F6 : isWd (cl c) = false->decide (c ∈ x.wc.cps.toList) = false:=by rw [hwc]; exact wcf hc
  simp only [step] at hQ hE
  cases hcl : cl c <;> rw [hcl] at hW hH hEs hQu hP F6 <;> simp only [hcl] at hQ hE
  case white =>
   have hWd:=F6 rfl
   refine (m0_sp_white w.params u a (xS x .sp sT []) L es eT c nT sT).sound X R hh 'a' (fun ad tk=>zc (ze1 rfl) (zc (zi1 hW) all_nil)) fun ad tk s R S=>?_
   try simp only [zall] at R
   exact hQ _ _ _ _ _ rfl _ _ n _ _ s R S (.inr rfl) hp rfl ⟨_,rfl⟩ rfl trivial
  case hash =>
   have hWd:=F6 rfl
   obtain ⟨yrl,prl,hpl,hrl⟩:=rl_con (w:=w) u a (xS x .sp sT []) hp.1 hpre hpos
   refine (m0_sp_hash w.params u a (xS x .sp sT []) L es eT c nT sT yrl prl).sound X R hh 'a' (fun ad tk=>zc (ze1 rfl) (zc (zi0 hW) (zc (zi1 hH) (zc (Con.frame (l₁:=[a.lx,a.ld]) (as:=[a.si,a.sd]) (l₂:=[_,_,_]) (c₁:=[_,_]) (cs:=[_,_]) (c₂:=[_,_,_]) (hrl _ _ hd1) rfl rfl rfl rfl rfl 'a' 'a') all_nil)))) fun ad tk s R S=>?_
   try simp only [zall] at R
   rw [lx_p _ _ _ _ _ prl (tk 35)] at R
   exact hQ _ _ _ _ _ rfl _ _ n _ _ s R S (.inl rfl) (at_line hp hpre hpl) rfl ⟨_,rfl⟩ rfl trivial
  case esc =>
   have hWd:=F6 rfl
   cases cl_esc hcl
   refine (m0_sp_esc w.params u a (xS x .sp sT []) L es eT nT sT).sound X R hh 'a' (fun ad tk=>zc (ze1 rfl) (zc 'o' (zc 'o' (zc (zi1 rfl) all_nil)))) fun ad tk s R S=>?_
   try simp only [zall] at R
   exact hQ _ _ _ _ _ rfl _ _ n _ _ s R S (.inl rfl) hp rfl ⟨_,rfl⟩ rfl rfl
  case word =>
   by_cases hm : c ∈ x.wc.cps.toList
   ·have hWd:=decide_eq_true hm
    refine (m0_sp_word w.params u a (xS x .sp sT []) L es eT c nT sT).sound X R hh 'a' (fun ad tk=>zc (ze1 rfl) (zc (zi0 hW) (zc (zi0 hH) (zc (zi0 hEs) (zc (zi1 hWd) all_nil))))) fun ad tk s R S=>?_
    try simp only [zall] at R
    exact hQ _ _ _ _ _ rfl _ _ n _ _ s R S (.inl rfl) hp rfl ⟨_,rfl⟩ rfl trivial
   ·have hWd:=decide_eq_false hm
    refine (m0_sp_other w.params u a (xS x .sp sT []) L es eT c nT sT).sound X R hh 'a' (fun ad tk=>zc (ze1 rfl) (zc (zi0 hW) (zc (zi0 hH) (zc (zi0 hEs) (zc (zi0 hWd) (zc (Con.left (as:=[a.lx,a.ld]) (l₂:=[_,_,_,_,_]) (cs:=[_,_]) (c₂:=[_,_,_,_,_]) (pc0_con u a _ hd0) rfl) (zc 'o' (zc (zi0 hQu) all_nil)))))))) fun ad tk s R S=>?_
    try simp only [zall] at R
    exact hQ _ _ _ _ _ rfl _ _ n _ _ s R S (.inl rfl) hp rfl ⟨_,rfl⟩ rfl trivial
  case punct =>
   have hWd:=F6 rfl
   refine (m0_sp_other w.params u a (xS x .sp sT []) L es eT c nT sT).sound X R hh 'a' (fun ad tk=>zc (ze1 rfl) (zc (zi0 hW) (zc (zi0 hH) (zc (zi0 hEs) (zc (zi0 hWd) (zc (Con.left (as:=[a.lx,a.ld]) (l₂:=[_,_,_,_,_]) (cs:=[_,_]) (c₂:=[_,_,_,_,_]) (pc0_con u a _ hd0) rfl) (zc 'o' (zc (zi0 hQu) all_nil)))))))) fun ad tk s R S=>?_
   try simp only [zall] at R
   exact hQ _ _ _ _ _ rfl _ _ n _ _ s R S (.inl rfl) hp rfl ⟨_,rfl⟩ rfl trivial
  case sq =>
   have hWd:=F6 rfl
   cases cl_sq hcl
   refine (m0_sp_sq w.params u a (xS x .sp sT []) L es eT nT sT).sound X R hh 'a' (fun ad tk=>zc (ze1 rfl) (zc 'o' (zc 'o' (zc 'o' (zc (zi0 hWd) (zc (Con.left (as:=[a.lx,a.ld]) (l₂:=[_,_,_,_,_]) (cs:=[_,_]) (c₂:=[_,_,_,_,_]) (pc0_con u a _ hd0) rfl) (zc 'o' (zc (zi1 rfl) all_nil)))))))) fun ad tk s R S=>?_
   try simp only [zall] at R
   exact hQ _ _ _ _ _ rfl _ _ n _ _ s R S (.inl rfl) hp rfl ⟨_,rfl⟩ rfl trivial
  case dq =>
   have hWd:=F6 rfl
   cases cl_dq hcl
   refine (m0_sp_dq w.params u a (xS x .sp sT []) L es eT nT sT).sound X R hh 'a' (fun ad tk=>zc (ze1 rfl) (zc 'o' (zc 'o' (zc 'o' (zc (zi0 hWd) (zc (Con.left (as:=[a.lx,a.ld]) (l₂:=[_,_,_,_,_]) (cs:=[_,_]) (c₂:=[_,_,_,_,_]) (pc0_con u a _ hd0) rfl) (zc 'o' (zc (zi1 rfl) all_nil)))))))) fun ad tk s R S=>?_
   try simp only [zall] at R
   exact hQ _ _ _ _ _ rfl _ _ n _ _ s R S (.inl rfl) hp rfl ⟨_,rfl⟩ rfl trivial
theorem main0_a : MainT w false .a:=by
 intro u a x sT tok q es eT n L nT oc post A h₀ s Q E hinv hal hp htl hwc hes hd hh X R hQ hE
 rw [tw_execs]
 have hd0 : A.depth + 0 < recursionLimit:=by omega
 have hd1 : A.depth + 0 + 1 < recursionLimit:=by omega
 obtain ⟨hsz,pre,hpre,hpos⟩:=id hp
 cases oc with
 | none =>
  refine (m0_a_eof w.params u a (xS x .a sT tok) L q es eT nT sT).sound X R hh 'a' (fun ad tk=>zc (ze0 rfl) (zc 'o' (zc 'o' (zc (con_tin 7 rfl rfl (by decide)) all_nil)))) fun ad tk s R S=>?_
  try simp only [zall] at R
  exact hQ _ _ _ _ _ rfl _ _ n _ _ s R S rfl hp rfl ⟨0,rfl⟩ rfl trivial
 | some c =>
  have hc:=hal c rfl
  obtain ⟨hW,hH,hEs,hQu,hP⟩:=facts c
  have F6 : isWd (cl c) = false->decide (c ∈ x.wc.cps.toList) = false:=by rw [hwc]; exact wcf hc
  simp only [step] at hQ hE
  cases hcl : cl c <;> rw [hcl] at hW hH hEs hQu hP F6 <;> simp only [hcl] at hQ hE
  case white =>
   have hWd:=F6 rfl
   cases tok with
   | nil =>
    have hq : q = true:=hinv.resolve_left (fun h=>h rfl)
    subst hq
    refine (m0_a_white_q w.params u a (xS x .a sT []) L es eT c nT sT).sound X R hh 'a' (fun ad tk=>zc (ze0 rfl) (zc 'o' (zc 'o' (zc (con_tin 7 rfl rfl (by decide)) (zc (zi1 hW) all_nil))))) fun ad tk s R S=>?_
    try simp only [zall] at R
    exact hQ _ _ _ _ _ rfl _ _ n _ _ s R S rfl hp rfl ⟨_,rfl⟩ rfl trivial
   | cons e l =>
    have hlen : (⟨⟨e :: l⟩⟩ : Str).length ≤ sizeLine:=len_ok htl
    refine (m0_a_white_t w.params u a (xS x .a sT (e :: l)) L q es eT c nT sT e l l.length).sound X R hh 'a' (fun ad tk=>zc (ze0 rfl) (zc 'o' (zc 'o' (zc (con_tin 7 rfl rfl (by decide)) (zc (zi1 hW) (zc (fun _ _=>con_lenb _ rfl hlen) all_nil)))))) fun ad tk s R S=>?_
    try simp only [zall] at R
    exact hQ _ _ _ _ _ rfl _ _ n _ _ s R S rfl hp rfl ⟨_,rfl⟩ rfl trivial
  case hash =>
   have hWd:=F6 rfl
   cases tok with
   | nil =>
    have hq : q = true:=hinv.resolve_left (fun h=>h rfl)
    subst hq
    obtain ⟨yrl,prl,hpl,hrl⟩:=rl_con (w:=w) u a (xS x .a sT []) hp.1 hpre hpos
    refine (m0_a_hash_q w.params u a (xS x .a sT []) L es eT c nT sT yrl prl).sound X R hh 'a' (fun ad tk=>zc (ze0 rfl) (zc 'o' (zc 'o' (zc (con_tin 7 rfl rfl (by decide)) (zc (zi0 hW) (zc (zi1 hH) (zc (Con.frame (l₁:=[a.lx,a.ld]) (as:=[a.si,a.sd]) (l₂:=[_,_,_,_]) (c₁:=[_,_]) (cs:=[_,_]) (c₂:=[_,_,_,_]) (hrl _ _ hd1) rfl rfl rfl rfl rfl 'a' 'a') all_nil))))))) fun ad tk s R S=>?_
    try simp only [zall] at R
    rw [lx_p _ _ _ _ _ prl (tk 66)] at R
    exact hQ _ _ _ _ _ rfl _ _ n _ _ s R S rfl (at_line hp hpre hpl) rfl ⟨_,rfl⟩ rfl trivial
   | cons e l =>
    have hlen : (⟨⟨e :: l⟩⟩ : Str).length ≤ sizeLine:=len_ok htl
    obtain ⟨yrl,prl,hpl,hrl⟩:=rl_con (w:=w) u a (xS x .a sT (e :: l)) hp.1 hpre hpos
    refine (m0_a_hash_t w.params u a (xS x .a sT (e :: l)) L q es eT c nT sT e l l.length yrl prl).sound X R hh 'a' (fun ad tk=>zc (ze0 rfl) (zc 'o' (zc 'o' (zc (con_tin 7 rfl rfl (by decide)) (zc (zi0 hW) (zc (zi1 hH) (zc (Con.frame (l₁:=[a.lx,a.ld]) (as:=[a.si,a.sd]) (l₂:=[_,_,_,_]) (c₁:=[_,_]) (cs:=[_,_]) (c₂:=[_,_,_,_]) (hrl _ _ hd1) rfl rfl rfl rfl rfl 'a' 'a') (zc (fun _ _=>con_lenb _ rfl hlen) all_nil)))))))) fun ad tk s R S=>?_
    try simp only [zall] at R
    rw [lx_p _ _ _ _ _ prl (tk 66)] at R
    exact hQ _ _ _ _ _ rfl _ _ n _ _ s R S rfl (at_line hp hpre hpl) rfl ⟨_,rfl⟩ rfl trivial
  case esc =>
   have hWd:=F6 rfl
   cases cl_esc hcl
   refine (m0_a_esc w.params u a (xS x .a sT tok) L q es eT nT sT).sound X R hh 'a' (fun ad tk=>zc (ze0 rfl) (zc 'o' (zc 'o' (zc (con_tin 7 rfl rfl (by decide)) (zc 'o' (zc 'o' (zc (ze0 rfl) (zc 'o' (zc (zi1 rfl) all_nil))))))))) fun ad tk s R S=>?_
   try simp only [zall] at R
   exact hQ _ _ _ _ _ rfl _ _ n _ _ s R S (.inl rfl) hp rfl ⟨_,rfl⟩ rfl rfl
  case word =>
   by_cases hm : c ∈ x.wc.cps.toList
   ·have hWd:=decide_eq_true hm
    refine (m0_a_word w.params u a (xS x .a sT tok) L q es eT c nT sT ⟨⟨tok ++ [c]⟩⟩).sound X R hh (fun _ _=>rfl) (fun ad tk=>zc (ze0 rfl) (zc (zi0 rfl) (zc (zi0 rfl) (zc (con_tin 7 rfl rfl (by decide)) (zc (zi0 hW) (zc (zi0 hH) (zc (ze0 rfl) (zc (zi0 hQu) (zc (zi0 hEs) (zc (zi1 hWd) (zc (zq (by first | omega | (simp; omega))) all_nil))))))))))) fun ad tk s R S=>?_
    try simp only [zall] at R
    exact hQ _ _ _ _ _ rfl _ _ n _ _ s R S (.inl rfl) hp rfl ⟨_,rfl⟩ rfl trivial
   ·have hWd:=decide_eq_false hm
    refine (m0_a_other w.params u a (xS x .a sT tok) L q es eT c nT sT ⟨⟨tok ++ [c]⟩⟩).sound X R hh (fun _ _=>rfl) (fun ad tk=>zc (ze0 rfl) (zc (zi0 rfl) (zc (zi0 rfl) (zc (con_tin 7 rfl rfl (by decide)) (zc (zi0 hW) (zc (zi0 hH) (zc (ze0 rfl) (zc (zi0 hQu) (zc (zi0 hEs) (zc (zi0 hWd) (zc (zi0 hQu) (zc (Con.left (as:=[a.lx,a.ld]) (l₂:=[_,_,_,_,_,_]) (cs:=[_,_]) (c₂:=[_,_,_,_,_,_]) (pc0_con u a _ hd0) rfl) (zc (zi0 rfl) (zc (zq (by first | omega | (simp; omega))) all_nil)))))))))))))) fun ad tk s R S=>?_
    try simp only [zall] at R
    exact hQ _ _ _ _ _ rfl _ _ n _ _ s R S (.inl rfl) hp rfl ⟨_,rfl⟩ rfl trivial
  case punct =>
   have hWd:=F6 rfl
   refine (m0_a_other w.params u a (xS x .a sT tok) L q es eT c nT sT ⟨⟨tok ++ [c]⟩⟩).sound X R hh (fun _ _=>rfl) (fun ad tk=>zc (ze0 rfl) (zc (zi0 rfl) (zc (zi0 rfl) (zc (con_tin 7 rfl rfl (by decide)) (zc (zi0 hW) (zc (zi0 hH) (zc (ze0 rfl) (zc (zi0 hQu) (zc (zi0 hEs) (zc (zi0 hWd) (zc (zi0 hQu) (zc (Con.left (as:=[a.lx,a.ld]) (l₂:=[_,_,_,_,_,_]) (cs:=[_,_]) (c₂:=[_,_,_,_,_,_]) (pc0_con u a _ hd0) rfl) (zc (zi0 rfl) (zc (zq (by first | omega | (simp; omega))) all_nil)))))))))))))) fun ad tk s R S=>?_
   try simp only [zall] at R
   exact hQ _ _ _ _ _ rfl _ _ n _ _ s R S (.inl rfl) hp rfl ⟨_,rfl⟩ rfl trivial
  case sq =>
   have hWd:=F6 rfl
   cases cl_sq hcl
   refine (m0_a_sq w.params u a (xS x .a sT tok) L q es eT nT sT).sound X R hh 'a' (fun ad tk=>zc (ze0 rfl) (zc 'o' (zc 'o' (zc (con_tin 7 rfl rfl (by decide)) (zc 'o' (zc 'o' (zc (ze0 rfl) (zc (zi1 rfl) all_nil)))))))) fun ad tk s R S=>?_
   try simp only [zall] at R
   exact hQ _ _ _ _ _ rfl _ _ n _ _ s R S (.inl rfl) hp rfl ⟨_,rfl⟩ rfl trivial
  case dq =>
   have hWd:=F6 rfl
   cases cl_dq hcl
   refine (m0_a_dq w.params u a (xS x .a sT tok) L q es eT nT sT).sound X R hh 'a' (fun ad tk=>zc (ze0 rfl) (zc 'o' (zc 'o' (zc (con_tin 7 rfl rfl (by decide)) (zc 'o' (zc 'o' (zc (ze0 rfl) (zc (zi1 rfl) all_nil)))))))) fun ad tk s R S=>?_
   try simp only [zall] at R
   exact hQ _ _ _ _ _ rfl _ _ n _ _ s R S (.inl rfl) hp rfl ⟨_,rfl⟩ rfl trivial
theorem main0_sq : MainT w false .sq:=by
 intro u a x sT tok q es eT n L nT oc post A h₀ s Q E hinv hal hp htl hwc hes hd hh X R hQ hE
 rw [tw_execs]
 have hd0 : A.depth + 0 < recursionLimit:=by omega
 have hd1 : A.depth + 0 + 1 < recursionLimit:=by omega
 obtain ⟨hsz,pre,hpre,hpos⟩:=id hp
 cases oc with
 | none =>
  refine (m0_sq_eof w.params u a (xS x .sq sT tok) L q es eT nT sT).sound X R hh 'a' (fun ad tk=>zc (ze0 rfl) (zc (zi1 rfl) (zc con_exc all_nil))) fun ad tk s R S=>?_
  try simp only [zall] at R
  exact hE _ rfl _ _ _ _ s R S (rt4_nf _ _ _ _ _ _ _ _)
 | some c =>
  have hc:=hal c rfl
  by_cases h1 : c = 39
  ·subst h1
   refine (m0_sq_sq w.params u a (xS x .sq sT tok) L q es eT nT sT).sound X R hh 'a' (fun ad tk=>zc (ze0 rfl) (zc (zi1 rfl) (zc (ze1 rfl) all_nil))) fun ad tk s R S=>?_
   try simp only [zall] at R
   exact hQ _ _ _ _ _ rfl _ _ n _ _ s R S (.inl rfl) hp rfl ⟨_,rfl⟩ rfl trivial
  by_cases h2 : c = 92
  ·subst h2
   refine (m0_sq_esc w.params u a (xS x .sq sT tok) L q es eT nT sT ⟨⟨tok ++ [92]⟩⟩).sound X R hh (fun _ _=>rfl) (fun ad tk=>zc (ze0 rfl) (zc (zi1 rfl) (zc (ze0 rfl) (zc (zi1 rfl) (zc (zi0 rfl) (zc (zq (by first | omega | (simp; omega))) all_nil)))))) fun ad tk s R S=>?_
   try simp only [zall] at R
   exact hQ _ _ _ _ _ rfl _ _ n _ _ s R S (.inl rfl) hp rfl ⟨_,rfl⟩ rfl trivial
  simp only [step_sq false h1 h2] at hQ
  refine (m0_sq_any w.params u a (xS x .sq sT tok) L q es eT c nT sT ⟨⟨tok ++ [c]⟩⟩).sound X R hh (fun _ _=>rfl) (fun ad tk=>zc (ze0 rfl) (zc (zi1 rfl) (zc (ze0 (beq_no h1)) (zc (zi0 (mem_no h2)) (zc (zq (by first | omega | (simp; omega))) all_nil))))) fun ad tk s R S=>?_
  try simp only [zall] at R
  exact hQ _ _ _ _ _ rfl _ _ n _ _ s R S (.inl rfl) hp rfl ⟨_,rfl⟩ rfl trivial
theorem main0_dq : MainT w false .dq:=by
 intro u a x sT tok q es eT n L nT oc post A h₀ s Q E hinv hal hp htl hwc hes hd hh X R hQ hE
 rw [tw_execs]
 have hd0 : A.depth + 0 < recursionLimit:=by omega
 have hd1 : A.depth + 0 + 1 < recursionLimit:=by omega
 obtain ⟨hsz,pre,hpre,hpos⟩:=id hp
 cases oc with
 | none =>
  refine (m0_dq_eof w.params u a (xS x .dq sT tok) L q es eT nT sT).sound X R hh 'a' (fun ad tk=>zc (ze0 rfl) (zc (zi1 rfl) (zc con_exc all_nil))) fun ad tk s R S=>?_
  try simp only [zall] at R
  exact hE _ rfl _ _ _ _ s R S (rt4_nf _ _ _ _ _ _ _ _)
 | some c =>
  have hc:=hal c rfl
  by_cases h1 : c = 34
  ·subst h1
   refine (m0_dq_dq w.params u a (xS x .dq sT tok) L q es eT nT sT).sound X R hh 'a' (fun ad tk=>zc (ze0 rfl) (zc (zi1 rfl) (zc (ze1 rfl) all_nil))) fun ad tk s R S=>?_
   try simp only [zall] at R
   exact hQ _ _ _ _ _ rfl _ _ n _ _ s R S (.inl rfl) hp rfl ⟨_,rfl⟩ rfl trivial
  by_cases h2 : c = 92
  ·subst h2
   refine (m0_dq_esc w.params u a (xS x .dq sT tok) L q es eT nT sT).sound X R hh 'a' (fun ad tk=>zc (ze0 rfl) (zc (zi1 rfl) (zc (ze0 rfl) (zc (zi1 rfl) (zc (zi1 rfl) all_nil))))) fun ad tk s R S=>?_
   try simp only [zall] at R
   exact hQ _ _ _ _ _ rfl _ _ n _ _ s R S (.inl rfl) hp rfl ⟨_,rfl⟩ rfl rfl
  simp only [step_dq false h1 h2] at hQ
  refine (m0_dq_any w.params u a (xS x .dq sT tok) L q es eT c nT sT ⟨⟨tok ++ [c]⟩⟩).sound X R hh (fun _ _=>rfl) (fun ad tk=>zc (ze0 rfl) (zc (zi1 rfl) (zc (ze0 (beq_no h1)) (zc (zi0 (mem_no h2)) (zc (zq (by first | omega | (simp; omega))) all_nil))))) fun ad tk s R S=>?_
  try simp only [zall] at R
  exact hQ _ _ _ _ _ rfl _ _ n _ _ s R S (.inl rfl) hp rfl ⟨_,rfl⟩ rfl trivial
theorem main0_ea : MainT w false .ea:=by
 intro u a x sT tok q es eT n L nT oc post A h₀ s Q E hinv hal hp htl hwc hes hd hh X R hQ hE
 rw [tw_execs]
 have hd0 : A.depth + 0 < recursionLimit:=by omega
 have hd1 : A.depth + 0 + 1 < recursionLimit:=by omega
 obtain ⟨hsz,pre,hpre,hpos⟩:=id hp
 cases oc with
 | none =>
  refine (m0_esc_eof w.params u a (xS x .ea sT tok) L q es eT nT sT).sound X R hh 'a' (fun ad tk=>zc (ze0 rfl) (zc 'o' (zc (zi1 rfl) (zc con_exc all_nil)))) fun ad tk s R S=>?_
  try simp only [zall] at R
  exact hE _ rfl _ _ _ _ s R S (rt4_nf _ _ _ _ _ _ _ _)
 | some c =>
  have hes:=id hes
  simp only [esOk] at hes
  subst hes
  refine (m0_esc_any w.params u a (xS x .ea sT tok) L q eT c nT sT ⟨⟨tok ++ [c]⟩⟩).sound X R hh (fun _ _=>rfl) (fun ad tk=>zc (ze0 rfl) (zc (zi0 rfl) (zc (zi1 rfl) (zc (zi0 rfl) (zc (zq (by first | omega | (simp; omega))) all_nil))))) fun ad tk s R S=>?_
  try simp only [zall] at R
  exact hQ _ _ _ _ _ rfl _ _ n _ _ s R S (.inl rfl) hp rfl ⟨_,rfl⟩ rfl trivial
theorem main0_ed : MainT w false .ed:=by
 intro u a x sT tok q es eT n L nT oc post A h₀ s Q E hinv hal hp htl hwc hes hd hh X R hQ hE
 rw [tw_execs]
 have hd0 : A.depth + 0 < recursionLimit:=by omega
 have hd1 : A.depth + 0 + 1 < recursionLimit:=by omega
 obtain ⟨hsz,pre,hpre,hpos⟩:=id hp
 cases oc with
 | none =>
  refine (m0_esc_eof w.params u a (xS x .ed sT tok) L q es eT nT sT).sound X R hh 'a' (fun ad tk=>zc (ze0 rfl) (zc 'o' (zc (zi1 rfl) (zc con_exc all_nil)))) fun ad tk s R S=>?_
  try simp only [zall] at R
  exact hE _ rfl _ _ _ _ s R S (rt4_nf _ _ _ _ _ _ _ _)
 | some c =>
  have hes:=id hes
  simp only [esOk] at hes
  subst hes
  have hc:=hal c rfl
  by_cases h1 : c = 34
  ·subst h1
   refine (m0_esc_dq_d w.params u a (xS x .ed sT tok) L q eT nT sT ⟨⟨tok ++ [34]⟩⟩).sound X R hh (fun _ _=>rfl) (fun ad tk=>zc (ze0 rfl) (zc (zi0 rfl) (zc (zi1 rfl) (zc (zi1 rfl) (zc (fun _ _=>con_ne true rfl) (zc (fun _ _=>con_ne false rfl) (zc (zq (by first | omega | (simp; omega))) all_nil))))))) fun ad tk s R S=>?_
   try simp only [zall] at R
   exact hQ _ _ _ _ _ rfl _ _ n _ _ s R S (.inl rfl) hp rfl ⟨_,rfl⟩ rfl trivial
  by_cases h2 : c = 92
  ·subst h2
   refine (m0_esc_esc_d w.params u a (xS x .ed sT tok) L q eT nT sT ⟨⟨tok ++ [92]⟩⟩).sound X R hh (fun _ _=>rfl) (fun ad tk=>zc (ze0 rfl) (zc (zi0 rfl) (zc (zi1 rfl) (zc (zi1 rfl) (zc (fun _ _=>con_ne false rfl) (zc (zq (by first | omega | (simp; omega))) all_nil)))))) fun ad tk s R S=>?_
   try simp only [zall] at R
   exact hQ _ _ _ _ _ rfl _ _ n _ _ s R S (.inl rfl) hp rfl ⟨_,rfl⟩ rfl trivial
  simp only [step_ed false h1 h2] at hQ
  refine (m0_esc_any_d w.params u a (xS x .ed sT tok) L q eT c nT sT ⟨⟨tok ++ [92] ++ [c]⟩⟩ ⟨⟨tok ++ [92]⟩⟩).sound X R hh (fun _ _=>rfl) (fun ad tk=>zc (ze0 rfl) (zc (zi0 rfl) (zc (zi1 rfl) (zc (zi1 rfl) (zc (fun _ _=>con_ne true (bne_no h2)) (zc (fun _ _=>con_ne true (bne_no h1)) (zc (zq (by omega)) (zc (zq (by first | omega | (simp; omega))) all_nil)))))))) fun ad tk s R S=>?_
  try simp only [zall] at R
  exact hQ _ _ _ _ _ rfl _ _ n _ _ s R S (.inl rfl) hp rfl ⟨_,rfl⟩ rfl trivial
end
section
open PySem PySem.W PySem.W.X PyProof.Rows PySem.Builtin PySem.Builtin.Str PySem.Builtin.Int
variable {w : World} {A : Around} {h₀ : Heap} {s : Shared} {E : Value->Shared->Prop}
section
variable (P : Params) (L : Addr) (u : Nat->Tok) (a : AD) (q : Bool) (es : Str) (eT t : Tok) (y : Str) (yT : Tok)
theorem rt_test : Lf P (Tf P) [] [] [] (zIT (sTest (sNth body697 2)) (env697 L) (zEV (sTest (sNth body697 2)) (env697 L))) 0 zve (fun ad tk=>[]) (fun ad tk=>(.val true)):=.mk' 4 0 (by kernel_rfl)
theorem wp_split {s0 : Stmt} {rest : List Stmt} {env : Env} {Q : Flow->Shared->Prop} {s : Shared}
  (h : WP w A (execs [s0] env) (fun f s'=>match f with | .next=>WP w A (execs rest env) Q E s' | f=>Q f s') E s) : WP w A (execs (s0 :: rest) env) Q E s:=by
 refine wpAny_execs_cons fun Γ p hΓ=>?_
 have q:=h Γ p hΓ
 rw [execs_cons,Sem.wp_bind'] at q
 refine Sem.wp_mono _ Γ _ (fun f p' s' h'=>?_) (fun _ _ _ h'=>h') _ _ q
 cases f <;> exact h'
theorem rd_con (u : 'f') (a : AD) (x : LX) {post : List Nat} (hp : AtP x post) :
  ∃ p : Int,(∀ y : LX,y.buf = x.buf->y.pos = p->AtP y post.tail) ∧ ∀ t D U,D + 1 < recursionLimit->Con w 'c' [a.si,a.sd] (.call (.ref 540) ⟨[.ref a.si,.int 1 t],[]⟩) [siO a,siDict w.params u x]
   ⟨0,fun _ f=>.ok (.ret (.str (nxS post.head?) (f 0))),fun _ f _=>[siO a,siDict w.params u 'l'],fun _ _=>[],false⟩ D U:=by
 obtain ⟨hs,pre,hpre,hpos⟩:=hp
 have hn : x.buf.length = pre.length + post.length:=by
  show x.buf.cps.size = _
  rw [← Array.length_toList,hpre]; simp
 cases post with
 | nil =>
  refine ⟨x.pos,fun y h1 h2=>⟨h1 ▸ hs,pre,h1 ▸ hpre,h2.trans hpos⟩,fun t D U hD A h₀ s h1 h2 hh X R=>?_⟩
  refine codeAny_mono (rd_con0 u a x t hD hs (by simp at hn; omega) A h₀ s h1 h2 hh X R) ?_
  rintro r s' ⟨g,f,rfl,R',S'⟩
  exact ⟨g,fun m=>match m with | 0=>cut8 f 0 | _=>x.posT,rfl,R',S'⟩
 | cons c post =>
  exact ⟨x.pos + 1,fun y h1 h2=>⟨h1 ▸ hs,pre ++ [c],by rw [h1,hpre]; simp,by rw [h2,hpos]; simp⟩,fun t D U hD=>rd_con1 u a x t hD hs hpre hpos⟩
noncomputable def u3 (u : Nat->Tok) (t : Tok) : Nat->Tok:=fun n=>match n with
 | 3=>t
 | n=>u n
noncomputable def SameU (u v : Nat->Tok) : Prop:=∀ (P : Params) (a : AD) (k : Bool) (x y : LX),lxDict P v a k x = lxDict P u a k x ∧ siDict P v y = siDict P u y
theorem SameU.refl (u : 'f') : SameU u u:=fun _ _ _ _ _=>⟨rfl,rfl⟩
theorem SameU.trans {u v z : 'f'} (h : SameU u v) (h2 : SameU v z) : SameU u z:=fun P a k x y=>⟨(h2 P a k x y).1.trans (h P a k x y).1,(h2 P a k x y).2.trans (h P a k x y).2⟩
theorem sameU3 (u : 'f') (t : Tok) : SameU u (u3 u t):=fun P a k x y=>⟨by kernel_rfl!,by kernel_rfl!⟩
theorem rt_new : sn (rt3 P u a q es eT) (en P a428 t (.str y yT)) = rt4 P (u3 u t) a q es eT y yT:=by kernel_rfl!
noncomputable def frT (P : Params) (u : Nat->Tok) (a : AD) (q : Bool) (es : Str) (eT : Tok) (fo : Option (Str × Tok)) : Obj:=match fo with
 | none=>rt3 P u a q es eT
 | some (nx,nT)=>rt4 P u a q es eT nx nT
noncomputable def inpOf (pb : Option (Nat × Tok)) (post : List Nat) : List Nat:=match pb with
 | none=>post
 | some (c,_)=>c :: post
noncomputable def pbV (pb : Option (Nat × Tok)) : List Value:=match pb with
 | none=>[]
 | some (c,t)=>[.str ⟨⟨[c]⟩⟩ t]
theorem dq_eq (n : Int) : (⟨.type SL.s5314052453082223887x17,none,.fields ⟨[.none,.int n 0]⟩,⟨[]⟩⟩ : Obj) = dqO n []:=rfl
theorem reads (k : Bool) (a : AD) (L : Addr) (u : 'f') (x : LX) (q : Bool) (es : Str) (eT : Tok) (fo : Option (Str × Tok)) (dn : Int) (pb : Option (Nat × Tok)) (post : List Nat) (hk : k = false->pb = none) (hp : AtP x post)
  {Q : Flow->Shared->Prop} (hd : A.depth + 5 < recursionLimit) (hh : 'g') (X : 'r')
  (R : Rep h₀ (ASr k a L) (CSr k w.params u a x dn (pbV pb) (frT w.params u a q es eT fo)) s.heap)
  (hQ : ∀ u2 x2 dn2 nT s',SameU u u2->Rep h₀ (ASr k a L) (CSr k w.params u2 a x2 dn2 [] (rt4 w.params u2 a q es eT (nxS (inpOf pb post).head?) nT)) s'.heap->Same s s'->AtP x2 (inpOf pb post).tail->x2.wc = x.wc->x2.st = x.st->x2.tok = x.tok->Q .next s') :
  WP w A (execs [sNth (sBody (sNth body697 2)) 0] (env697 L)) Q E s:=by
 rw [tw_execs]
 have hd0 : A.depth + 0 < recursionLimit:=by omega
 have hd1 : A.depth + 0 + 1 < recursionLimit:=by omega
 obtain ⟨p,hpp,C⟩:=rd_con (w:=w) u a x hp
 cases k with
 | false =>
  obtain rfl:=hk rfl
  cases fo with
  | none =>
   refine (n03_rd w.params u a x L q es eT (nxS post.head?) p).sound X R hh 'a' (fun ad tk=>all_cons (Con.left (as:=[a.lx,a.ld]) (l₂:=[_,_,_,_,_]) (cs:=[_,_]) (c₂:=[_,_,_,_,_]) (pc0_con u a _ hd0) rfl) (all_cons (Con.frame (l₁:=[a.lx,a.ld]) (as:=[a.si,a.sd]) (l₂:=[_,_,_]) (c₁:=[_,_]) (cs:=[_,_]) (c₂:=[_,_,_]) (C _ _ _ hd1) rfl rfl rfl rfl rfl 'a' 'a') all_nil)) ?_
   intro ad tk s' R' S'
   simp only [si_pos,rt_new] at R'
   rw [lx_p _ _ _ _ _ p (tk 14)] at R'
   have hU:=sameU3 u (tk 21)
   rw [← (hU w.params a false _ { x with pos:=p,posT:=tk 14 }).1,← (hU w.params a false { x with pos:=p,posT:=tk 14 } _).2] at R'
   exact hQ _ _ dn _ s' hU R' S' (hpp _ rfl rfl) rfl rfl rfl
  | some nn =>
   obtain ⟨nx,nT⟩:=nn
   refine (n04_rd w.params u a x L q es eT nx nT (nxS post.head?) p).sound X R hh 'a' (fun ad tk=>all_cons (Con.left (as:=[a.lx,a.ld]) (l₂:=[_,_,_,_,_]) (cs:=[_,_]) (c₂:=[_,_,_,_,_]) (pc0_con u a _ hd0) rfl) (all_cons (Con.frame (l₁:=[a.lx,a.ld]) (as:=[a.si,a.sd]) (l₂:=[_,_,_]) (c₁:=[_,_]) (cs:=[_,_]) (c₂:=[_,_,_]) (C _ _ _ hd1) rfl rfl rfl rfl rfl 'a' 'a') all_nil)) ?_
   intro ad tk s' R' S'
   simp only [si_pos,rt_nx] at R'
   rw [lx_p _ _ _ _ _ p (tk 14)] at R'
   have hU:=SameU.refl u
   rw [← (hU w.params a false _ { x with pos:=p,posT:=tk 14 }).1,← (hU w.params a false { x with pos:=p,posT:=tk 14 } _).2] at R'
   exact hQ _ _ dn _ s' hU R' S' (hpp _ rfl rfl) rfl rfl rfl
 | true =>
  cases pb with
  | none =>
   cases fo with
   | none =>
    refine (n13_rd w.params u a x dn L q es eT (nxS post.head?) p).sound X R hh 'a' (fun ad tk=>all_cons (Con.left (as:=[a.lx,a.ld]) (l₂:=[_,_,_,_,_,_]) (cs:=[_,_]) (c₂:=[_,_,_,_,_,_]) (pc1_con u a _ hd0) rfl) (all_cons (Con.frame (l₁:=[a.lx,a.ld]) (as:=[a.si,a.sd]) (l₂:=[_,_,_,_]) (c₁:=[_,_]) (cs:=[_,_]) (c₂:=[_,_,_,_]) (C _ _ _ hd1) rfl rfl rfl rfl rfl 'a' 'a') all_nil)) ?_
    intro ad tk s' R' S'
    simp only [si_pos,rt_new] at R'
    rw [lx_p _ _ _ _ _ p (tk 17)] at R'
    have hU:=sameU3 u (tk 24)
    rw [← (hU w.params a true _ { x with pos:=p,posT:=tk 17 }).1,← (hU w.params a true { x with pos:=p,posT:=tk 17 } _).2] at R'
    exact hQ _ _ _ _ s' hU R' S' (hpp _ rfl rfl) rfl rfl rfl
   | some nn =>
    obtain ⟨nx,nT⟩:=nn
    refine (n14_rd w.params u a x dn L q es eT nx nT (nxS post.head?) p).sound X R hh 'a' (fun ad tk=>all_cons (Con.left (as:=[a.lx,a.ld]) (l₂:=[_,_,_,_,_,_]) (cs:=[_,_]) (c₂:=[_,_,_,_,_,_]) (pc1_con u a _ hd0) rfl) (all_cons (Con.frame (l₁:=[a.lx,a.ld]) (as:=[a.si,a.sd]) (l₂:=[_,_,_,_]) (c₁:=[_,_]) (cs:=[_,_]) (c₂:=[_,_,_,_]) (C _ _ _ hd1) rfl rfl rfl rfl rfl 'a' 'a') all_nil)) ?_
    intro ad tk s' R' S'
    simp only [si_pos,rt_nx] at R'
    rw [lx_p _ _ _ _ _ p (tk 17)] at R'
    have hU:=SameU.refl u
    rw [← (hU w.params a true _ { x with pos:=p,posT:=tk 17 }).1,← (hU w.params a true { x with pos:=p,posT:=tk 17 } _).2] at R'
    exact hQ _ _ _ _ s' hU R' S' (hpp _ rfl rfl) rfl rfl rfl
  | some cc =>
   obtain ⟨c,cT⟩:=cc
   cases fo with
   | none =>
    refine (n13_pb w.params u a x dn L q es eT ⟨⟨[c]⟩⟩ cT).sound X R hh 'a' (fun ad tk=>all_cons (Con.left (as:=[a.lx,a.ld]) (l₂:=[_,_,_,_,_,_]) (cs:=[_,_]) (c₂:=[_,_,_,_,_,_]) (pc1_con u a _ hd0) rfl) all_nil) ?_
    intro ad tk s' R' S'
    simp only [dq_eq,rt_new] at R'
    have hU:=sameU3 u (tk 15)
    rw [← (hU w.params a true x x).1,← (hU w.params a true x x).2] at R'
    exact hQ _ _ _ _ s' hU R' S' hp rfl rfl rfl
   | some nn =>
    obtain ⟨nx,nT⟩:=nn
    refine (n14_pb w.params u a x dn L q es eT nx nT ⟨⟨[c]⟩⟩ cT).sound X R hh 'a' (fun ad tk=>all_cons (Con.left (as:=[a.lx,a.ld]) (l₂:=[_,_,_,_,_,_]) (cs:=[_,_]) (c₂:=[_,_,_,_,_,_]) (pc1_con u a _ hd0) rfl) all_nil) ?_
    intro ad tk s' R' S'
    simp only [dq_eq,rt_nx] at R'
    have hU:=SameU.refl u
    rw [← (hU w.params a true x x).1,← (hU w.params a true x x).2] at R'
    exact hQ _ _ _ _ s' hU R' S' hp rfl rfl rfl
theorem liner (k : Bool) (a : AD) (L : Addr) (u : 'f') (x : LX) (q : Bool) (es : Str) (eT : Tok) (oc : Option Nat) (nT : Tok) (dn : Int)
  {Q : Flow->Shared->Prop} (hh : 'g') (X : 'r')
  (R : Rep h₀ (ASr k a L) (CSr k w.params u a x dn [] (rt4 w.params u a q es eT (nxS oc) nT)) s.heap)
  (hQ : ∀ i iT s',Rep h₀ (ASr k a L) (CSr k w.params u a { x with ln:=i,lnT:=iT } dn [] (rt4 w.params u a q es eT (nxS oc) nT)) s'.heap->Same s s'->Q .next s') :
  WP w A (execs [sNth (sBody (sNth body697 2)) 1] (env697 L)) Q E s:=by
 rw [tw_execs]
 have hb : ((nxS oc).cps.toList == a349.cps.toList) = true ∨ ((nxS oc).cps.toList == a349.cps.toList) = false:=by
  cases ((nxS oc).cps.toList == a349.cps.toList) <;> simp
 cases k with
 | false =>
  rcases hb with hb | hb
  ·refine (l0_t w.params u a x L q es eT (nxS oc) nT).sound X R hh 'a' (fun ad tk=>all_cons (fun _ _=>con_eq true hb) all_nil) ?_
   intro ad tk s' R' S'
   simp only [lx_ln] at R'
   exact hQ _ _ s' R' S'
  ·refine (l0_f w.params u a x L q es eT (nxS oc) nT).sound X R hh 'a' (fun ad tk=>all_cons (fun _ _=>con_eq false hb) all_nil) ?_
   intro ad tk s' R' S'
   exact hQ x.ln x.lnT s' R' S'
 | true =>
  rcases hb with hb | hb
  ·refine (l1_t w.params u a x dn L q es eT (nxS oc) nT).sound X R hh 'a' (fun ad tk=>all_cons (fun _ _=>con_eq true hb) all_nil) ?_
   intro ad tk s' R' S'
   simp only [lx_ln] at R'
   exact hQ _ _ s' R' S'
  ·refine (l1_f w.params u a x dn L q es eT (nxS oc) nT).sound X R hh 'a' (fun ad tk=>all_cons (fun _ _=>con_eq false hb) all_nil) ?_
   intro ad tk s' R' S'
   exact hQ x.ln x.lnT s' R' S'
end
variable {w : World} {A : Around} {h₀ : Heap} {s : Shared} {R : Result->Shared->Prop} {E : Value->Shared->Prop}
theorem mainK (k : Bool) (st : St) (u : 'f') (a : AD) (x : LX) (sT : Tok) (tok : List Nat) (q : Bool) (es : Str) (eT : Tok) (n : Int) (L : Addr) (nT : Tok) (oc : Option Nat) (post : List Nat)
  (hk : k = false->st ≠ .c) (hinv : Inv st tok q) (hal : ∀ c,oc = some c->c ∈ alpha) (hp : AtP x post) (htl : tok.length ≤ 1000) (hwc : x.wc.cps.toList = wcs k) (hes : esOk st es)
  {Q : Flow->Shared->Prop} (hd : A.depth + 5 < recursionLimit) (hh : 'g') (X : 'r')
  (R : Rep h₀ (ASr k a L) (CSr k w.params u a (xS x st sT tok) n [] (rt4 w.params u a q es eT (nxS oc) nT)) s.heap)
  (hQ : ∀ stop st2 tok2 q2 io,step k st tok q oc = .go stop st2 tok2 q2 io->∀ f x2 n2 es2 eT2 s',Rep h₀ (ASr k a L) (CSr k w.params u a x2 n2 (pbOf io oc nT) (rt4 w.params u a q2 es2 eT2 (nxS oc) nT)) s'.heap->Same s s'->flowOk stop f->AtP x2 (afterIo io post)->x2.wc = x.wc->(∃ T,x2.st = stV st2 T)->x2.tok = ⟨⟨tok2⟩⟩ →
   esOk st2 es2->Q f s')
  (hE : ∀ b,step k st tok q oc = .err b->∀ e t m fr s',Rep h₀ (ASr k a L ++ [e,t]) (CSr k w.params u a (xS x st sT tok) n [] fr ++ [excO t,tpO [.str (msgOf b) m]]) s'.heap->Same s s'->(∀ vs,fr.data ≠ .fields vs)->E (.ref e) s') :
  WP w A (execs ((sBody (sNth body697 2)).drop 2) (env697 L)) Q E s:=by
 cases k with
 | true =>
  cases st with
  | nul=>exact main1_nul u a x sT tok q es eT n L nT oc post _ _ _ _ _ hinv hal hp htl hwc hes hd hh X R hQ hE
  | sp=>exact main1_sp u a x sT tok q es eT n L nT oc post _ _ _ _ _ hinv hal hp htl hwc hes hd hh X R hQ hE
  | a=>exact main1_a u a x sT tok q es eT n L nT oc post _ _ _ _ _ hinv hal hp htl hwc hes hd hh X R hQ hE
  | c=>exact main1_c u a x sT tok q es eT n L nT oc post _ _ _ _ _ hinv hal hp htl hwc hes hd hh X R hQ hE
  | sq=>exact main1_sq u a x sT tok q es eT n L nT oc post _ _ _ _ _ hinv hal hp htl hwc hes hd hh X R hQ hE
  | dq=>exact main1_dq u a x sT tok q es eT n L nT oc post _ _ _ _ _ hinv hal hp htl hwc hes hd hh X R hQ hE
  | ea=>exact main1_ea u a x sT tok q es eT n L nT oc post _ _ _ _ _ hinv hal hp htl hwc hes hd hh X R hQ hE
  | ed=>exact main1_ed u a x sT tok q es eT n L nT oc post _ _ _ _ _ hinv hal hp htl hwc hes hd hh X R hQ hE
 | false =>
  cases st with
  | nul=>exact main0_nul u a x sT tok q es eT n L nT oc post _ _ _ _ _ hinv hal hp htl hwc hes hd hh X R hQ hE
  | sp=>exact main0_sp u a x sT tok q es eT n L nT oc post _ _ _ _ _ hinv hal hp htl hwc hes hd hh X R hQ hE
  | a=>exact main0_a u a x sT tok q es eT n L nT oc post _ _ _ _ _ hinv hal hp htl hwc hes hd hh X R hQ hE
  | c=>exact absurd rfl (hk rfl)
  | sq=>exact main0_sq u a x sT tok q es eT n L nT oc post _ _ _ _ _ hinv hal hp htl hwc hes hd hh X R hQ hE
  | dq=>exact main0_dq u a x sT tok q es eT n L nT oc post _ _ _ _ _ hinv hal hp htl hwc hes hd hh X R hQ hE
  | ea=>exact main0_ea u a x sT tok q es eT n L nT oc post _ _ _ _ _ hinv hal hp htl hwc hes hd hh X R hQ hE
  | ed=>exact main0_ed u a x sT tok q es eT n L nT oc post _ _ _ _ _ hinv hal hp htl hwc hes hd hh X R hQ hE
inductive RO where
 | err (b : Bool)
 | brk (st : St) (tok : List Nat) (q : Bool) (rest : List Nat)
noncomputable def restOf (io : Io) (inp : List Nat) : List Nat:=match io with
 | .no=>inp.tail
 | .line=>skipLine inp.tail
 | .push=>inp
noncomputable def rtok (k : Bool) : Nat->St->List Nat->Bool->List Nat->RO
 | 0,_,_,_,_=>.err true
 | n + 1,st,tok,q,inp=>match step k st tok q inp.head? with
  | .err b=>.err b
  | .go stop st2 tok2 q2 io=>match stop with
   | true=>.brk st2 tok2 q2 (restOf io inp)
   | false=>rtok k n st2 tok2 q2 (restOf io inp)
structure StepOk (k : Bool) (st2 : St) (tok tok2 : List Nat) (q2 : Bool) (io : Io) : Prop where
 inv : Inv st2 tok2 q2
 io : io ≠ .push
 len : tok2.length ≤ tok.length + 2
 noc : k = false->st2 ≠ .c
theorem step_none (k : Bool) (st : St) (tok : List Nat) (q : Bool) {st2 : St} {tok2 : List Nat} {q2 : Bool} {io : Io} : step k st tok q none ≠ .go false st2 tok2 q2 io:=by
 cases st <;> simp [step]
theorem step_ok (k : Bool) (st : St) (tok : List Nat) (q : Bool) (c : Nat) {st2 : St} {tok2 : List Nat} {q2 : Bool} {io : Io} (hk : k = false->st ≠ .c) (hi : Inv st tok q) (h : step k st tok q (some c) = .go false st2 tok2 q2 io) : StepOk k st2 tok tok2 q2 io:=by
 cases k <;> cases st <;> simp only [step] at h <;> (try split at h) <;> (try cases h) <;> (exact ⟨by simp_all [Inv],by simp,by simp,by first | (intro h; exact absurd rfl (hk h)) | simp⟩)
theorem step_push (k : Bool) (st : St) (tok : List Nat) (q : Bool) (oc : Option Nat) {stop : Bool} {st2 : St} {tok2 : List Nat} {q2 : Bool} (hk : k = false->st ≠ .c) (h : step k st tok q oc = .go stop st2 tok2 q2 .push) : k = true ∧ ∃ c,oc = some c:=by
 cases k <;> cases st <;> cases oc <;> simp only [step] at h <;> (try split at h) <;> (try cases h) <;> (first | exact absurd rfl (hk rfl) | exact ⟨rfl,_,rfl⟩)
theorem skip_len : ∀ l : List Nat,(skipLine l).length ≤ l.length
 | []=>Nat.le_refl _
 | c :: l=>by
  unfold skipLine
  split
  ·simp
  ·have:=skip_len l; simp; omega
theorem skip_mem {d : Nat} : ∀ {l : List Nat},d ∈ skipLine l->d ∈ l
 | [],h=>h
 | c :: l,h=>by
  unfold skipLine at h
  split at h
  ·exact .tail _ h
  ·exact .tail _ (skip_mem h)
theorem Lf.free { α : Type } { w : World } { t : Sem α } { v : α } (Lv : Lf w.params 'c' [] [] [] t 0 (fun _ _=>[]) (fun _ _=>[]) (fun _ _=>.val v)) { A : Around } { h₀ : Heap } { as : List Addr } { cs : List Obj } { s : Shared } { Q : α->Shared->Prop } { E : Value->Shared->Prop }
  (X : 'r') (R : Rep h₀ as cs s.heap) (hh : 'g') (h : ∀ s',Rep h₀ as cs s'.heap->Same s s'->Q v s') : WP w A t Q E s:=by
 have R0 : Rep h₀ ([] ++ as) cs s.heap:=R
 refine Lv.sound (h₀:=hideAll s.heap []) (X.hide R0) (by have:=R0.hideRest; simpa using this) hh (fun _ _=>rfl) (fun _ _ y hy=>by cases hy) ?_
 intro ad tk s' R' S'
 refine h s' ?_ S'
 have R2:=R0.back (gs:=[]) (cs':=[]) (nw:=[]) rfl (by simpa using R')
 simpa using R2
structure RTop (w : World) (k : Bool) (a : AD) (L : Addr) (h₀ : Heap) (wc : Str) (u₀ : Nat->Tok) (out : RO) (s₀ : Shared) (n : Nat) (s : Shared) : Prop where
 all : ∃ u x st sT tok q es eT fo dn pb post,(inpOf pb post).length < n ∧ rtok k n st tok q (inpOf pb post) = out ∧ Inv st tok q ∧ (k = false->st ≠ .c) ∧ (k = false->pb = none) ∧ (∀ c ∈ inpOf pb post,c ∈ alpha) ∧ AtP x post ∧
  tok.length + 2 * (inpOf pb post).length ≤ 1000 ∧ x.wc = wc ∧ esOk st es ∧ SameU u₀ u ∧ Rep h₀ (ASr k a L) (CSr k w.params u a (xS x st sT tok) dn (pbV pb) (frT w.params u a q es eT fo)) s.heap ∧ Same s₀ s
theorem rest_len (io : Io) (h : io ≠ .push) (c : Nat) (l : List Nat) : (restOf io (c :: l)).length ≤ l.length:=by
 cases io with
 | no=>exact Nat.le_refl _
 | line=>exact skip_len l
 | push=>exact absurd rfl h
theorem rest_mem (io : Io) {d : Nat} {l : List Nat} (h : d ∈ restOf io l) : d ∈ l:=by
 cases io with
 | no=>exact List.mem_of_mem_tail h
 | line=>exact List.mem_of_mem_tail (skip_mem h)
 | push=>exact h
theorem rloop {k : Bool} {a : AD} {L : Addr} {wc : Str} {u₀ : 'f'} {out : RO} {s₀ : Shared} (hwc : wc.cps.toList = wcs k) (hd : A.depth + 5 < recursionLimit) (hh : 'g') (X : 'r')
  (hB : ∀ st2 tok2 q2 rest,out = .brk st2 tok2 q2 rest->∀ u2 x2 dn2 pb2 post2 es2 eT2 nx nT s',SameU u₀ u2->rest = inpOf pb2 post2->AtP x2 post2->x2.wc = wc->(∃ T,x2.st = stV st2 T)->x2.tok = ⟨⟨tok2⟩⟩->(k = false->pb2 = none) →
   Rep h₀ (ASr k a L) (CSr k w.params u2 a x2 dn2 (pbV pb2) (rt4 w.params u2 a q2 es2 eT2 nx nT)) s'.heap->Same s₀ s'->R (.ok .next) s')
  (hE : ∀ b,out = .err b->∀ u2 x2 dn2 fr e t m s',SameU u₀ u2->Rep h₀ (ASr k a L ++ [e,t]) (CSr k w.params u2 a x2 dn2 [] fr ++ [excO t,tpO [.str (msgOf b) m]]) s'.heap->Same s₀ s'->(∀ vs,fr.data ≠ .fields vs)->notedBy (model pw w) A (env697 L) (fun e s'=>R (.error e) s') (.ref e) s')
  (n : Nat) (s : Shared) (I : RTop w k a L h₀ wc u₀ out s₀ n s) : CA w A (rtW L) R s:=by
 refine codeAny_whileLoop (RTop w k a L h₀ wc u₀ out s₀) ?_ n I
 clear I s n
 rintro n s ⟨u,x,st,sT,tok,q,es,eT,fo,dn,pb,post,hn,hout,hinv,hc,hpb,hal,hp,hlen,hxw,hes,hU,R1,S1⟩
 rw [tw_eval,tw_isTrue]
 obtain ⟨n,rfl⟩ : ∃ m,n = m + 1:=⟨n - 1,by omega⟩
 refine (rt_test w.params L).free X R1 hh fun s2 R2 S2=>?_
 rw [if_pos rfl]
 have hk : ∀ h : k = false,pb = none:=hpb
 refine wp_split (s0:=sNth (sBody (sNth body697 2)) 0) (rest:=(sBody (sNth body697 2)).drop 1) (reads k a L u (xS x st sT tok) q es eT fo dn pb post hk hp hd hh X R2 ?_)
 intro u2 x2 dn2 nT s3 hU2 R3 S3 hp2 hw2 hst2 htok2
 have e2 : x2 = xS x2 st sT tok:=xS_eq hst2 htok2
 rw [e2] at R3
 refine wp_split (s0:=sNth (sBody (sNth body697 2)) 1) (rest:=(sBody (sNth body697 2)).drop 2) (liner k a L u2 (xS x2 st sT tok) q es eT (inpOf pb post).head? nT dn2 hh X R3 ?_)
 intro i iT s4 R4 S4
 have S34:=((S1.trans S2).trans S3).trans S4
 refine mainK k st u2 a { x2 with ln:=i,lnT:=iT } sT tok q es eT dn2 L nT (inpOf pb post).head? (inpOf pb post).tail hc hinv (fun c h=>hal c (List.mem_of_mem_head? h)) hp2 (by omega) (by rw [← hwc,← hxw]; exact congrArg (fun z : Str=>z.cps.toList) hw2) hes hd hh X R4 ?_ ?_
 ·intro stop st2 tok2 q2 io hs f x3 n3 es2 eT2 s5 R5 S5 hf hp3 hw3 hst3 htok3 hes2
  have S5':=S34.trans S5
  have hxw3 : x3.wc = wc:=hw3.trans (hw2.trans hxw)
  simp only [rtok,hs] at hout
  cases stop with
  | true =>
   cases hf
   dsimp only at hout
   have fin:=fun pb2 post2 (h : restOf io (inpOf pb post) = inpOf pb2 post2) (hp' : AtP x3 post2) (hk2 : k = false->pb2 = none) (hr : pbV pb2 = pbOf io (inpOf pb post).head? nT) =>
    hB st2 tok2 q2 _ hout.symm u2 x3 n3 pb2 post2 es2 eT2 _ nT s5 (hU.trans hU2) h hp' hxw3 hst3 htok3 hk2 (hr ▸ R5) S5'
   cases io with
   | no=>exact fin none _ rfl hp3 (fun _=>rfl) rfl
   | line=>exact fin none _ rfl hp3 (fun _=>rfl) rfl
   | push =>
    obtain ⟨rfl,c,hcc⟩:=step_push k st tok q _ hc hs
    obtain ⟨l,hl⟩:=List.head?_eq_some_iff.mp hcc
    have h0 : restOf .push (inpOf pb post) = inpOf (some (c,nT)) (inpOf pb post).tail:=by
     show inpOf pb post = c :: (inpOf pb post).tail
     rw [hl]; rfl
    refine fin (some (c,nT)) _ h0 hp3 (fun h=>by cases h) ?_
    rw [hcc]; rfl
  | false =>
   dsimp only at hout
   have hne : (inpOf pb post).head? ≠ none:=fun h=>step_none k st tok q (h ▸ hs)
   obtain ⟨c,hcc⟩:=Option.ne_none_iff_exists'.mp hne
   obtain ⟨l,hl⟩:=List.head?_eq_some_iff.mp hcc
   rw [hcc] at hs
   have ok:=step_ok k st tok q c hc hinv hs
   obtain ⟨T,hT⟩:=hst3
   have e3 : x3 = xS x3 st2 T tok2:=xS_eq hT htok3
   have hrl : (restOf io (inpOf pb post)).length + 1 ≤ (inpOf pb post).length:=by
    rw [hl]
    have:=rest_len io ok.io c l
    simp; omega
   have hpb2 : pbOf io (inpOf pb post).head? nT = []:=by
    cases io with
    | push=>exact absurd rfl ok.io
    | no=>rfl
    | line=>rfl
   have hp4 : AtP x3 (restOf io (inpOf pb post)):=by
    cases io with
    | push=>exact absurd rfl ok.io
    | no=>exact hp3
    | line=>exact hp3
   rw [e3,hpb2] at R5
   have I' : RTop w k a L h₀ wc u₀ out s₀ n s5:=⟨u2,x3,st2,T,tok2,q2,es2,eT2,some (_,nT),n3,none,restOf io (inpOf pb post),by show (restOf _ _).length < n; omega,hout,ok.inv,ok.noc,fun _=>rfl,
    fun c h=>hal c (rest_mem io h),hp4,by show _ + 2 * (restOf _ _).length ≤ 1000; have:=ok.len; omega,hxw3,hes2,hU.trans hU2,R5,S5'⟩
   rcases hf with rfl | rfl
   ·exact ⟨n,by omega,I'⟩
   ·exact ⟨n,by omega,I'⟩
 ·intro b hs e t m fr s5 R5 S5 hfr
  simp only [rtok,hs] at hout
  exact hE b hout.symm u2 _ _ fr e t m s5 (hU.trans hU2) R5 (S34.trans S5) hfr
end
section
open PySem PySem.W PySem.W.X PyProof.Rows
variable {w : World}
noncomputable abbrev y53 (p0 : AD):=[p0.lx,p0.ld,p0.si,p0.sd,p0.d1,p0.d2,p0.d3]
section
variable (P : Params) (u : Nat->Tok) (a : AD) (x : LX) (od : Obj) (L : Addr) (k : Nat->Tok) (es : Str) (eT : Tok) (nx : Str) (nT : Tok)
theorem rt1_b : Lf P (Tf P) (y53 a) [lxO a,lxDict P u a true x,siO a,siDict P u x,dqO 0 [],dqO 0 [],od] [] (zBA fd697 ⟨[.ref a.lx],[]⟩) 0 zve (fun ad tk=>[(lxO a),(lxDict P u a true x),(siO a),'i','b','b',(od)]) (fun ad tk=>(.val [(a294,(.ref a.lx))])):=.mk' 3 0 (by kernel_rfl)
theorem rt1_e : Lf P (Tf P) (y53 a) [lxO a,lxDict P u a true x,siO a,siDict P u x,dqO 0 [],dqO 0 [],od] [] (zNE fd697 697 [(a294,(.ref a.lx))]) 1 zve (fun ad tk=>[(lxO a),(lxDict P u a true x),(siO a),'i','b','b',(od),(zD zt98 (y55 P tk a) 1)]) (fun ad tk=>(.val (env697 (ad 0)))):=.mk' 8 2056 (by kernel_rfl)
noncomputable def rt1_fr (P : Params) (u : Nat->Tok) (a : AD) (x : LX) (od : Obj) (tk : Nat->Tok) : Obj:=(zD zt98 (y55 P tk a) 1)
theorem rt1_call (u : 'f') (a : AD) (x : LX) (od : Obj) : CallT w [a.lx,a.ld,a.si,a.sd,a.d1,a.d2,a.d3] [lxO a,lxDict w.params u a true x,siO a,siDict w.params u x,dqO 0 [],dqO 0 [],od] (rt1_fr w.params u a x od) env697 body697 697 ⟨[.ref a.lx],[]⟩:=callT _ _ (top697 w.params) rfl rfl co697 ge697 rfl (cr697 w.params) (rt1_b w.params u a x od) (rt1_e w.params u a x od)
theorem rp1 : Lf P (Tf P) (y2 a L) [lxO a,lxDict P u a true x,siO a,siDict P u x,dqO 0 [],dqO 0 [],od,rt1_fr P u a x od k] [] (zEX (body697.take 2) (env697 L)) 0 zve (fun ad tk=>[(lxO a),(lxDict P u a true x),(siO a),'i','b','b',(od),(sn (sn (rt1_fr P u a x od k) (en P a426 (tk 0) (.bool false))) (zE P a427 (tk 2) s!" " (tk 1)))]) zvn:=.mk' 20 134744072 (by kernel_rfl)
theorem rq1_q : Lf P (Tf P) (y2 a L) [lxO a,lxDict P u a true x,siO a,siDict P u x,dqO 0 [],dqO 0 [],od,rt4 P u a true es eT nx nT] [] (zEX (body697.drop 3) (env697 L)) 0 zve (fun ad tk=>[(lxO a),(sv (lxDict P u a true x) 15 (.str a181 (tk 2))),(siO a),'i','b','b',(od),(sn (rt4 P u a true es eT nx nT) (zE P a429 (tk 1) x.tok x.tokT))]) (fun ad tk=>(.val (.ret (y91 x)))):=by revert P; refine Lf.rw1 111 (zd 999 0x28120131410108081201314101080202123111214101080808120131410108) ?_ ?_ <;> kernel_rfl
theorem rq1_t : Lf P (Tf P) (y2 a L) [lxO a,lxDict P u a true x,siO a,siDict P u x,dqO 0 [],dqO 0 [],od,rt4 P u a false es eT nx nT] [xF] (zEX (body697.drop 3) (env697 L)) 0 (fun ad tk=>[(zX (zB zb5 [(y91 x),(.str a181 (tk 6))]) xF)]) (fun ad tk=>[(lxO a),(sv (lxDict P u a true x) 15 (.str a181 (tk 2))),(siO a),'i','b','b',(od),(sn (rt4 P u a false es eT nx nT) (zE P a429 (tk 1) x.tok x.tokT))]) (fun ad tk=>(.val (.ret (y91 x)))):=by revert P; refine Lf.rw1 117 (zd 999 0x281201314101080f08081201314101080202123111214101080808120131410108) ?_ ?_ <;> kernel_rfl
theorem rq1_n : Lf P (Tf P) (y2 a L) [lxO a,lxDict P u a true x,siO a,siDict P u x,dqO 0 [],dqO 0 [],od,rt4 P u a false es eT nx nT] [xT] (zEX (body697.drop 3) (env697 L)) 0 (fun ad tk=>[(zX (zB zb5 [(y91 x),(.str a181 (tk 6))]) xT)]) (fun ad tk=>[(lxO a),(sv (lxDict P u a true x) 15 (.str a181 (tk 2))),(siO a),'i','b','b',(od),(sn (rt4 P u a false es eT nx nT) (en P a429 (tk 1) .none))]) (fun ad tk=>(.val (.ret .none))):=by revert P; refine Lf.rw1 125 (zd 999 0x2812013141010808080f08081201314101080202123111214101080808120131410108) ?_ ?_ <;> kernel_rfl
noncomputable abbrev y58 (p0 : AD):=[p0.lx,p0.ld,p0.si,p0.sd,p0.d1,p0.d2]
theorem rt0_b : Lf P (Tf P) (y58 a) [lxO a,lxDict P u a false x,siO a,siDict P u x,dqO 0 [],dqO 0 []] [] (zBA fd697 ⟨[.ref a.lx],[]⟩) 0 zve (fun ad tk=>[(lxO a),(lxDict P u a false x),(siO a),'i','b','b']) (fun ad tk=>(.val [(a294,(.ref a.lx))])):=.mk' 3 0 (by kernel_rfl)
theorem rt0_e : Lf P (Tf P) (y58 a) [lxO a,lxDict P u a false x,siO a,siDict P u x,dqO 0 [],dqO 0 []] [] (zNE fd697 697 [(a294,(.ref a.lx))]) 1 zve (fun ad tk=>[(lxO a),(lxDict P u a false x),(siO a),'i','b','b',(zD zt98 (y55 P tk a) 1)]) (fun ad tk=>(.val (env697 (ad 0)))):=.mk' 8 1799 (by kernel_rfl)
noncomputable def rt0_fr (P : Params) (u : Nat->Tok) (a : AD) (x : LX) (tk : Nat->Tok) : Obj:=(zD zt98 (y55 P tk a) 1)
theorem rt0_call (u : 'f') (a : AD) (x : LX) : CallT w [a.lx,a.ld,a.si,a.sd,a.d1,a.d2] [lxO a,lxDict w.params u a false x,siO a,siDict w.params u x,dqO 0 [],dqO 0 []] (rt0_fr w.params u a x) env697 body697 697 ⟨[.ref a.lx],[]⟩:=callT _ _ (top697 w.params) rfl rfl co697 ge697 rfl (cr697 w.params) (rt0_b w.params u a x) (rt0_e w.params u a x)
theorem rp0 : Lf P (Tf P) (y5 a L) [lxO a,lxDict P u a false x,siO a,siDict P u x,dqO 0 [],dqO 0 [],rt0_fr P u a x k] [] (zEX (body697.take 2) (env697 L)) 0 zve (fun ad tk=>[(lxO a),(lxDict P u a false x),(siO a),'i','b','b',(sn (sn (rt0_fr P u a x k) (en P a426 (tk 0) (.bool false))) (zE P a427 (tk 2) s!" " (tk 1)))]) zvn:=.mk' 20 117901063 (by kernel_rfl)
theorem rq0_q : Lf P (Tf P) (y5 a L) [lxO a,lxDict P u a false x,siO a,siDict P u x,dqO 0 [],dqO 0 [],rt4 P u a true es eT nx nT] [] (zEX (body697.drop 3) (env697 L)) 0 zve (fun ad tk=>[(lxO a),(sv (lxDict P u a false x) 15 (.str a181 (tk 2))),(siO a),'i','b','b',(sn (rt4 P u a true es eT nx nT) (zE P a429 (tk 1) x.tok x.tokT))]) (fun ad tk=>(.val (.ret (y91 x)))):=by revert P; refine Lf.rw1 111 (zd 999 0x27120131410107071201314101070202123111214101070707120131410107) ?_ ?_ <;> kernel_rfl
theorem rq0_t : Lf P (Tf P) (y5 a L) [lxO a,lxDict P u a false x,siO a,siDict P u x,dqO 0 [],dqO 0 [],rt4 P u a false es eT nx nT] [xF] (zEX (body697.drop 3) (env697 L)) 0 (fun ad tk=>[(zX (zB zb5 [(y91 x),(.str a181 (tk 6))]) xF)]) (fun ad tk=>[(lxO a),(sv (lxDict P u a false x) 15 (.str a181 (tk 2))),(siO a),'i','b','b',(sn (rt4 P u a false es eT nx nT) (zE P a429 (tk 1) x.tok x.tokT))]) (fun ad tk=>(.val (.ret (y91 x)))):=by revert P; refine Lf.rw1 117 (zd 999 0x271201314101070f07071201314101070202123111214101070707120131410107) ?_ ?_ <;> kernel_rfl
theorem rq0_n : Lf P (Tf P) (y5 a L) [lxO a,lxDict P u a false x,siO a,siDict P u x,dqO 0 [],dqO 0 [],rt4 P u a false es eT nx nT] [xT] (zEX (body697.drop 3) (env697 L)) 0 (fun ad tk=>[(zX (zB zb5 [(y91 x),(.str a181 (tk 6))]) xT)]) (fun ad tk=>[(lxO a),(sv (lxDict P u a false x) 15 (.str a181 (tk 2))),(siO a),'i','b','b',(sn (rt4 P u a false es eT nx nT) (en P a429 (tk 1) .none))]) (fun ad tk=>(.val (.ret .none))):=by revert P; refine Lf.rw1 125 (zd 999 0x2712013141010707070f07071201314101070202123111214101070707120131410107) ?_ ?_ <;> kernel_rfl
end
end
section
open PySem PySem.W PySem.W.X PyProof.Rows PySem.Builtin PySem.Builtin.Str PySem.Builtin.Int
variable {w : World} {A : Around} {s : Shared} {as : List Addr} {cs : List Obj}
structure Outer (A : Around) (outer : List Env) (base h₀ : Heap) : Prop where
 fr : A.frames = some outer
 ff : h₀.FunFrames base outer
 kb : base.StaysIn h₀
noncomputable def Thrown (base : Heap) (outer : List Env) (h₀ : Heap) (cls : Value) (args : List Value) (e : Addr) (s s' : Shared) : Prop :=
 ∃ t,Heap.FlyingW base outer e cls (.ref t) s'.heap ∧ s'.heap.TupAt t args ∧ base.get? t = none ∧ h₀.UpToSlots s'.heap ∧ Same s s'
theorem Rep.none_base {base h₀ h : Heap} (R : Rep h₀ as cs h) (kb : base.StaysIn h₀) {a : Addr} (ha : a ∈ as) : base.get? a = none:=by
 cases q : base.get? a with
 | none=>rfl
 | some o=>have:=kb a o q; rw [R.fresh a ha] at this; cases this
theorem throw_first {env : Env} {L e t : Addr} {outer : List Env} {base h₀ : Heap} (i j l : Nat) {fr oe : Obj} {vs : List Value} {args : List Value} {Q : Unit->Shared->Prop} {E : Value->Shared->Prop}
  (O : Outer A outer base h₀) (hk : env.scope.kind ≠ .module) (hf : env.frame = some L) (R : Rep h₀ as cs s.heap) (hi : as[i]? = some L) (hci : cs[i]? = some fr) (hnf : ∀ vs,fr.data ≠ .fields vs)
  (hj : as[j]? = some e) (hcj : cs[j]? = some oe) (hd : oe.data = .fields vs.toArray) (h0 : vs[0]? = some (.ref t)) (h1 : vs[1]? = some .none) (hl : as[l]? = some t) (hcl : cs[l]? = some (tpO args))
  (h : ∀ s',Thrown base outer h₀ oe.cls args e s s'->Q () s') : WP w (A.deeper env) (leaving env (.ref e)) Q E s:=by
 have he:=R.cell j e _ hj hcj
 have nb:=fun {a : Addr} (ha : a ∈ as)=>R.none_base O.kb ha
 have hkb : base.StaysIn s.heap:=fun b o q=>R.keep b o (O.kb b o q)
 have hl' : s.heap.FunFrames base (env :: outer):=⟨hk,⟨L,fr,hf,nb (List.mem_of_getElem? hi),R.cell i L _ hi hci,hnf⟩,O.ff.of_keeps fun b o q _=>⟨o,R.keep b o q,rfl⟩⟩
 refine wpAny_leaving_firstW (a0:=.ref t) (Around.frames_deeper O.fr) hl' hf he hkb (nb (List.mem_of_getElem? hj)) hd (by simpa using h1) (by simpa using h0) ?_
 rintro h' ⟨k1,⟨_,_,k2⟩,k3,k4⟩
 refine h _ ⟨t,⟨k1,nb (List.mem_of_getElem? hj),k2,k3⟩,?_,nb (List.mem_of_getElem? hl),(Heap.UpToSlots.of_keeps R.keep).trans k4,⟨rfl,rfl,rfl⟩⟩
 exact Heap.TupAt.of_slots ⟨_,0,R.cell l t _ hl hcl,rfl,rfl⟩ k4
theorem throw_next {env : Env} {L e : Addr} {outer : List Env} {base h₀ : Heap} {cls : Value} {args : List Value} {s s' : Shared} {Q : Unit->Shared->Prop} {E : Value->Shared->Prop}
  (hfr : A.frames = some outer) (hf : env.frame = some L) (T : Thrown base (env :: outer) h₀ cls args e s s') (h : ∀ s'',Thrown base outer h₀ cls args e s s''->Q () s'') : WP w (A.deeper env) (leaving env (.ref e)) Q E s':=by
 obtain ⟨t,f1,f2,f3,f4,f5⟩:=T
 refine wpAny_leaves_onW (Around.frames_deeper hfr) hf f1 fun h' k1 k2=>?_
 exact h _ ⟨t,k1,f2.of_slots k2,f3,f4.trans k2,f5.trans ⟨rfl,rfl,rfl⟩⟩
theorem Thrown.mono {base h₀ h₁ : Heap} {outer : List Env} {cls : Value} {args : List Value} {e : Addr} {s s₁ s' : Shared} (T : Thrown base outer h₁ cls args e s₁ s') (k : h₀.UpToSlots h₁) (S : Same s s₁) : Thrown base outer h₀ cls args e s s' :=
 let ⟨t,f1,f2,f3,f4,f5⟩:=T; ⟨t,f1,f2,f3,k.trans f4,S.trans f5⟩
theorem Outer.inner {A A' : Around} {env : Env} {L : Addr} {outer : List Env} {base h₀ h : Heap} {as la : List Addr} (i : Nat) {fr : Obj} (O : Outer A outer base h₀) (R : Rep h₀ (as ++ la) cs h) (hk : env.scope.kind ≠ .module) (hf : env.frame = some L)
  (hi : la[i]? = some L) (hci : (cs.drop as.length)[i]? = some fr) (hnf : ∀ vs,fr.data ≠ .fields vs) (hA : A'.frames = some (env :: outer)) : Outer A' (env :: outer) base (hideAll h as):=by
 have out : ∀ b o,h₀.get? b = some o->(hideAll h as).get? b = some o:=fun b o q=>hideAll_get _ (R.keep b o q) fun hb=>by
  rw [R.fresh b (List.mem_append.mpr (.inl hb))] at q; cases q
 refine ⟨hA,⟨hk,⟨L,fr,hf,R.none_base O.kb (List.mem_append.mpr (.inr (List.mem_of_getElem? hi))),?_,hnf⟩,O.ff.of_keeps fun b o q _=>⟨o,out b o q,rfl⟩⟩,fun b o q=>out b o (O.kb b o q)⟩
 refine hideAll_get _ (R.cell (as.length + i) L fr ?_ ?_) ?_
 ·rw [List.getElem?_append_right (by omega),Nat.add_sub_cancel_left]; exact hi
 ·rw [List.getElem?_drop] at hci; exact hci
 ·intro hb
  exact (List.nodup_append.mp R.nd).2.2 L hb L (List.mem_of_getElem? hi) rfl
theorem Rep.out {h₀ h : Heap} {as la : List Addr} (R : Rep h₀ (as ++ la) cs h) : ∀ b o,h₀.get? b = some o->(hideAll h as).get? b = some o:=fun b o q=>hideAll_get _ (R.keep b o q) fun hb=>by
 rw [R.fresh b (List.mem_append.mpr (.inl hb))] at q; cases q
variable {w : World} {A : Around} {s : Shared} {R : Result->Shared->Prop} {E : Value->Shared->Prop}
theorem wp_app_at {M : Model} {Γ : Ctx} {env : Env} {l2 : List Stmt} {E : Value->Pos->Shared->Prop} : ∀ {l1 : List Stmt} {Q : Flow->Pos->Shared->Prop} {p : Pos} {s : Shared},
  Sem.wp M Γ (execs l1 env) (fun f p' s'=>Sem.wp M Γ (match f with | .next=>execs l2 env | f=>pure f) Q E p' s') E p s->Sem.wp M Γ (execs (l1 ++ l2) env) Q E p s
 | [],Q,p,s,h=>h
 | st :: l1,Q,p,s,h=>by
  rw [List.cons_append,execs_cons,Sem.wp_bind']
  rw [execs_cons,Sem.wp_bind'] at h
  refine Sem.wp_mono _ Γ _ (fun f p' s' h'=>?_) (fun _ _ _ h'=>h') _ _ h
  cases f with
  | next=>exact wp_app_at h'
  | _=>exact h'
theorem wp_app {env : Env} {l1 l2 : List Stmt} {Q : Flow->Shared->Prop} {s : Shared}
  (h : WP w A (execs l1 env) (fun f s'=>match f with | .next=>WP w A (execs l2 env) Q E s' | f=>Q f s') E s) : WP w A (execs (l1 ++ l2) env) Q E s:=fun Γ p hΓ=>by
 refine wp_app_at (Sem.wp_mono _ Γ _ (fun f p' s' h'=>?_) (fun _ _ _ h'=>h') _ _ (h Γ p hΓ))
 cases f with
 | next=>exact h' Γ p' hΓ
 | _=>exact h'
noncomputable def AS7 (k : Bool) (a : AD) : List Addr:=match k with
 | true=>[a.lx,a.ld,a.si,a.sd,a.d1,a.d2,a.d3]
 | false=>[a.lx,a.ld,a.si,a.sd,a.d1,a.d2]
noncomputable def CS7 (k : Bool) (P : Params) (u : Nat->Tok) (a : AD) (x : LX) (n : Int) (pb : List Value) : List Obj:=match k with
 | true=>[lxO a,lxDict P u a true x,siO a,siDict P u x,dqO 0 [],dqO 0 [],dqO n pb]
 | false=>[lxO a,lxDict P u a false x,siO a,siDict P u x,dqO 0 [],dqO 0 []]
noncomputable def sPos : Stmt->Pos
 | .While _ _ _ p=>p
 | .For _ _ _ _ p=>p
 | _=>default
section
variable (P : Params) (u : Nat->Tok) (a : AD) (x : LX) (od : Obj) (k : Nat->Tok) (t1 t2 t3 : Tok)
theorem rt_while : sNth body697 2 = .While (sTest (sNth body697 2)) rtB (sElse (sNth body697 2)) (sPos (sNth body697 2)):=by kernel_rfl!
theorem kd697 (L : Addr) : (env697 L).scope.kind ≠ .module:=by
 have h : (env697 L).scope.kind = .function:=by kernel_rfl!
 rw [h]; nofun
noncomputable def uM (u : Nat->Tok) (a b c : Tok) : Nat->Tok:=fun n=>match n with
 | 0=>a
 | 1=>b
 | 2=>c
 | n=>u n
theorem sameUM (u : 'f') (a b c : Tok) : SameU u (uM u a b c):=fun P a k x y=>⟨by kernel_rfl!,by kernel_rfl!⟩
theorem rt_fr1 : sn (sn (rt1_fr P u a x od k) (en P a426 t1 (.bool false))) (zE P a427 t2 s!" " t3) = rt3 P (uM u (k 0) t1 t2) a false s!" " t3:=by kernel_rfl!
theorem rt_fr0 : sn (sn (rt0_fr P u a x k) (en P a426 t1 (.bool false))) (zE P a427 t2 s!" " t3) = rt3 P (uM u (k 0) t1 t2) a false s!" " t3:=by kernel_rfl!
inductive TK where
 | err (b : Bool)
 | eof (st : St) (rest : List Nat)
 | tok (t : List Nat) (st : St) (rest : List Nat)
noncomputable def rtk (k : Bool) (st : St) (inp : List Nat) : TK:=match rtok k (inp.length + 1) st [] false inp with
 | .err b=>.err b
 | .brk st2 tok2 q2 rest=>match q2,tok2 with
  | false,[]=>.eof st2 rest
  | _,t=>.tok t st2 rest
structure LexAt (k : Bool) (P : Params) (u : Nat->Tok) (a : AD) (wc : Str) (st : St) (inp : List Nat) (cs : List Obj) : Prop where
 all : ∃ x n pb post sT,inp = inpOf pb post ∧ AtP x post ∧ x.wc = wc ∧ x.st = stV st sT ∧ x.tok = ⟨⟨[]⟩⟩ ∧ (k = false->pb = none) ∧ cs = CS7 k P u a x n (pbV pb)
noncomputable def StOk (st : St) : Prop:=st = .sp ∨ st = .nul
theorem rtk_code (k : Bool) (a : AD) (u : 'f') (wc : Str) (st : St) (inp : List Nat) (cs : List Obj) (hs : StOk st) (hal : ∀ c ∈ inp,c ∈ alpha) (hlen : inp.length ≤ 400) (hwc : wc.cps.toList = wcs k) (hL : LexAt k w.params u a wc st inp cs)
  {base h₀ : Heap} {outer : List Env} (hd : A.depth + 7 < recursionLimit) (hh : 'g') (X : 'r') (O : Outer A outer base h₀) (Rp : Rep h₀ (AS7 k a) cs s.heap)
  (hT : ∀ t st2 rest,rtk k st inp = .tok t st2 rest->∀ cs2 zT s',LexAt k w.params u a wc st2 rest cs2->Rep h₀ (AS7 k a) cs2 s'.heap->Same s s'->R (.ok (.ret (.str ⟨⟨t⟩⟩ zT))) s')
  (hN : ∀ st2 rest,rtk k st inp = .eof st2 rest->∀ cs2 s',LexAt k w.params u a wc st2 rest cs2->Rep h₀ (AS7 k a) cs2 s'.heap->Same s s'->R 'm' s')
  (hE : ∀ b,rtk k st inp = .err b->∀ e m s',Thrown base outer h₀ (.type "ValueError") [.str (msgOf b) m] e s s'->R (.error (.ref e)) s') :
  CA w A (.call (.ref 697) ⟨[.ref a.lx],[]⟩) R s:=by
 obtain ⟨x,n,pb,post,sT,rfl,hp,hxw,hst,htok,hpb,rfl⟩:=hL
 have hinv : Inv st [] false:=by rcases hs with rfl | rfl <;> simp [Inv]
 have hc : k = false->st ≠ .c:=fun _=>by rcases hs with rfl | rfl <;> simp
 have hx : x = xS x st sT []:=xS_eq hst htok
 have eb : body697 = body697.take 2 ++ (sNth body697 2 :: body697.drop 3):=by kernel_rfl!
 -- the frame and its first names
 have go : ∀ (L : Addr) (u1 : Nat->Tok) (eT : Tok) (s1 : Shared),SameU u u1->Same s s1->Rep h₀ (ASr k a L) (CSr k w.params u1 a x n (pbV pb) (rt3 w.params u1 a false ⟨⟨[nat_lit 32]⟩⟩ eT)) s1.heap →
   WP w (A.deeper (env697 L)) (execs (sNth body697 2 :: body697.drop 3) (env697 L)) (fun fl s''=>R (.ok (.ret (retV fl))) s'')
   (fun e s''=>WP w (A.deeper (env697 L)) (leaving (env697 L) e) (fun _ s3=>R (.error e) s3) (fun e' s3=>R (.error e') s3) s'') s1:=by
  intro L u1 eT s1 hU S1 R1
  have hd1 : (A.deeper (env697 L)).depth + 5 < recursionLimit:=by show A.depth + 1 + 5 < _; omega
  rw [hx] at R1
  refine wpAny_execs_cons ?_
  rw [rt_while]
  refine wpAny_While (rloop (out:=rtok k ((inpOf pb post).length + 1) st [] false (inpOf pb post)) hwc hd1 hh X ?_ ?_ ((inpOf pb post).length + 1) s1 ⟨u1,x,st,sT,[],false,⟨⟨[nat_lit 32]⟩⟩,eT,none,n,pb,post,by omega,rfl,hinv,hc,hpb,hal,hp,by simp; omega,hxw,by rcases hs with rfl | rfl <;> trivial,SameU.refl u1,R1,Same.refl s1⟩)
  ·intro st2 tok2 q2 rest hout u2 x2 dn2 pb2 post2 es2 eT2 nx nT s2 hU2 hr hp2 hw2 hst2 htok2 hpb2 R2 S2
   have hUU:=hU.trans hU2
   have fin : ∀ (t : Tok) (s3 : Shared),Rep h₀ (AS7 k a) (CS7 k w.params u2 a { x2 with tok:=⟨⟨[]⟩⟩,tokT:=t } dn2 (pbV pb2)) s3.heap->∃ cs2,LexAt k w.params u a wc st2 rest cs2 ∧ Rep h₀ (AS7 k a) cs2 s3.heap:=by
    intro t s3 R3
    obtain ⟨T,hTT⟩:=hst2
    refine ⟨_,⟨{ x2 with tok:=⟨⟨[]⟩⟩,tokT:=t },dn2,pb2,post2,T,hr,hp2,hw2,hTT,rfl,hpb2,rfl⟩,?_⟩
    have e1:=hUU w.params a k { x2 with tok:=⟨⟨[]⟩⟩,tokT:=t } { x2 with tok:=⟨⟨[]⟩⟩,tokT:=t }
    cases k with
    | true =>
     simp only [CS7] at R3 ⊢
     rw [e1.1,e1.2] at R3
     exact R3
    | false =>
     simp only [CS7] at R3 ⊢
     rw [e1.1,e1.2] at R3
     exact R3
   dsimp only
   rw [tw_execs]
   cases q2 with
   | true =>
    cases k with
    | true =>
     refine (rq1_q w.params u2 a x2 (dqO dn2 (pbV pb2)) L es2 eT2 nx nT).sound X R2 hh 'a' (fun ad tk=>all_nil) ?_
     intro ad tk s3 R3 S3
     simp only [lx_tok] at R3
     obtain ⟨cs2,hL2,R4⟩:=fin (tk 2) s3 (R3.pick [0,1,2,3,4,5,6] (by decide) (by simp))
     show R (.ok (.ret (.str x2.tok x2.tokT))) s3
     rw [htok2]
     exact hT _ st2 rest (by simp only [rtk,hout]) cs2 _ s3 hL2 R4 ((S1.trans S2).trans S3)
    | false =>
     refine (rq0_q w.params u2 a x2 L es2 eT2 nx nT).sound X R2 hh 'a' (fun ad tk=>all_nil) ?_
     intro ad tk s3 R3 S3
     simp only [lx_tok] at R3
     obtain ⟨cs2,hL2,R4⟩:=fin (tk 2) s3 (R3.pick [0,1,2,3,4,5] (by decide) (by simp))
     show R (.ok (.ret (.str x2.tok x2.tokT))) s3
     rw [htok2]
     exact hT _ st2 rest (by simp only [rtk,hout]) cs2 _ s3 hL2 R4 ((S1.trans S2).trans S3)
   | false =>
    cases tok2 with
    | nil =>
     cases k with
     | true =>
      refine (rq1_n w.params u2 a x2 (dqO dn2 (pbV pb2)) L es2 eT2 nx nT).sound X R2 hh (fun _ _=>rfl) (fun ad tk=>(all_cons (fun _ _=>con_eq true (by rw [htok2]; rfl)) all_nil)) ?_
      intro ad tk s3 R3 S3
      simp only [lx_tok] at R3
      obtain ⟨cs2,hL2,R4⟩:=fin (tk 2) s3 (R3.pick [0,1,2,3,4,5,6] (by decide) (by simp))
      exact hN st2 rest (by simp only [rtk,hout]) cs2 s3 hL2 R4 ((S1.trans S2).trans S3)
     | false =>
      refine (rq0_n w.params u2 a x2 L es2 eT2 nx nT).sound X R2 hh (fun _ _=>rfl) (fun ad tk=>(all_cons (fun _ _=>con_eq true (by rw [htok2]; rfl)) all_nil)) ?_
      intro ad tk s3 R3 S3
      simp only [lx_tok] at R3
      obtain ⟨cs2,hL2,R4⟩:=fin (tk 2) s3 (R3.pick [0,1,2,3,4,5] (by decide) (by simp))
      exact hN st2 rest (by simp only [rtk,hout]) cs2 s3 hL2 R4 ((S1.trans S2).trans S3)
    | cons e l =>
     cases k with
     | true =>
      refine (rq1_t w.params u2 a x2 (dqO dn2 (pbV pb2)) L es2 eT2 nx nT).sound X R2 hh (fun _ _=>rfl) (fun ad tk=>(all_cons (fun _ _=>con_eq false (by rw [htok2]; rfl)) all_nil)) ?_
      intro ad tk s3 R3 S3
      simp only [lx_tok] at R3
      obtain ⟨cs2,hL2,R4⟩:=fin (tk 2) s3 (R3.pick [0,1,2,3,4,5,6] (by decide) (by simp))
      show R (.ok (.ret (.str x2.tok x2.tokT))) s3
      rw [htok2]
      exact hT _ st2 rest (by simp only [rtk,hout]) cs2 _ s3 hL2 R4 ((S1.trans S2).trans S3)
     | false =>
      refine (rq0_t w.params u2 a x2 L es2 eT2 nx nT).sound X R2 hh (fun _ _=>rfl) (fun ad tk=>(all_cons (fun _ _=>con_eq false (by rw [htok2]; rfl)) all_nil)) ?_
      intro ad tk s3 R3 S3
      simp only [lx_tok] at R3
      obtain ⟨cs2,hL2,R4⟩:=fin (tk 2) s3 (R3.pick [0,1,2,3,4,5] (by decide) (by simp))
      show R (.ok (.ret (.str x2.tok x2.tokT))) s3
      rw [htok2]
      exact hT _ st2 rest (by simp only [rtk,hout]) cs2 _ s3 hL2 R4 ((S1.trans S2).trans S3)
  ·intro b hout u2 x2 dn2 fr e t m s2 hU2 R2 S2 hfr
   refine PassesOwn.leaving (.ref e) s2 ?_
   have fin : ∀ s3,Thrown base outer h₀ (.type "ValueError") [.str (msgOf b) m] e s2 s3->R (.error (.ref e)) s3:=fun s3 T3=>hE b (by simp only [rtk,hout]) e m s3 (T3.mono (Heap.UpToSlots.refl _) (S1.trans S2))
   cases k with
   | true=>exact throw_first 7 8 9 (oe:=excO t) (vs:=[.ref t,.none,.none,.none,.bool false,.none]) O (kd697 L) rfl R2 rfl rfl hfr rfl rfl rfl rfl rfl rfl rfl fin
   | false=>exact throw_first 6 7 8 (oe:=excO t) (vs:=[.ref t,.none,.none,.none,.bool false,.none]) O (kd697 L) rfl R2 rfl rfl hfr rfl rfl rfl rfl rfl rfl rfl fin
 cases k with
 | true =>
  refine rt1_call u a x (dqO n (pbV pb)) (Nat.lt_of_le_of_lt (by omega) hd) hh X Rp ?_
  intro L tk s1 R1 S1
  rw [eb]
  refine wp_app ?_
  rw [tw_execs]
  refine (rp1 w.params u a x (dqO n (pbV pb)) L tk).sound X R1 hh 'a' (fun ad tk=>all_nil) ?_
  intro ad tk2 s2 R2 S2
  simp only [rt_fr1] at R2
  have hU:=sameUM u (tk 0) (tk2 0) (tk2 2)
  rw [← (hU w.params a true x x).1,← (hU w.params a true x x).2] at R2
  exact go L _ _ s2 hU (S1.trans S2) R2
 | false =>
  refine rt0_call u a x (Nat.lt_of_le_of_lt (by omega) hd) hh X Rp ?_
  intro L tk s1 R1 S1
  rw [eb]
  refine wp_app ?_
  rw [tw_execs]
  refine (rp0 w.params u a x L tk).sound X R1 hh 'a' (fun ad tk=>all_nil) ?_
  intro ad tk2 s2 R2 S2
  simp only [rt_fr0] at R2
  have hU:=sameUM u (tk 0) (tk2 0) (tk2 2)
  rw [← (hU w.params a false x x).1,← (hU w.params a false x x).2] at R2
  exact go L _ _ s2 hU (S1.trans S2) R2
end
end
section
open PySem PySem.W PySem.W.X PyProof.Rows
variable {w : World}
section
variable (t : Addr) (P : Params) (u : Nat->Tok) (a : AD) (x : LX) (od : Obj) (L : Addr) (k : Nat->Tok) (ad : Nat->Addr) (tk : Nat->Tok) (y : LX) (od2 : Obj) (z : Str) (zT : Tok) (e : Addr) (ad0 : Nat->Addr) (tk0 : Nat->Tok)
noncomputable def stpO : Obj:=⟨.type SL.s5991306692159431302x13,none,.fields ⟨(y76 t)⟩,⟨[]⟩⟩
noncomputable def xSN : Ext:=⟨2,fun g _=>.ok (.ret (.ref (g 0))),fun _ _ l=>l,fun g _=>[stpO (g 1),tpO []],false⟩
theorem gt1_b : Lf P (Tf P) (y53 a) [lxO a,lxDict P u a true x,siO a,siDict P u x,dqO 0 [],dqO 0 [],od] [] (zBA fd690 ⟨[.ref a.lx],[]⟩) 0 zve (fun ad tk=>[(lxO a),(lxDict P u a true x),(siO a),'i','b','b',(od)]) (fun ad tk=>(.val [(a294,(.ref a.lx))])):=.mk' 3 0 (by kernel_rfl)
theorem gt1_e : Lf P (Tf P) (y53 a) [lxO a,lxDict P u a true x,siO a,siDict P u x,dqO 0 [],dqO 0 [],od] [] (zNE fd690 690 [(a294,(.ref a.lx))]) 1 zve (fun ad tk=>[(lxO a),(lxDict P u a true x),(siO a),'i','b','b',(od),(zD zt98 (y55 P tk a) 1)]) (fun ad tk=>(.val (env690 (ad 0)))):=.mk' 8 2056 (by kernel_rfl)
noncomputable def gt1_fr (P : Params) (u : Nat->Tok) (a : AD) (x : LX) (od : Obj) (tk : Nat->Tok) : Obj:=(zD zt98 (y55 P tk a) 1)
theorem gt1_call (u : 'f') (a : AD) (x : LX) (od : Obj) : CallT w [a.lx,a.ld,a.si,a.sd,a.d1,a.d2,a.d3] [lxO a,lxDict w.params u a true x,siO a,siDict w.params u x,dqO 0 [],dqO 0 [],od] (gt1_fr w.params u a x od) env690 body690 690 ⟨[.ref a.lx],[]⟩:=callT _ _ (top690 w.params) rfl rfl co690 ge690 rfl (cr690 w.params) (gt1_b w.params u a x od) (gt1_e w.params u a x od)
noncomputable def gtA1_q : Option (RR Flow):=run denF ⟨pw,P⟩ (Tf P) (y2 a L) ad tk 59 (zd 999 0x1d0241313101081515150505120131410108) [] [lxO a,lxDict P u a true x,siO a,siDict P u x,dqO 0 [],dqO 0 [],od,gt1_fr P u a x od k] 0 0 none (.base (zEX body690 (env690 L)))
theorem gtA1 : Lf P (Tf P) (y2 a L) [lxO a,lxDict P u a true x,siO a,siDict P u x,dqO 0 [],dqO 0 [],od,gt1_fr P u a x od k] [] (zEX body690 (env690 L)) 0 zve (fun ad tk=>[(lxO a),(lxDict P u a true x),(siO a),'i','b','b',(od),(gt1_fr P u a x od k)]) (fun ad tk=>(.cut (zR 697 [(.ref a.lx)]) 0 none (ttOf (gtA1_q P u a x od L k ad tk)))):=.mk' 59 (zd 999 0x1d0241313101081515150505120131410108) (by kernel_rfl)
theorem gtB1 : LfT P (Tf P) (y2 a L) [lxO a,lxDict P u a true y,siO a,siDict P u y,dqO 0 [],dqO 0 [],od2,gt1_fr P u a x od k] [] (ttOf (gtA1_q P u a x od L k ad0 tk0) (.ok (.ret (.str z zT)))) 0 zve (fun ad tk=>[(lxO a),(lxDict P u a true y),(siO a),(siDict P u y),'b','b',(od2),(sn (gt1_fr P u a x od k) (zE P a423 (tk 0) z zT))]) (fun ad tk=>(.val (.ret (.str z zT)))):=by revert P; refine LfT.rw1 96 (zd 999 0x28120131410148120131410108181201314101080808) ?_ ?_ <;> kernel_rfl
theorem gtC1 : LfT P (Tf P) (y2 a L) [lxO a,lxDict P u a true y,siO a,siDict P u y,dqO 0 [],dqO 0 [],od2,gt1_fr P u a x od k] [] (ttOf (gtA1_q P u a x od L k ad0 tk0) 'm') 0 zve (fun ad tk=>[(lxO a),(lxDict P u a true y),(siO a),(siDict P u y),'b','b',(od2),(sn (gt1_fr P u a x od k) (en P a423 (tk 0) .none))]) (fun ad tk=>(.val (.ret .none))):=by revert P; refine LfT.rw1 115 (zd 999 0x1201314101081616160606120131410128120131410108181201314101080808) ?_ ?_ <;> kernel_rfl
theorem gtD1 : LfT P (Tf P) [] [] [] (ttOf (gtA1_q P u a x od L k ad0 tk0) (.error (.ref e))) 0 zve (fun ad tk=>[]) (fun ad tk=>(.exc (.ref e))):=.mk' 3 0 (by kernel_rfl)
theorem nx1_b : Lf P (Tf P) (y53 a) [lxO a,lxDict P u a true x,siO a,siDict P u x,dqO 0 [],dqO 0 [],od] [] (zBA fd726 ⟨[.ref a.lx],[]⟩) 0 zve (fun ad tk=>[(lxO a),(lxDict P u a true x),(siO a),'i','b','b',(od)]) (fun ad tk=>(.val [(a294,(.ref a.lx))])):=.mk' 3 0 (by kernel_rfl)
theorem nx1_e : Lf P (Tf P) (y53 a) [lxO a,lxDict P u a true x,siO a,siDict P u x,dqO 0 [],dqO 0 [],od] [] (zNE fd726 726 [(a294,(.ref a.lx))]) 1 zve (fun ad tk=>[(lxO a),(lxDict P u a true x),(siO a),'i','b','b',(od),(zD zt98 (y55 P tk a) 1)]) (fun ad tk=>(.val (env726 (ad 0)))):=.mk' 8 2056 (by kernel_rfl)
noncomputable def nx1_fr (P : Params) (u : Nat->Tok) (a : AD) (x : LX) (od : Obj) (tk : Nat->Tok) : Obj:=(zD zt98 (y55 P tk a) 1)
theorem nx1_call (u : 'f') (a : AD) (x : LX) (od : Obj) : CallT w [a.lx,a.ld,a.si,a.sd,a.d1,a.d2,a.d3] [lxO a,lxDict w.params u a true x,siO a,siDict w.params u x,dqO 0 [],dqO 0 [],od] (nx1_fr w.params u a x od) env726 body726 726 ⟨[.ref a.lx],[]⟩:=callT _ _ (top726 w.params) rfl rfl co726 ge726 rfl (cr726 w.params) (nx1_b w.params u a x od) (nx1_e w.params u a x od)
noncomputable def nxA1_q : Option (RR Flow):=run denF ⟨pw,P⟩ (Tf P) (y2 a L) ad tk 25 22039411004383630829967142376769349566333192 [] [lxO a,lxDict P u a true x,siO a,siDict P u x,dqO 0 [],dqO 0 [],od,nx1_fr P u a x od k] 0 0 none (.base (zEX body726 (env726 L)))
theorem nxA1 : Lf P (Tf P) (y2 a L) [lxO a,lxDict P u a true x,siO a,siDict P u x,dqO 0 [],dqO 0 [],od,nx1_fr P u a x od k] [] (zEX body726 (env726 L)) 0 zve (fun ad tk=>[(lxO a),(lxDict P u a true x),(siO a),'i','b','b',(od),(nx1_fr P u a x od k)]) (fun ad tk=>(.cut (zR 690 [(.ref a.lx)]) 0 none (ttOf (nxA1_q P u a x od L k ad tk)))):=.mk' 25 22039411004383630829967142376769349566333192 (by kernel_rfl)
theorem nxB1 : LfT P (Tf P) (y2 a L) [lxO a,lxDict P u a true y,siO a,siDict P u y,dqO 0 [],dqO 0 [],od2,nx1_fr P u a x od k] [] (ttOf (nxA1_q P u a x od L k ad0 tk0) (.ok (.ret (.str z zT)))) 0 zve (fun ad tk=>[(lxO a),(lxDict P u a true y),(siO a),(siDict P u y),'b','b',(od2),(sn (nx1_fr P u a x od k) (zE P a435 (tk 0) z zT))]) (fun ad tk=>(.val (.ret (.str z zT)))):=by revert P; refine LfT.rw1 47 (zd 999 0x48120131410108080808) ?_ ?_ <;> kernel_rfl
theorem nxC1 : LfT P (Tf P) (y2 a L) [lxO a,lxDict P u a true y,siO a,siDict P u y,dqO 0 [],dqO 0 [],od2,nx1_fr P u a x od k] [xSN] (ttOf (nxA1_q P u a x od L k ad0 tk0) 'm') 3 (fun ad tk=>[⟨(.builtin "Exception.__new__" ⟨[zt45],[]⟩),0,[(lxO a),(lxDict P u a true y),(siO a),(siDict P u y),'b','b',(od2),(sn (nx1_fr P u a x od k) (en P a435 (tk 0) .none))],0,1,xSN⟩]) (fun ad tk=>[(lxO a),(lxDict P u a true y),(siO a),(siDict P u y),'b','b',(od2),(sn (nx1_fr P u a x od k) (en P a435 (tk 0) .none)),(zF zt45 [(.ref (ad 2)),.none,.none,.none,(.bool false),.none]),(zW zt23),(zW zt23)]) (fun ad tk=>(.exc (.ref (ad 0)))):=by revert P; refine LfT.rw1 75 (zd 999 0x3909090909090909090929091909097f120131410108080808) ?_ ?_ <;> kernel_rfl
theorem nxD1 : LfT P (Tf P) [] [] [] (ttOf (nxA1_q P u a x od L k ad0 tk0) (.error (.ref e))) 0 zve (fun ad tk=>[]) (fun ad tk=>(.exc (.ref e))):=.mk' 3 0 (by kernel_rfl)
theorem gt0_b : Lf P (Tf P) (y58 a) [lxO a,lxDict P u a false x,siO a,siDict P u x,dqO 0 [],dqO 0 []] [] (zBA fd690 ⟨[.ref a.lx],[]⟩) 0 zve (fun ad tk=>[(lxO a),(lxDict P u a false x),(siO a),'i','b','b']) (fun ad tk=>(.val [(a294,(.ref a.lx))])):=.mk' 3 0 (by kernel_rfl)
theorem gt0_e : Lf P (Tf P) (y58 a) [lxO a,lxDict P u a false x,siO a,siDict P u x,dqO 0 [],dqO 0 []] [] (zNE fd690 690 [(a294,(.ref a.lx))]) 1 zve (fun ad tk=>[(lxO a),(lxDict P u a false x),(siO a),'i','b','b',(zD zt98 (y55 P tk a) 1)]) (fun ad tk=>(.val (env690 (ad 0)))):=.mk' 8 1799 (by kernel_rfl)
noncomputable def gt0_fr (P : Params) (u : Nat->Tok) (a : AD) (x : LX) (tk : Nat->Tok) : Obj:=(zD zt98 (y55 P tk a) 1)
theorem gt0_call (u : 'f') (a : AD) (x : LX) : CallT w [a.lx,a.ld,a.si,a.sd,a.d1,a.d2] [lxO a,lxDict w.params u a false x,siO a,siDict w.params u x,dqO 0 [],dqO 0 []] (gt0_fr w.params u a x) env690 body690 690 ⟨[.ref a.lx],[]⟩:=callT _ _ (top690 w.params) rfl rfl co690 ge690 rfl (cr690 w.params) (gt0_b w.params u a x) (gt0_e w.params u a x)
noncomputable def gtA0_q : Option (RR Flow):=run denF ⟨pw,P⟩ (Tf P) (y5 a L) ad tk 59 (zd 999 0x1d0241313101071515150505120131410107) [] [lxO a,lxDict P u a false x,siO a,siDict P u x,dqO 0 [],dqO 0 [],gt0_fr P u a x k] 0 0 none (.base (zEX body690 (env690 L)))
theorem gtA0 : Lf P (Tf P) (y5 a L) [lxO a,lxDict P u a false x,siO a,siDict P u x,dqO 0 [],dqO 0 [],gt0_fr P u a x k] [] (zEX body690 (env690 L)) 0 zve (fun ad tk=>[(lxO a),(lxDict P u a false x),(siO a),'i','b','b',(gt0_fr P u a x k)]) (fun ad tk=>(.cut (zR 697 [(.ref a.lx)]) 0 none (ttOf (gtA0_q P u a x L k ad tk)))):=.mk' 59 (zd 999 0x1d0241313101071515150505120131410107) (by kernel_rfl)
theorem gtB0 : LfT P (Tf P) (y5 a L) [lxO a,lxDict P u a false y,siO a,siDict P u y,dqO 0 [],dqO 0 [],gt0_fr P u a x k] [] (ttOf (gtA0_q P u a x L k ad0 tk0) (.ok (.ret (.str z zT)))) 0 zve (fun ad tk=>[(lxO a),(lxDict P u a false y),(siO a),(siDict P u y),'b','b',(sn (gt0_fr P u a x k) (zE P a423 (tk 0) z zT))]) (fun ad tk=>(.val (.ret (.str z zT)))):=by revert P; refine LfT.rw1 96 (zd 999 0x27120131410147120131410107171201314101070707) ?_ ?_ <;> kernel_rfl
theorem gtC0 : LfT P (Tf P) (y5 a L) [lxO a,lxDict P u a false y,siO a,siDict P u y,dqO 0 [],dqO 0 [],gt0_fr P u a x k] [] (ttOf (gtA0_q P u a x L k ad0 tk0) 'm') 0 zve (fun ad tk=>[(lxO a),(lxDict P u a false y),(siO a),(siDict P u y),'b','b',(sn (gt0_fr P u a x k) (en P a423 (tk 0) .none))]) (fun ad tk=>(.val (.ret .none))):=by revert P; refine LfT.rw1 115 (zd 999 0x1201314101071616160606120131410127120131410107171201314101070707) ?_ ?_ <;> kernel_rfl
theorem gtD0 : LfT P (Tf P) [] [] [] (ttOf (gtA0_q P u a x L k ad0 tk0) (.error (.ref e))) 0 zve (fun ad tk=>[]) (fun ad tk=>(.exc (.ref e))):=.mk' 3 0 (by kernel_rfl)
theorem nx0_b : Lf P (Tf P) (y58 a) [lxO a,lxDict P u a false x,siO a,siDict P u x,dqO 0 [],dqO 0 []] [] (zBA fd726 ⟨[.ref a.lx],[]⟩) 0 zve (fun ad tk=>[(lxO a),(lxDict P u a false x),(siO a),'i','b','b']) (fun ad tk=>(.val [(a294,(.ref a.lx))])):=.mk' 3 0 (by kernel_rfl)
theorem nx0_e : Lf P (Tf P) (y58 a) [lxO a,lxDict P u a false x,siO a,siDict P u x,dqO 0 [],dqO 0 []] [] (zNE fd726 726 [(a294,(.ref a.lx))]) 1 zve (fun ad tk=>[(lxO a),(lxDict P u a false x),(siO a),'i','b','b',(zD zt98 (y55 P tk a) 1)]) (fun ad tk=>(.val (env726 (ad 0)))):=.mk' 8 1799 (by kernel_rfl)
noncomputable def nx0_fr (P : Params) (u : Nat->Tok) (a : AD) (x : LX) (tk : Nat->Tok) : Obj:=(zD zt98 (y55 P tk a) 1)
theorem nx0_call (u : 'f') (a : AD) (x : LX) : CallT w [a.lx,a.ld,a.si,a.sd,a.d1,a.d2] [lxO a,lxDict w.params u a false x,siO a,siDict w.params u x,dqO 0 [],dqO 0 []] (nx0_fr w.params u a x) env726 body726 726 ⟨[.ref a.lx],[]⟩:=callT _ _ (top726 w.params) rfl rfl co726 ge726 rfl (cr726 w.params) (nx0_b w.params u a x) (nx0_e w.params u a x)
noncomputable def nxA0_q : Option (RR Flow):=run denF ⟨pw,P⟩ (Tf P) (y5 a L) ad tk 25 22039411004383630829967142376769349566333191 [] [lxO a,lxDict P u a false x,siO a,siDict P u x,dqO 0 [],dqO 0 [],nx0_fr P u a x k] 0 0 none (.base (zEX body726 (env726 L)))
theorem nxA0 : Lf P (Tf P) (y5 a L) [lxO a,lxDict P u a false x,siO a,siDict P u x,dqO 0 [],dqO 0 [],nx0_fr P u a x k] [] (zEX body726 (env726 L)) 0 zve (fun ad tk=>[(lxO a),(lxDict P u a false x),(siO a),'i','b','b',(nx0_fr P u a x k)]) (fun ad tk=>(.cut (zR 690 [(.ref a.lx)]) 0 none (ttOf (nxA0_q P u a x L k ad tk)))):=.mk' 25 22039411004383630829967142376769349566333191 (by kernel_rfl)
theorem nxB0 : LfT P (Tf P) (y5 a L) [lxO a,lxDict P u a false y,siO a,siDict P u y,dqO 0 [],dqO 0 [],nx0_fr P u a x k] [] (ttOf (nxA0_q P u a x L k ad0 tk0) (.ok (.ret (.str z zT)))) 0 zve (fun ad tk=>[(lxO a),(lxDict P u a false y),(siO a),(siDict P u y),'b','b',(sn (nx0_fr P u a x k) (zE P a435 (tk 0) z zT))]) (fun ad tk=>(.val (.ret (.str z zT)))):=by revert P; refine LfT.rw1 47 (zd 999 0x47120131410107070707) ?_ ?_ <;> kernel_rfl
theorem nxC0 : LfT P (Tf P) (y5 a L) [lxO a,lxDict P u a false y,siO a,siDict P u y,dqO 0 [],dqO 0 [],nx0_fr P u a x k] [xSN] (ttOf (nxA0_q P u a x L k ad0 tk0) 'm') 3 (fun ad tk=>[⟨(.builtin "Exception.__new__" ⟨[zt45],[]⟩),0,[(lxO a),(lxDict P u a false y),(siO a),(siDict P u y),'b','b',(sn (nx0_fr P u a x k) (en P a435 (tk 0) .none))],0,1,xSN⟩]) (fun ad tk=>[(lxO a),(lxDict P u a false y),(siO a),(siDict P u y),'b','b',(sn (nx0_fr P u a x k) (en P a435 (tk 0) .none)),(zF zt45 [(.ref (ad 2)),.none,.none,.none,(.bool false),.none]),(zW zt23),(zW zt23)]) (fun ad tk=>(.exc (.ref (ad 0)))):=by revert P; refine LfT.rw1 75 (zd 999 0x3808080808080808080828081808087f120131410107070707) ?_ ?_ <;> kernel_rfl
theorem nxD0 : LfT P (Tf P) [] [] [] (ttOf (nxA0_q P u a x L k ad0 tk0) (.error (.ref e))) 0 zve (fun ad tk=>[]) (fun ad tk=>(.exc (.ref e))):=.mk' 3 0 (by kernel_rfl)
end
end
section
open PySem PySem.W PySem.W.X PyProof.Rows PySem.Builtin PySem.Builtin.Str PySem.Builtin.Int
variable {w : World} {A : Around} {s : Shared} {R : Result->Shared->Prop} {as : List Addr} {cs : List Obj} {D U : Nat}
theorem kd690 (L : Addr) : (env690 L).scope.kind ≠ .module:=by
 have h : (env690 L).scope.kind = .function:=by kernel_rfl!
 rw [h]; nofun
theorem kd726 (L : Addr) : (env726 L).scope.kind ≠ .module:=by
 have h : (env726 L).scope.kind = .function:=by kernel_rfl!
 rw [h]; nofun
theorem CS7_len (k : Bool) (a : AD) (P : Params) (u : 'f') (x : LX) (n : Int) (pb : List Value) : (CS7 k P u a x n pb).length = (AS7 k a).length:=by cases k <;> rfl
theorem Rep.back0 {h₀ h h' : Heap} {as la : List Addr} {cs cs' : List Obj} (R : Rep h₀ (as ++ la) cs h) (hc : cs'.length = as.length) (R' : Rep (hideAll h as) as cs' h') : Rep h₀ (as ++ la) (cs' ++ cs.drop as.length) h':=by
 have:=R.back (gs:=[]) (nw:=[]) hc (by simpa using R')
 simpa using this
theorem con_stop : Con w 'c' as (.builtin "Exception.__new__" ⟨[.type "StopIteration"],[]⟩) cs xSN D U:=by
 intro A h₀ s hD hU hh X Rp
 obtain ⟨hp,g,d,tk,os⟩:=s
 have hsub : isSubtype (.type "StopIteration") (.type "Exception") = pure true:=by rw [isSubtype_type]; kernel_rfl
 have hna : isSubtype (.type "StopIteration") (.type "AttributeError") = pure false:=by rw [isSubtype_type]; kernel_rfl
 have hnn : isSubtype (.type "StopIteration") (.type "NameError") = pure false:=by rw [isSubtype_type]; kernel_rfl
 have hmade : Bind.madeHere "BaseException.__new__" (.type "StopIteration") = pure ():=by kernel_rfl
 have hends : ("Exception.__new__".endsWith ".__new__") = true:=by decide +kernel
 have howner : "Exception.__new__".dropRight 8 = "Exception":=by decide +kernel
 refine PySem.codeAny_builtinAt F.excCall_Exception.entry ?_
 unfold Builtin.«BaseException.__new__»
 refine PySem.wpAt_bind ?_
 show PySem.wpAt _ _ _ (stack >>= _) _ _ _
 refine PySem.wpAt_bind (PySem.wpAt_stack fun p below=>PySem.wpAt_of_wpAny ?_)
 wp_walk
 refine PySem.wpAt_of_wpAny ?_
 rw [howner]
 wp_walk
 refine ⟨fun i=>match i with | 0=>hp.objs.size + 1 | _=>hp.objs.size,fun _=>0,by rw [Heap.size_push]; rfl,?_,⟨rfl,rfl,rfl⟩⟩
 have k1 : ∀ b o,hp.get? b = some o->(hp.push { cls:=.type "tuple",data:=.seq #[] }).get? b = some o:=fun b o q=>Heap.get?_push_of_some _ q
 have e1:=Heap.get?_push_size (hp.push { cls:=.type "tuple",data:=.seq #[] }) (o:={ cls:=.type "StopIteration",data:=.fields (#[.ref hp.objs.size,.none,.none,.none,.bool false,.none] ++ (List.replicate 0 (rawInt 0)).toArray) }) rfl
 rw [Heap.size_push] at e1
 exact Rp.two (e:=hp.objs.size + 1) (t:=hp.objs.size) (fun b o q=>Heap.get?_push_of_some _ (k1 b o q)) (Heap.get?_none_of_le (Nat.le_succ _)) (Heap.get?_none_of_le (Nat.le_refl _)) (Nat.succ_ne_self _) e1 (Heap.get?_push_of_some _ (Heap.get?_push_size _ rfl))
theorem Thrown.keeps {base h₀ : Heap} {outer : List Env} {cls : Value} {args : List Value} {e : Addr} {s s₁ s' : Shared} (T : Thrown base outer h₀ cls args e s s₁) (k : ∀ b o,s₁.heap.get? b = some o->s'.heap.get? b = some o) (S : Same s₁ s') : Thrown base outer h₀ cls args e s s':=by
 obtain ⟨t,⟨g1,g2,g3,oe,vs,T,oT,ts,q1,q2,q3,q4,q5,q6,q7,q8,q9⟩,f2,f3,f4,f5⟩:=T
 exact ⟨t,⟨fun b o q=>k b o (g1 b o q),g2,g3.of_keeps fun b o q _=>⟨o,k b o q,rfl⟩,oe,vs,T,oT,ts,k _ _ q1,q2,q3,q4,q5,q6,k _ _ q7,q8,q9⟩,f2.keeps k,f3,f4.trans (Heap.UpToSlots.of_keeps k),f5.trans S⟩
theorem pass_err {env : Env} {L e : Addr} {outer : List Env} {base h₀ h₁ : Heap} {cls : Value} {args : List Value} {s s' : Shared} {x : TT Flow} {Q : Flow->Shared->Prop} {R : Value->Shared->Prop} {R2 : Value->Shared->Prop}
  (hfr : A.frames = some outer) (hf : env.frame = some L) (XB : TopIn 'c' base) (k : h₀.UpToSlots h₁)
  (Lv : LfT w.params 'c' [] [] [] x 0 (fun _ _=>[]) (fun _ _=>[]) (fun _ _=>.exc (.ref e))) (T : Thrown base (env :: outer) h₁ cls args e s s')
  (h : ∀ s'',Thrown base outer h₀ cls args e s s''->R (.ref e) s'') :
  Snd w (A.deeper env) (fun e s''=>WP w (A.deeper env) (leaving env e) (fun _ s3=>R e s3) R2 s'') Q none x s':=by
 have hb : base.StaysIn s'.heap:=by obtain ⟨t,f1,_⟩:=T; exact f1.1
 refine Lv.sound (h₀:=s'.heap) (fun a o e1 e2=>hb a o (XB a o e1 e2)) ⟨rfl,List.nodup_nil,fun m a o h=>by simp at h,fun a h=>by simp at h,fun b o q=>q⟩ (fun _ _=>rfl) (fun _ _=>all_nil) ?_
 intro ad tk s2 R' S2
 exact throw_next hfr hf (T.keeps R'.keep S2) fun s3 T3=>h s3 (T3.mono k (Same.refl _))
theorem gt_code1 (a : AD) (u : 'f') (wc : Str) (st : St) (inp : List Nat) (cs : List Obj) (hs : StOk st) (hal : ∀ c ∈ inp,c ∈ alpha) (hlen : inp.length ≤ 400) (hwc : wc.cps.toList = wcs true) (hL : LexAt true w.params u a wc st inp cs)
  {base h₀ : Heap} {outer : List Env} (hd : A.depth + 9 < recursionLimit) (hh : 'g') (X : 'r') (XB : TopIn 'c' base) (O : Outer A outer base h₀) (Rp : Rep h₀ (AS7 true a) cs s.heap)
  (hT : ∀ t st2 rest,rtk true st inp = .tok t st2 rest->∀ cs2 zT s',LexAt true w.params u a wc st2 rest cs2->Rep h₀ (AS7 true a) cs2 s'.heap->Same s s'->R (.ok (.ret (.str ⟨⟨t⟩⟩ zT))) s')
  (hN : ∀ st2 rest,rtk true st inp = .eof st2 rest->∀ cs2 s',LexAt true w.params u a wc st2 rest cs2->Rep h₀ (AS7 true a) cs2 s'.heap->Same s s'->R 'm' s')
  (hE : ∀ b,rtk true st inp = .err b->∀ e m s',Thrown base outer h₀ (.type "ValueError") [.str (msgOf b) m] e s s'->R (.error (.ref e)) s') :
  CA w A (.call (.ref 690) ⟨[.ref a.lx],[]⟩) R s:=by
 obtain ⟨x,n,pb,post,sT,rfl,hp,hxw,hst,htok,hpb,rfl⟩:=id hL
 refine gt1_call u a x (dqO n (pbV pb)) (Nat.lt_of_le_of_lt (by omega) hd) hh X Rp ?_
 intro L tk s1 R1 S1
 rw [tw_execs]
 refine (gtA1 w.params u a x (dqO n (pbV pb)) L tk).sound X R1 hh 'a' (fun ad tk=>all_nil) ?_
 intro ad2 tk2 s2 R2 S2 A' d1 d2 d3 d4 d5
 have S12:=S1.trans S2
 have R2 : Rep h₀ (AS7 true a ++ [L]) (CS7 true w.params u a x n (pbV pb) ++ [gt1_fr w.params u a x (dqO n (pbV pb)) tk]) s2.heap:=R2
 have O':=O.inner (A':=A') (env:=env690 L) (L:=L) 0 R2 (kd690 L) rfl rfl rfl (by unfold gt1_fr; nofun) (d4.trans (Around.frames_deeper O.fr))
 refine rtk_code true a u wc st (inpOf pb post) _ hs hal hlen hwc hL (by have : A'.depth ≤ A.depth + 1:=d1; omega) d3 (X.hide R2) O' R2.hideRest ?_ ?_ ?_
 ·intro t st2 rest ht cs2 zT s3 hL2 R3 S3
  obtain ⟨y,n2,pb2,post2,sT2,e1,e2,e3,e4,e5,e6,rfl⟩:=id hL2
  refine (gtB1 w.params u a x (dqO n (pbV pb)) L tk y (dqO n2 (pbV pb2)) ⟨⟨t⟩⟩ zT ad2 tk2).sound X (R2.back0 (CS7_len _ _ _ _ _ _ _) R3) 'a' (fun ad tk=>all_nil) ?_
  intro ad3 tk3 s4 R4 S4
  exact hT t st2 rest ht _ zT s4 hL2 (R4.pick [0,1,2,3,4,5,6] (by decide) (by simp)) ((S12.trans S3).trans S4)
 ·intro st2 rest ht cs2 s3 hL2 R3 S3
  obtain ⟨y,n2,pb2,post2,sT2,e1,e2,e3,e4,e5,e6,rfl⟩:=id hL2
  refine (gtC1 w.params u a x (dqO n (pbV pb)) L tk y (dqO n2 (pbV pb2)) ad2 tk2).sound X (R2.back0 (CS7_len _ _ _ _ _ _ _) R3) 'a' (fun ad tk=>all_nil) ?_
  intro ad3 tk3 s4 R4 S4
  exact hN st2 rest ht _ s4 hL2 (R4.pick [0,1,2,3,4,5,6] (by decide) (by simp)) ((S12.trans S3).trans S4)
 ·intro b hb e m s3 T3
  refine pass_err O.fr rfl XB (Heap.UpToSlots.of_keeps R2.out) (gtD1 w.params u a x (dqO n (pbV pb)) L tk e ad2 tk2) T3 fun s5 T5=>?_
  exact hE b hb e m s5 (T5.mono (Heap.UpToSlots.refl _) S12)
theorem gt_code0 (a : AD) (u : 'f') (wc : Str) (st : St) (inp : List Nat) (cs : List Obj) (hs : StOk st) (hal : ∀ c ∈ inp,c ∈ alpha) (hlen : inp.length ≤ 400) (hwc : wc.cps.toList = wcs false) (hL : LexAt false w.params u a wc st inp cs)
  {base h₀ : Heap} {outer : List Env} (hd : A.depth + 9 < recursionLimit) (hh : 'g') (X : 'r') (XB : TopIn 'c' base) (O : Outer A outer base h₀) (Rp : Rep h₀ (AS7 false a) cs s.heap)
  (hT : ∀ t st2 rest,rtk false st inp = .tok t st2 rest->∀ cs2 zT s',LexAt false w.params u a wc st2 rest cs2->Rep h₀ (AS7 false a) cs2 s'.heap->Same s s'->R (.ok (.ret (.str ⟨⟨t⟩⟩ zT))) s')
  (hN : ∀ st2 rest,rtk false st inp = .eof st2 rest->∀ cs2 s',LexAt false w.params u a wc st2 rest cs2->Rep h₀ (AS7 false a) cs2 s'.heap->Same s s'->R 'm' s')
  (hE : ∀ b,rtk false st inp = .err b->∀ e m s',Thrown base outer h₀ (.type "ValueError") [.str (msgOf b) m] e s s'->R (.error (.ref e)) s') :
  CA w A (.call (.ref 690) ⟨[.ref a.lx],[]⟩) R s:=by
 obtain ⟨x,n,pb,post,sT,rfl,hp,hxw,hst,htok,hpb,rfl⟩:=id hL
 refine gt0_call u a x (Nat.lt_of_le_of_lt (by omega) hd) hh X Rp ?_
 intro L tk s1 R1 S1
 rw [tw_execs]
 refine (gtA0 w.params u a x L tk).sound X R1 hh 'a' (fun ad tk=>all_nil) ?_
 intro ad2 tk2 s2 R2 S2 A' d1 d2 d3 d4 d5
 have S12:=S1.trans S2
 have R2 : Rep h₀ (AS7 false a ++ [L]) (CS7 false w.params u a x n (pbV pb) ++ [gt0_fr w.params u a x tk]) s2.heap:=R2
 have O':=O.inner (A':=A') (env:=env690 L) (L:=L) 0 R2 (kd690 L) rfl rfl rfl (by unfold gt0_fr; nofun) (d4.trans (Around.frames_deeper O.fr))
 refine rtk_code false a u wc st (inpOf pb post) _ hs hal hlen hwc hL (by have : A'.depth ≤ A.depth + 1:=d1; omega) d3 (X.hide R2) O' R2.hideRest ?_ ?_ ?_
 ·intro t st2 rest ht cs2 zT s3 hL2 R3 S3
  obtain ⟨y,n2,pb2,post2,sT2,e1,e2,e3,e4,e5,e6,rfl⟩:=id hL2
  refine (gtB0 w.params u a x L tk y ⟨⟨t⟩⟩ zT ad2 tk2).sound X (R2.back0 (CS7_len _ _ _ _ _ _ _) R3) 'a' (fun ad tk=>all_nil) ?_
  intro ad3 tk3 s4 R4 S4
  exact hT t st2 rest ht _ zT s4 hL2 (R4.pick [0,1,2,3,4,5] (by decide) (by simp)) ((S12.trans S3).trans S4)
 ·intro st2 rest ht cs2 s3 hL2 R3 S3
  obtain ⟨y,n2,pb2,post2,sT2,e1,e2,e3,e4,e5,e6,rfl⟩:=id hL2
  refine (gtC0 w.params u a x L tk y ad2 tk2).sound X (R2.back0 (CS7_len _ _ _ _ _ _ _) R3) 'a' (fun ad tk=>all_nil) ?_
  intro ad3 tk3 s4 R4 S4
  exact hN st2 rest ht _ s4 hL2 (R4.pick [0,1,2,3,4,5] (by decide) (by simp)) ((S12.trans S3).trans S4)
 ·intro b hb e m s3 T3
  refine pass_err O.fr rfl XB (Heap.UpToSlots.of_keeps R2.out) (gtD0 w.params u a x L tk e ad2 tk2) T3 fun s5 T5=>?_
  exact hE b hb e m s5 (T5.mono (Heap.UpToSlots.refl _) S12)
theorem nx_code1 (a : AD) (u : 'f') (wc : Str) (st : St) (inp : List Nat) (cs : List Obj) (hs : StOk st) (hal : ∀ c ∈ inp,c ∈ alpha) (hlen : inp.length ≤ 400) (hwc : wc.cps.toList = wcs true) (hL : LexAt true w.params u a wc st inp cs)
  {base h₀ : Heap} {outer : List Env} (hd : A.depth + 11 < recursionLimit) (hh : 'g') (X : 'r') (XB : TopIn 'c' base) (O : Outer A outer base h₀) (Rp : Rep h₀ (AS7 true a) cs s.heap)
  (hT : ∀ t st2 rest,rtk true st inp = .tok t st2 rest->∀ cs2 zT s',LexAt true w.params u a wc st2 rest cs2->Rep h₀ (AS7 true a) cs2 s'.heap->Same s s'->R (.ok (.ret (.str ⟨⟨t⟩⟩ zT))) s')
  (hN : ∀ st2 rest,rtk true st inp = .eof st2 rest->∀ e s',Thrown base outer h₀ (.type "StopIteration") [] e s s'->R (.error (.ref e)) s')
  (hE : ∀ b,rtk true st inp = .err b->∀ e m s',Thrown base outer h₀ (.type "ValueError") [.str (msgOf b) m] e s s'->R (.error (.ref e)) s') :
  CA w A (.call (.ref 726) ⟨[.ref a.lx],[]⟩) R s:=by
 obtain ⟨x,n,pb,post,sT,rfl,hp,hxw,hst,htok,hpb,rfl⟩:=id hL
 refine nx1_call u a x (dqO n (pbV pb)) (Nat.lt_of_le_of_lt (by omega) hd) hh X Rp ?_
 intro L tk s1 R1 S1
 rw [tw_execs]
 refine (nxA1 w.params u a x (dqO n (pbV pb)) L tk).sound X R1 hh 'a' (fun ad tk=>all_nil) ?_
 intro ad2 tk2 s2 R2 S2 A' d1 d2 d3 d4 d5
 have S12:=S1.trans S2
 have R2 : Rep h₀ (AS7 true a ++ [L]) (CS7 true w.params u a x n (pbV pb) ++ [nx1_fr w.params u a x (dqO n (pbV pb)) tk]) s2.heap:=R2
 have O':=O.inner (A':=A') (env:=env726 L) (L:=L) 0 R2 (kd726 L) rfl rfl rfl (by unfold nx1_fr; nofun) (d4.trans (Around.frames_deeper O.fr))
 refine gt_code1 a u wc st (inpOf pb post) _ hs hal hlen hwc hL (by have : A'.depth ≤ A.depth + 1:=d1; omega) d3 (X.hide R2) XB O' R2.hideRest ?_ ?_ ?_
 ·intro t st2 rest ht cs2 zT s3 hL2 R3 S3
  obtain ⟨y,n2,pb2,post2,sT2,e1,e2,e3,e4,e5,e6,rfl⟩:=id hL2
  refine (nxB1 w.params u a x (dqO n (pbV pb)) L tk y (dqO n2 (pbV pb2)) ⟨⟨t⟩⟩ zT ad2 tk2).sound X (R2.back0 (CS7_len _ _ _ _ _ _ _) R3) 'a' (fun ad tk=>all_nil) ?_
  intro ad3 tk3 s4 R4 S4
  exact hT t st2 rest ht _ zT s4 hL2 (R4.pick [0,1,2,3,4,5,6] (by decide) (by simp)) ((S12.trans S3).trans S4)
 ·intro st2 rest ht cs2 s3 hL2 R3 S3
  obtain ⟨y,n2,pb2,post2,sT2,e1,e2,e3,e4,e5,e6,rfl⟩:=id hL2
  refine (nxC1 w.params u a x (dqO n (pbV pb)) L tk y (dqO n2 (pbV pb2)) ad2 tk2).sound X (R2.back0 (CS7_len _ _ _ _ _ _ _) R3) 'a' (fun ad tk=>all_cons con_stop all_nil) ?_
  intro ad3 tk3 s4 R4 S4
  refine throw_first (args:=[]) 7 8 10 (oe:=stpO (ad3 2)) (vs:=[.ref (ad3 2),.none,.none,.none,.bool false,.none]) O (kd726 L) rfl R4 rfl rfl (by unfold nx1_fr sn; nofun) rfl rfl rfl rfl rfl rfl rfl fun s5 T5=>?_
  exact hN st2 rest ht _ s5 (T5.mono (Heap.UpToSlots.refl _) (((S12.trans S3).trans S4)))
 ·intro b hb e m s3 T3
  refine pass_err O.fr rfl XB (Heap.UpToSlots.of_keeps R2.out) (nxD1 w.params u a x (dqO n (pbV pb)) L tk e ad2 tk2) T3 fun s5 T5=>?_
  exact hE b hb e m s5 (T5.mono (Heap.UpToSlots.refl _) S12)
theorem nx_code0 (a : AD) (u : 'f') (wc : Str) (st : St) (inp : List Nat) (cs : List Obj) (hs : StOk st) (hal : ∀ c ∈ inp,c ∈ alpha) (hlen : inp.length ≤ 400) (hwc : wc.cps.toList = wcs false) (hL : LexAt false w.params u a wc st inp cs)
  {base h₀ : Heap} {outer : List Env} (hd : A.depth + 11 < recursionLimit) (hh : 'g') (X : 'r') (XB : TopIn 'c' base) (O : Outer A outer base h₀) (Rp : Rep h₀ (AS7 false a) cs s.heap)
  (hT : ∀ t st2 rest,rtk false st inp = .tok t st2 rest->∀ cs2 zT s',LexAt false w.params u a wc st2 rest cs2->Rep h₀ (AS7 false a) cs2 s'.heap->Same s s'->R (.ok (.ret (.str ⟨⟨t⟩⟩ zT))) s')
  (hN : ∀ st2 rest,rtk false st inp = .eof st2 rest->∀ e s',Thrown base outer h₀ (.type "StopIteration") [] e s s'->R (.error (.ref e)) s')
  (hE : ∀ b,rtk false st inp = .err b->∀ e m s',Thrown base outer h₀ (.type "ValueError") [.str (msgOf b) m] e s s'->R (.error (.ref e)) s') :
  CA w A (.call (.ref 726) ⟨[.ref a.lx],[]⟩) R s:=by
 obtain ⟨x,n,pb,post,sT,rfl,hp,hxw,hst,htok,hpb,rfl⟩:=id hL
 refine nx0_call u a x (Nat.lt_of_le_of_lt (by omega) hd) hh X Rp ?_
 intro L tk s1 R1 S1
 rw [tw_execs]
 refine (nxA0 w.params u a x L tk).sound X R1 hh 'a' (fun ad tk=>all_nil) ?_
 intro ad2 tk2 s2 R2 S2 A' d1 d2 d3 d4 d5
 have S12:=S1.trans S2
 have R2 : Rep h₀ (AS7 false a ++ [L]) (CS7 false w.params u a x n (pbV pb) ++ [nx0_fr w.params u a x tk]) s2.heap:=R2
 have O':=O.inner (A':=A') (env:=env726 L) (L:=L) 0 R2 (kd726 L) rfl rfl rfl (by unfold nx0_fr; nofun) (d4.trans (Around.frames_deeper O.fr))
 refine gt_code0 a u wc st (inpOf pb post) _ hs hal hlen hwc hL (by have : A'.depth ≤ A.depth + 1:=d1; omega) d3 (X.hide R2) XB O' R2.hideRest ?_ ?_ ?_
 ·intro t st2 rest ht cs2 zT s3 hL2 R3 S3
  obtain ⟨y,n2,pb2,post2,sT2,e1,e2,e3,e4,e5,e6,rfl⟩:=id hL2
  refine (nxB0 w.params u a x L tk y ⟨⟨t⟩⟩ zT ad2 tk2).sound X (R2.back0 (CS7_len _ _ _ _ _ _ _) R3) 'a' (fun ad tk=>all_nil) ?_
  intro ad3 tk3 s4 R4 S4
  exact hT t st2 rest ht _ zT s4 hL2 (R4.pick [0,1,2,3,4,5] (by decide) (by simp)) ((S12.trans S3).trans S4)
 ·intro st2 rest ht cs2 s3 hL2 R3 S3
  obtain ⟨y,n2,pb2,post2,sT2,e1,e2,e3,e4,e5,e6,rfl⟩:=id hL2
  refine (nxC0 w.params u a x L tk y ad2 tk2).sound X (R2.back0 (CS7_len _ _ _ _ _ _ _) R3) 'a' (fun ad tk=>all_cons con_stop all_nil) ?_
  intro ad3 tk3 s4 R4 S4
  refine throw_first (args:=[]) 6 7 9 (oe:=stpO (ad3 2)) (vs:=[.ref (ad3 2),.none,.none,.none,.bool false,.none]) O (kd726 L) rfl R4 rfl rfl (by unfold nx0_fr sn; nofun) rfl rfl rfl rfl rfl rfl rfl fun s5 T5=>?_
  exact hN st2 rest ht _ s5 (T5.mono (Heap.UpToSlots.refl _) (((S12.trans S3).trans S4)))
 ·intro b hb e m s3 T3
  refine pass_err O.fr rfl XB (Heap.UpToSlots.of_keeps R2.out) (nxD0 w.params u a x L tk e ad2 tk2) T3 fun s5 T5=>?_
  exact hE b hb e m s5 (T5.mono (Heap.UpToSlots.refl _) S12)
end
section
open PySem PySem.W PySem.W.X PyProof.Rows
section
variable (P : Params) (u : Nat->Tok) (a : AD) (x : LX) (od : Obj) (ad : Nat->Addr) (tk : Nat->Tok) (z : Str) (zT : Tok) (e : Addr) (dd : Option Addr) (vs : Array Value) (sl : Array (Option Value)) (ad0 : Nat->Addr) (tk0 : Nat->Tok)
noncomputable def pnA1_q : Option (RR (Option Value)):=run denF ⟨pw,P⟩ (Tf P) (y53 a) ad tk 8 278176441827329 [] [lxO a,lxDict P u a true x,siO a,siDict P u x,dqO 0 [],dqO 0 [],od] 0 0 none (.base (Fast.tw9404975358583537561 (.ref a.lx)))
theorem pnA1 : Lf P (Tf P) (y53 a) [lxO a,lxDict P u a true x,siO a,siDict P u x,dqO 0 [],dqO 0 [],od] [] (Fast.tw9404975358583537561 (.ref a.lx)) 0 zve (fun ad tk=>[(lxO a),(lxDict P u a true x),(siO a),'i','b','b',(od)]) (fun ad tk=>(.cut (zR 726 [(.ref a.lx)]) 0 none (ttOf (pnA1_q P u a x od ad tk)))):=.mk' 8 278176441827329 (by kernel_rfl)
theorem pnB1 : LfT P (Tf P) [] [] [] (ttOf (pnA1_q P u a x od ad0 tk0) (.ok (.ret (.str z zT)))) 0 zve (fun ad tk=>[]) (fun ad tk=>(.val (some (.str z zT)))):=.mk' 3 0 (by kernel_rfl)
theorem pnC1 : LfT P (Tf P) [e] [⟨.type SL.s5991306692159431302x13,dd,.fields vs,sl⟩] [] (ttOf (pnA1_q P u a x od ad0 tk0) (.error (.ref e))) 0 zve (fun ad tk=>[(⟨.type SL.s5991306692159431302x13,dd,.fields vs,sl⟩)]) (fun ad tk=>(.val none)):=.mk' 4 1 (by kernel_rfl)
theorem pnD1 : LfT P (Tf P) [e] [⟨.type SL.s6070975301684473832x10,dd,.fields vs,sl⟩] [] (ttOf (pnA1_q P u a x od ad0 tk0) (.error (.ref e))) 0 zve (fun ad tk=>[(⟨.type SL.s6070975301684473832x10,dd,.fields vs,sl⟩)]) (fun ad tk=>(.exc (.ref e))):=.mk' 4 1 (by kernel_rfl)
noncomputable def pnA0_q : Option (RR (Option Value)):=run denF ⟨pw,P⟩ (Tf P) (y58 a) ad tk 8 278176441827329 [] [lxO a,lxDict P u a false x,siO a,siDict P u x,dqO 0 [],dqO 0 []] 0 0 none (.base (Fast.tw9404975358583537561 (.ref a.lx)))
theorem pnA0 : Lf P (Tf P) (y58 a) [lxO a,lxDict P u a false x,siO a,siDict P u x,dqO 0 [],dqO 0 []] [] (Fast.tw9404975358583537561 (.ref a.lx)) 0 zve (fun ad tk=>[(lxO a),(lxDict P u a false x),(siO a),'i','b','b']) (fun ad tk=>(.cut (zR 726 [(.ref a.lx)]) 0 none (ttOf (pnA0_q P u a x ad tk)))):=.mk' 8 278176441827329 (by kernel_rfl)
theorem pnB0 : LfT P (Tf P) [] [] [] (ttOf (pnA0_q P u a x ad0 tk0) (.ok (.ret (.str z zT)))) 0 zve (fun ad tk=>[]) (fun ad tk=>(.val (some (.str z zT)))):=.mk' 3 0 (by kernel_rfl)
theorem pnC0 : LfT P (Tf P) [e] [⟨.type SL.s5991306692159431302x13,dd,.fields vs,sl⟩] [] (ttOf (pnA0_q P u a x ad0 tk0) (.error (.ref e))) 0 zve (fun ad tk=>[(⟨.type SL.s5991306692159431302x13,dd,.fields vs,sl⟩)]) (fun ad tk=>(.val none)):=.mk' 4 1 (by kernel_rfl)
theorem pnD0 : LfT P (Tf P) [e] [⟨.type SL.s6070975301684473832x10,dd,.fields vs,sl⟩] [] (ttOf (pnA0_q P u a x ad0 tk0) (.error (.ref e))) 0 zve (fun ad tk=>[(⟨.type SL.s6070975301684473832x10,dd,.fields vs,sl⟩)]) (fun ad tk=>(.exc (.ref e))):=.mk' 4 1 (by kernel_rfl)
end
variable {w : World} {as : List Addr} {cs : List Obj} {D U : Nat} {T : BT}
section
variable (P : Params) (y : Nat) (k : Nat->Tok) (ad : Nat->Addr) (tk : Nat->Tok) (t : Tok) (e e2 : Addr) (ad0 : Nat->Addr) (tk0 : Nat->Tok)
noncomputable def tblO : Obj:=⟨.type SL.s14018661285674007319x4,none,.dict ⟨[⟨(.ofNat 40),.int (.ofNat 40) (k 0),.none⟩,⟨(.ofNat 41),.int (.ofNat 41) (k 1),.none⟩,⟨(.ofNat 59),.int (.ofNat 59) (k 2),.none⟩,⟨(.ofNat 60),.int (.ofNat 60) (k 3),.none⟩,⟨(.ofNat 62),.int (.ofNat 62) (k 4),.none⟩,⟨(.ofNat 124),.int (.ofNat 124) (k 5),.none⟩,⟨(.ofNat 38),.int (.ofNat 38) (k 6),.none⟩]⟩ 7,⟨[]⟩⟩
noncomputable def pcD : Obj:=dct [en P s!"(" (k 0) .none,en P s!")" (k 1) .none,en P s!";" (k 2) .none,en P s!"<" (k 3) .none,en P s!">" (k 4) .none,en P s!"|" (k 5) .none,en P s!"&" (k 6) .none] 7
noncomputable def xMT : Ext:=⟨1,fun g _=>.ok (.ret (.ref (g 0))),fun _ _ l=>l,fun _ f=>[tblO f],false⟩
noncomputable def xTR : Ext:=xC fun f=>.str ⟨⟨wcL⟩⟩ (f 0)
noncomputable def trA_q : Option (RR PySem.Fin):=run denF ⟨pw,P⟩ (Tf P) [(y + 700)] ad tk 1266 2575048082406465167184696781068709162435903564024432935007508006738792753895408472992608757140276957209566072507172889671112924532953900589536845897120107145034619733800426166482562129837497886431352353766520308089755950001351369645928682792353217534778333749577403618186353759045807806175259419980473044711913215946801162179088562621806258200886880285967812411330549866069534064180827916764632035762233228819570970987959954490916344516970183268867485987416823289869182694664749644620497492207490941689581122782061363327261351922981246084990608274646613531370905467816751916349003287022499542387901865083848910472629662100972648771807304742243370319209180899840540105561754904767832414211822984932949000340643015317397611105778886091566723053181889457092687606853585241680923324872186435799177044084543574399699684188508633503633836457853769646056064932036517543385076374338475247185894111437000501713061423212658708948513497321560898051041619293396542795951012930056271572542326130358824098216904857065008865710285849028755781168506409283800249206132313065564979457683515957757045378421142076522360702824487315112189762004813396235008889211789420420623656879769555164681428656508569255281315967840827024600830270375990422619797102954396043424296055439293336916126969580273493775411259570521612770715316958757671586132721342458566489099789345668286924147234429718447333248271131666343485400880230773580493669067495001252919252816649020091079911245177912249227108048516555318295825778513132498682340449277832757912160203440385 [] [tblO k] 0 0 none (.base (denF (.builtin "str.translate" ⟨[.str ⟨⟨wcL⟩⟩ (k 9),.ref (y + 700)],[]⟩)))
theorem trA : Lf P (Tf P) [(y + 700)] [tblO k] [] (denF (.builtin "str.translate" ⟨[.str ⟨⟨wcL⟩⟩ (k 9),.ref (y + 700)],[]⟩)) 0 zve (fun ad tk=>[(tblO k)]) (fun ad tk=>(.cut (zB zb10 [(.ref (y + 700)),(zI 223 (tk 126))]) 0 none (ttOf (trA_q P y k ad tk)))):=by revert P; refine Lf.rw1 1266 2575048082406465167184696781068709162435903564024432935007508006738792753895408472992608757140276957209566072507172889671112924532953900589536845897120107145034619733800426166482562129837497886431352353766520308089755950001351369645928682792353217534778333749577403618186353759045807806175259419980473044711913215946801162179088562621806258200886880285967812411330549866069534064180827916764632035762233228819570970987959954490916344516970183268867485987416823289869182694664749644620497492207490941689581122782061363327261351922981246084990608274646613531370905467816751916349003287022499542387901865083848910472629662100972648771807304742243370319209180899840540105561754904767832414211822984932949000340643015317397611105778886091566723053181889457092687606853585241680923324872186435799177044084543574399699684188508633503633836457853769646056064932036517543385076374338475247185894111437000501713061423212658708948513497321560898051041619293396542795951012930056271572542326130358824098216904857065008865710285849028755781168506409283800249206132313065564979457683515957757045378421142076522360702824487315112189762004813396235008889211789420420623656879769555164681428656508569255281315967840827024600830270375990422619797102954396043424296055439293336916126969580273493775411259570521612770715316958757671586132721342458566489099789345668286924147234429718447333248271131666343485400880230773580493669067495001252919252816649020091079911245177912249227108048516555318295825778513132498682340449277832757912160203440385 ?_ ?_ <;> kernel_rfl
theorem gi1 : Lf P (Tf P) [(y + 700)] [tblO k] [] (denF (zB zb10 [.ref (y + 700),.int (.ofNat 223) t])) 0 zve (fun ad tk=>[(tblO k)]) (fun ad tk=>(.val (.again (.builtin "dict.__getitem__" ⟨[(.ref (y + 700)),(zI 223 t)],[]⟩)))):=.mk' 4 1 (by kernel_rfl)
theorem gi2 : Lf P (Tf P) [(y + 700)] [tblO k] [] (denF (.builtin "dict.__getitem__" ⟨[.ref (y + 700),.int (.ofNat 223) t],[]⟩)) 2 zve (fun ad tk=>[(tblO k),(zQ zt23 [(zI 223 t)]),(zF (.type "KeyError") [(.ref (ad 0)),.none,.none,.none,(.bool false),.none])]) (fun ad tk=>(.exc (.ref (ad 1)))):=by revert P; refine Lf.rw1 14 16842752 ?_ ?_ <;> kernel_rfl
theorem trB : LfT P (Tf P) [(y + 700),e] [tblO k,⟨.type "KeyError",none,.fields ⟨(y76 e2)⟩,⟨[]⟩⟩] [] (ttOf (trA_q P y k ad0 tk0) (.error (.ref e))) 0 zve (fun ad tk=>[(tblO k),(⟨.type "KeyError",none,.fields ⟨(y76 e2)⟩,⟨[]⟩⟩)]) (fun ad tk=>(.val (.done (.ret (.str ⟨⟨wcL⟩⟩ (tk 136)))))):=by revert P; refine LfT.rw1 1366 55343655271303282483277586998969860360071157768553720408316122201255479492196705844158623767063402918446911293807172056383763526161349594793553493448187816972360582984383984521185746894153075968129933255869592335617233445537898396699986778022551739096546900342694929316295828846029481055006387665395304082922950881002350977803073123480333635138961887686350787671641024170966615735620999313062072505698829924421193259817083448569401966163388046427365373982890303783569684362790183754273511477010521726342293079899750141044588024108420217008352165281376465811376910710093639219466717908173005780092862692776729163731313308677534742100712302498861042430743110335718418759310565314885882569967003191519237571582557348786132012842641836755790143489692464937864010935269266427896888097216476978428647904295765045539347238634448174595179348022428701459577998953319013487296558429697093649197741981731244777609739225881008878235881399502747440823106484568459584255453950912366289576710857837715590435307743620299445489444432537748822530160112681607483206398481225576187137743261872662680590123214901905813464187714826310722131670209898883099988428079622992831365203345043885172249595645442794863973026474613110660785800725908832232759937015939786603521187563703386706157387392751494397924554119721413650749070562212252749013535796423192009933105386981271630601019776403083374852948981465001797620023353972434733193635794373187216589777103562078254027916425709568348651137364254851320324647677897724833392757147957762364329329384954082260135504797463406869152350789031384142812077932536271964633571880706719997105110827832936289437855820356817846530 ?_ ?_ <;> kernel_rfl
theorem mt1 : Lf P (Tf P) [(y + 700)] [pcD P k] [] (denF (zB zb11 [.ref (y + 700)])) 0 zve (fun ad tk=>[(pcD P k)]) (fun ad tk=>(.val (.again (.builtin "str.maketrans" ⟨[(.ref (y + 700))],[]⟩)))):=.mk' 3 0 (by kernel_rfl)
theorem mt2 : Lf P (Tf P) [(y + 700)] [pcD P k] [] (denF (.builtin "str.maketrans" ⟨[.ref (y + 700)],[]⟩)) 1 zve (fun ad tk=>[(pcD P k),(zD zt0 [⟨(.ofNat 40),.int (.ofNat 40) (tk 0),.none⟩,⟨(.ofNat 41),.int (.ofNat 41) (tk 2),.none⟩,⟨(.ofNat 59),.int (.ofNat 59) (tk 4),.none⟩,⟨(.ofNat 60),.int (.ofNat 60) (tk 6),.none⟩,⟨(.ofNat 62),.int (.ofNat 62) (tk 8),.none⟩,⟨(.ofNat 124),.int (.ofNat 124) (tk 10),.none⟩,⟨(.ofNat 38),.int (.ofNat 38) (tk 12),.none⟩] 7)]) (fun ad tk=>(.val (.done (.ret (.ref (ad 0)))))):=by revert P; refine Lf.rw1 84 (zd 999 0x2020222020202220202022202020222020202220202022202020222010101) ?_ ?_ <;> kernel_rfl
theorem tr1 : Lf P (Tf P) [(y + 700)] [tblO k] [] (denF (zB zb12 [.str ⟨⟨wcL⟩⟩ (k 9),.ref (y + 700)])) 0 zve (fun ad tk=>[(tblO k)]) (fun ad tk=>(.val (.again (.builtin "str.translate" ⟨[(.str ⟨⟨wcL⟩⟩ (k 9)),(.ref (y + 700))],[]⟩)))):=.mk' 3 0 (by kernel_rfl)
theorem top_all : ((List.range 700).all fun a=>match (Tf P).get a with | some o=>!o.isFreed | none=>false) = true:=by kernel_rfl!
theorem Rep.above {h₀ h : Heap} (X : 'r') (R : Rep h₀ as cs h) {z : Addr} (hz : z ∈ as) : ∃ y,z = y + 700:=by
 by_cases h7 : z < 700
 ·exfalso
  have:=List.all_eq_true.mp (top_all w.params) z (List.mem_range.mpr h7)
  cases e : (Tf w.params).get z with
  | none=>rw [e] at this; cases this
  | some o =>
   rw [e] at this
   have h2 : o.isFreed = false:=by simpa using this
   have:=X z o e h2
   rw [R.fresh z hz] at this
   cases this
 ·exact ⟨z - 700,(Nat.sub_add_cancel (Nat.le_of_not_lt h7)).symm⟩
theorem Con.at {c : Code} {x y : Ext} {z : Addr} {o : Obj} (C : Con w T [z] c [o] x D U) (m : Nat) (hz : as[m]? = some z) (hc : cs[m]? = some o)
  (hk : y.k = x.k) (hr : y.r = x.r) (hn : y.nw = x.nw) (hy : ∀ g f l,y.up g f l = l) (hx : ∀ g f l,x.up g f l = l) : Con w T as c cs y D U:=by
 obtain ⟨h1,e1⟩:=List.getElem?_eq_some_iff.mp hz
 obtain ⟨h2,e2⟩:=List.getElem?_eq_some_iff.mp hc
 have ea : as = as.take m ++ [z] ++ as.drop (m + 1):=by rw [← e1]; simp
 have ec : cs = cs.take m ++ [o] ++ cs.drop (m + 1):=by rw [← e2]; simp
 intro A h₀ s q1 q2 q3 X R
 have hl:=R.len
 have:=Con.frame (l₁:=as.take m) (l₂:=as.drop (m + 1)) (c₁:=cs.take m) (c₂:=cs.drop (m + 1)) (y:=y) C (by simp; omega) (by simp; omega) hk hr hn (fun g f=>by rw [hy,hx]) (fun g f=>by rw [hx])
 rw [← ea,← ec] at this
 exact this A h₀ s q1 q2 q3 X R
theorem con_mt {z : Addr} (m : Nat) {k : 'f'} (hz : as[m]? = some z) (hc : cs[m]? = some (pcD w.params k)) :
  Con w 'c' as (.call (.builtin "str.maketrans") ⟨[.ref z],[]⟩) cs xMT D U:=by
 refine Con.at (z:=z) (o:=pcD w.params k) (x:=xMT) ?_ m hz hc rfl rfl rfl (fun _ _ _=>rfl) (fun _ _ _=>rfl)
 intro A h₀ s q1 q2 q3 X R
 obtain ⟨y,rfl⟩:=R.above X (.head _)
 refine wpc ((mt1 w.params y k).sound X R q3 'a' 'e' ?_)
 intro ad tk s2 R2 S2
 refine ⟨Code.quiet_builtin _ (by decide +kernel),wpc ((mt2 w.params y k).sound X R2 q3 'a' 'e' ?_)⟩
 intro ad3 tk3 s3 R3 S3
 exact ⟨ad3,fun m=>tk3 (2 * m),rfl,R3,S2.trans S3⟩
theorem con_tr0 {z : Addr} {k' : 'f'} : Con w 'c' [z] (.call (.builtin "str.translate") ⟨[.str ⟨⟨wcL⟩⟩ (k' 9),.ref z],[]⟩) [tblO k'] xTR D U:=by
 intro A h₀ s q1 q2 q3 X R
 obtain ⟨y,rfl⟩:=R.above X (.head _)
 refine wpc ((tr1 w.params y k').sound X R q3 'a' 'e' ?_)
 intro ad tk s2 R2 S2
 refine ⟨Code.quiet_builtin _ (by decide +kernel),wpc ((trA w.params y k').sound X R2 q3 'a' 'e' ?_)⟩
 intro ad3 tk3 s3 R3 S3 A' d1 d2 d3 d4 d5
 refine wpc ((gi1 w.params y k' _).sound X R3 d3 'a' 'e' ?_)
 intro ad4 tk4 s4 R4 S4
 refine ⟨Code.quiet_builtin _ (by decide +kernel),wpc ((gi2 w.params y k' _).sound X R4 d3 'a' 'e' ?_)⟩
 intro ad5 tk5 s5 R5 S5
 refine (trB w.params y k' (ad5 1) (ad5 0) ad3 tk3).sound X (R5.pick [0,2] (by decide) (by simp)) (fun _ _=>rfl) (fun _ _=>all_nil) ?_
 intro ad6 tk6 s6 R6 S6
 exact ⟨ad6,fun _=>tk6 136,rfl,R6.pick [0] (by decide) (by simp),S2.trans (S3.trans (S4.trans (S5.trans S6)))⟩
theorem con_tr {z : Addr} (m : Nat) {k : 'f'} {t : Tok} (hz : as[m]? = some z) (hc : cs[m]? = some (tblO k)) :
  Con w 'c' as (.call (.builtin "str.translate") ⟨[.str ⟨⟨wcL⟩⟩ t,.ref z],[]⟩) cs xTR D U :=
 Con.at (z:=z) (o:=tblO k) (x:=xTR) (con_tr0 (k':=fun n=>match n with | 9=>t | n=>k n)) m hz hc rfl rfl rfl (fun _ _ _=>rfl) (fun _ _ _=>rfl)
end
variable {w : World} {A : Around} {h₀ : Heap} {s : Shared} {R : Result->Shared->Prop} {as : List Addr} {cs : List Obj} {D U : Nat}
theorem fn_call2 {f : Addr} {args : Args} {fobj : Obj} {fd : FuncData} {body : List Stmt} {k : Nat} (nw : 'k'->'q'->List Obj) (binds : 'k'->'q'->List (Str × Value)) (frame : 'k'->'q'->'q'->Obj) (env : Addr->Env)
  (hD : A.depth < recursionLimit) (hh : 'g') (X : 'r') (Rp : Rep h₀ as cs s.heap)
  (hT : 'c'.get f = some fobj) (hfd : fobj.data = .func fd) (hfr : fobj.isFreed = false) (hco : fd.scope.isCoroutine = false) (hgen : fd.scope.isGenerator = false) (hbody : fd.body = .stmts body)
  (hcd : ∀ h,TopIn 'c' h->h.CodeRec fd.code fd.qualname)
  (L1 : Lf w.params 'c' as cs [] (zBA fd args) k (fun _ _=>[]) (fun ad tk=>cs ++ nw ad tk) (fun ad tk=>.val (binds ad tk)))
  (L2 : ∀ ad0 tk0,Lf w.params 'c' (as ++ (List.range k).map ad0) (cs ++ nw ad0 tk0) [] (Fast.tw11113344188204177931 fd.scope fd.globals fd.closure (binds ad0 tk0) (fd.qualname ++ ".<locals>.") (some f) fd.code none fd.builtins) 1 (fun _ _=>[]) (fun _ tk=>cs ++ nw ad0 tk0 ++ [frame ad0 tk0 tk]) (fun ad _=>.val (env (ad 0))))
  (h : ∀ ad0 tk0 L tk s',Rep h₀ (as ++ (List.range k).map ad0 ++ [L]) (cs ++ nw ad0 tk0 ++ [frame ad0 tk0 tk]) s'.heap->Same s s'->WP w (A.deeper (env L)) (execs body (env L)) (fun fl s''=>R (.ok (.ret (retV fl))) s'')
   (fun e s''=>WP w (A.deeper (env L)) (leaving (env L) e) (fun _ s3=>R (.error e) s3) (fun e' s3=>R (.error e') s3) s'') s') (hnw : ∀ ad tk,(nw ad tk).length = k:=by intros; rfl) :
  CA w A (.call (.ref f) args) R s:=by
 have hlen:=Rp.len
 have up : ∀ {h : Heap},(∀ b o,h₀.get? b = some o->h.get? b = some o)->TopIn (Tf w.params) h:=fun k a o e1 e2=>k _ _ (X a o e1 e2)
 refine codeAny_call_function hD (Rp.keep _ _ (X f fobj hT hfr)) hfd hco hgen hbody (hcd _ (up Rp.keep)) ?_
 rw [tw_bind]
 refine L1.sound X Rp (by show A.handled = none; exact hh) (fun _ _=>by simp [hlen,hnw]) (fun _ _=>all_nil) ?_
 intro ad tk s1 R1 S1
 simp only [EndP]
 rw [tw_env]
 refine (L2 ad tk).sound X R1 (by show A.handled = none; exact hh) (fun _ _=>by simp [hlen,hnw]; omega) (fun _ _=>all_nil) ?_
 intro ad2 tk2 s2 R2 S2
 simp only [EndP]
 refine ⟨noLimit_top _ (up R2.keep),codeAny_func (wpAny_mono (h ad tk (ad2 0) tk2 s2 R2 (S1.trans S2)) (fun fl s'' q=>?_) fun _ _ q=>q)⟩
 cases fl <;> exact q
noncomputable def dE : Obj:=dct [] 0
noncomputable def uS (f : Nat->Tok) : Nat->Tok:=fun n=>match n with
 | 40=>f 0
 | 41=>681
 | 42=>f 1
 | 43=>f 2
 | _=>0
noncomputable def xI (tx : Str) (tT pT : Tok) : LX:=⟨.none,⟨⟨[]⟩⟩,0,1,0,0,pT,tx,tT,⟨⟨[]⟩⟩⟩
noncomputable def xSI (P : Params) (tx : Str) (tT : Tok) : Ext:=⟨0,fun _ _=>.ok (.ret .none),fun _ f l=>[siDict P (uS f) (xI tx tT (f 3)),getO l 1],fun _ _=>[],false⟩
noncomputable def ioO (d : Addr) : Obj:=⟨.ref 594,some d,.plain,⟨[]⟩⟩
noncomputable def xIO : Ext:=⟨2,fun g _=>.ok (.ret (.ref (g 1))),fun _ _ l=>l,fun g _=>[dE,ioO (g 0)],false⟩
section
variable (P : Params) (u : Nat->Tok) (a : AD) (x : LX) (tx : Str) (tT : Tok) (L : Addr) (k tk : Nat->Tok) (ad0 : Nat->Addr) (tk0 : Nat->Tok)
theorem tl_b : Lf P (Tf P) [a.sd,a.si] [siDict P u x,siO a] [] (zBA fd371 ⟨[.ref a.si,.str tx tT],[]⟩) 0 zve (fun ad tk=>['i',(siO a)]) (fun ad tk=>(.val [(a294,(.ref a.si)),(a353,(.str tx tT))])):=.mk' 3 0 (by kernel_rfl)
theorem tl_e : Lf P (Tf P) [a.sd,a.si] [siDict P u x,siO a] [] (zNE fd371 371 [(a294,(.ref a.si)),(a353,(.str tx tT))]) 1 zve (fun ad tk=>['i',(siO a),(zD zt98 [en P a294 (tk 0) (.ref a.si),zE P a353 (tk 1) tx tT] 2)]) (fun ad tk=>(.val (env371 (ad 0)))):=.mk' 12 50529027 (by kernel_rfl)
noncomputable def tl_fr (P : Params) (u : Nat->Tok) (a : AD) (x : LX) (tx : Str) (tT : Tok) (tk : Nat->Tok) : Obj:=(zD zt98 [en P a294 (tk 0) (.ref a.si),zE P a353 (tk 1) tx tT] 2)
theorem tl_call (u : 'f') (a : AD) (x : LX) (tx : Str) (tT : Tok) : CallT w [a.sd,a.si] [siDict w.params u x,siO a] (tl_fr w.params u a x tx tT) env371 body371 371 ⟨[.ref a.si,.str tx tT],[]⟩:=callT _ _ (top371 w.params) rfl rfl co371 ge371 rfl (cr371 w.params) (tl_b w.params u a x tx tT) (tl_e w.params u a x tx tT)
theorem tl_w : Lf P (Tf P) [a.sd,a.si,L] [siDict P u x,siO a,tl_fr P u a x tx tT k] [] (zEX body371 (env371 L)) 0 zve (fun ad tk=>['i',(siO a),(sn (tl_fr P u a x tx tT k) (zE P a351 (tk 1) a349 (u 41)))]) (fun ad tk=>(.val (.ret (.str tx tT)))):=by revert P; refine Lf.rw1 62 (zd 999 0x232303030303110272820203) ?_ ?_ <;> kernel_rfl
theorem tl_con (u : 'f') (a : AD) (x : LX) (tx : Str) (tT : Tok) (hD : D < recursionLimit) : Con w 'c' [a.sd,a.si] (.call (.ref 371) ⟨[.ref a.si,.str tx tT],[]⟩) [siDict w.params u x,siO a] (xC fun f=>.str tx tT) D U:=by
 intro A h₀ s h1 h2 hh X R
 refine tl_call u a x tx tT (Nat.lt_of_le_of_lt h1 hD) hh X R ?_
 intro L k s1 R1 S1
 rw [tw_execs]
 refine (tl_w w.params u a x tx tT L k).sound X R1 hh (fun _ _=>rfl) (fun _ _ y hy=>by cases hy) ?_
 intro ad tk s2 R2 S2
 exact ⟨ad,tk,rfl,R2.pick [0,1] (by decide) (by simp),S1.trans S2⟩
theorem sn_b : Lf P (Tf P) [a.sd,a.si] [dE,siO a] [] (zBA fd364 ⟨[.ref a.si,.str tx tT],[]⟩) 0 zve (fun ad tk=>[(dE),(siO a)]) (fun ad tk=>(.val [(a294,(.ref a.si)),(a350,(.str tx tT)),(a351,(.str a349 681))])):=.mk' 4 0 (by kernel_rfl)
theorem sn_e : Lf P (Tf P) [a.sd,a.si] [dE,siO a] [] (zNE fd364 364 [(a294,(.ref a.si)),(a350,(.str tx tT)),(a351,(.str a349 681))]) 1 zve (fun ad tk=>[(dE),(siO a),(zD zt98 [en P a294 (tk 0) (.ref a.si),zE P a350 (tk 1) tx tT,zE P a351 (tk 2) a349 681] 3)]) (fun ad tk=>(.val (env364 (ad 0)))):=.mk' 16 3311470314243 (by kernel_rfl)
noncomputable def sn_fr : Obj:=(zD zt98 [en P a294 (tk 0) (.ref a.si),zE P a350 (tk 1) tx tT,zE P a351 (tk 2) a349 681] 3)
theorem sn_call (a : AD) (tx : Str) (tT : Tok) : CallT w [a.sd,a.si] [dE,siO a] (sn_fr w.params a tx tT) env364 body364 364 ⟨[.ref a.si,.str tx tT],[]⟩:=callT _ _ (top364 w.params) rfl rfl co364 ge364 rfl (cr364 w.params) (sn_b w.params a tx tT) (sn_e w.params a tx tT)
noncomputable abbrev y69 (p0 : Str) (p1 : Tok):=xC fun f=>.str p0 p1
theorem sn_w : Lf P (Tf P) [a.sd,a.si,L] [dE,siO a,sn_fr P a tx tT k] [(y69 tx tT)] (zEX body364 (env364 L)) 0 (fun ad tk=>[⟨(zR 371 [(.ref a.si),(.str tx tT)]),0,[(sn (sn (sn (dE) (zE P s!"_StringIO__newline" (tk 3) a349 681)) (zE P s!"_StringIO__buf" (tk 6) a181 (tk 4))) (en P s!"_StringIO__pos" (tk 9) (zI 0 (tk 7)))),(siO a),(sn_fr P a tx tT k)],0,0,(y69 tx tT)⟩]) (fun ad tk=>[(sn (sn (sn (dE) (zE P s!"_StringIO__newline" (tk 3) a349 681)) (zE P s!"_StringIO__buf" (tk 6) tx tT)) (en P s!"_StringIO__pos" (tk 9) (zI 0 (tk 7)))),(siO a),(sn_fr P a tx tT k)]) zvn:=by revert P; refine Lf.rw1 240 (zd 999 0x101117212228202031f03014272720203030101117212228202030101117212228202030101117212228202034323232303432303) ?_ ?_ <;> kernel_rfl
theorem io_b : Lf P (Tf P) [] [] [] (zBA fd87 ⟨[.ref 594,.str tx tT],[]⟩) 2 zve (fun ad tk=>[(zQ zt23 [(.str tx tT)]),(zD zt0 [] 0)]) (fun ad tk=>(.val [(a261,(.ref 594)),(a262,(.ref (ad 0))),(a263,(.ref (ad 1)))])):=.mk' 5 0 (by kernel_rfl)
theorem io_e (P : Params) (tx : Str) (tT : Tok) (ad0 : Nat->Addr) (tk0 : 'f') : Lf P (Tf P) [(ad0 0),(ad0 1)] [(zQ zt23 [(.str tx tT)]),(zD zt0 [] 0)] [] (zNE fd87 87 [(a261,(.ref 594)),(a262,(.ref (ad0 0))),(a263,(.ref (ad0 1)))]) 1 zve (fun ad tk=>[((zQ zt23 [(.str tx tT)])),((zD zt0 [] 0)),(zD zt98 [en P a261 (tk 0) (.ref 594),en P a262 (tk 1) (.ref (ad0 0)),en P a263 (tk 2) (.ref (ad0 1))] 3)]) (fun ad tk=>(.val (env87 (ad 0)))):=.mk' 16 3311470314243 (by kernel_rfl)
noncomputable def io_fr (P : Params) (tx : Str) (tT : Tok) (ad0 : Nat->Addr) (tk0 : Nat->Tok) (tk : Nat->Tok) : Obj:=(zD zt98 [en P a261 (tk 0) (.ref 594),en P a262 (tk 1) (.ref (ad0 0)),en P a263 (tk 2) (.ref (ad0 1))] 3)
theorem io_call (tx : Str) (tT : Tok) (hD : A.depth < recursionLimit) (hh : 'g') (X : 'r') (Rp : Rep h₀ [] [] s.heap)
  (h : ∀ ad0 tk0 L tk s',Rep h₀ ([(ad0 0),(ad0 1)] ++ [L]) ([⟨(.type SL.s2766695959194262286x5),none,(.seq ⟨[(.str tx tT)]⟩ 0),⟨[]⟩⟩,⟨(.type SL.s14018661285674007319x4),none,(.dict ⟨[]⟩ 0),⟨[]⟩⟩] ++ [io_fr w.params tx tT ad0 tk0 tk]) s'.heap->Same s s'->WP w (A.deeper (env87 L)) (execs body87 (env87 L)) (fun fl s''=>R (.ok (.ret (retV fl))) s'')
   (fun e s''=>WP w (A.deeper (env87 L)) (leaving (env87 L) e) (fun _ s3=>R (.error e) s3) (fun e' s3=>R (.error e') s3) s'') s') :
  CA w A (.call (.ref 87) ⟨[.ref 594,.str tx tT],[]⟩) R s :=
 fn_call2 (k:=2) (fun ad0 tk0=>[⟨(.type SL.s2766695959194262286x5),none,(.seq ⟨[(.str tx tT)]⟩ 0),⟨[]⟩⟩,⟨(.type SL.s14018661285674007319x4),none,(.dict ⟨[]⟩ 0),⟨[]⟩⟩]) (fun ad0 tk0=>[(a261,(.ref 594)),(a262,(.ref (ad0 0))),(a263,(.ref (ad0 1)))]) (io_fr w.params tx tT) env87 hD hh X Rp (top87 w.params) rfl rfl co87 ge87 rfl (cr87 w.params) (io_b w.params tx tT) (io_e w.params tx tT) h
theorem io_w : Lf P (Tf P) [(ad0 0),(ad0 1),L] [tpO [.str tx tT],dE,io_fr P tx tT ad0 tk0 k] [] (zEX body87 (env87 L)) 2 zve (fun ad tk=>[(tpO [.str tx tT]),(dE),(io_fr P tx tT ad0 tk0 k),(zD zt0 [] 0),⟨(.ref 594),some (ad 0),.plain,⟨[]⟩⟩]) (fun ad tk=>(.val (.ret (.ref (ad 1))))):=.mk' 73 3626777458843900409020419 (by kernel_rfl)
theorem li1_b : Lf P (Tf P) [a.lx,a.ld] [lxO a,dE] [] (zBA fd653 ⟨[.ref a.lx,.str tx tT,.none,.bool true,.bool true],[]⟩) 0 zve (fun ad tk=>[(lxO a),(dE)]) (fun ad tk=>(.val [(a294,(.ref a.lx)),(a412,(.str tx tT)),(a413,.none),(a414,(.bool true)),(a404,(.bool true))])):=.mk' 4 0 (by kernel_rfl)
theorem li1_e : Lf P (Tf P) [a.lx,a.ld] [lxO a,dE] [] (zNE fd653 653 [(a294,(.ref a.lx)),(a412,(.str tx tT)),(a413,.none),(a414,(.bool true)),(a404,(.bool true))]) 1 zve (fun ad tk=>[(lxO a),(dE),(zD zt98 [en P a294 (tk 0) (.ref a.lx),zE P a412 (tk 1) tx tT,en P a413 (tk 2) .none,en P a414 (tk 3) (.bool true),en P a404 (tk 4) (.bool true)] 5)]) (fun ad tk=>(.val (env653 (ad 0)))):=.mk' 24 14222656701348578525955 (by kernel_rfl)
noncomputable def li1_fr : Obj:=(zD zt98 [en P a294 (tk 0) (.ref a.lx),zE P a412 (tk 1) tx tT,en P a413 (tk 2) .none,en P a414 (tk 3) (.bool true),en P a404 (tk 4) (.bool true)] 5)
theorem li1_call (a : AD) (tx : Str) (tT : Tok) : CallT w [a.lx,a.ld] [lxO a,dE] (li1_fr w.params a tx tT) env653 body653 653 ⟨[.ref a.lx,.str tx tT,.none,.bool true,.bool true],[]⟩:=callT _ _ (top653 w.params) rfl rfl co653 ge653 rfl (cr653 w.params) (li1_b w.params a tx tT) (li1_e w.params a tx tT)
noncomputable abbrev y79 (p0 : Params) (p1 : Nat->Tok):=zE p0 a449 (p1 40) s!" \t\r\n" (p1 38)
noncomputable abbrev y95 (p0 : Params) (p1 : Nat->Tok):=zE p0 a446 (p1 45) s!"'\"" (p1 43)
noncomputable abbrev y47 (p0 : Params) (p1 : Nat->Tok) (p2 : Str) (p3 : Tok):=[zE p0 s!"_StringIO__newline" (p1 9) a349 681,zE p0 s!"_StringIO__buf" (p1 10) p2 p3,en p0 s!"_StringIO__pos" (p1 11) (zI 0 (p1 12))]
noncomputable abbrev y72 (p0 : Params) (p1 : Nat->Tok):=[en p0 s!"(" (p1 86) .none,en p0 s!")" (p1 88) .none,en p0 s!";" (p1 90) .none,en p0 s!"<" (p1 92) .none,en p0 s!">" (p1 94) .none,en p0 s!"|" (p1 96) .none,en p0 s!"&" (p1 98) .none]
theorem li1_w : Lf P (Tf P) [a.lx,a.ld,L] [lxO a,dE,li1_fr P a tx tT k] [xIO,⟨0,fun _ _=>.ok (.ret .none),fun _ f l=>[getO l 0,getO l 1,getO l 2,siDict P (uS f) (xI tx tT (f 3)),getO l 4],fun _ _=>[],false⟩,xMT,xTR] (zEX body653 (env653 L)) 5 (fun ad tk=>[⟨(zR 87 [(.ref 594),(.str tx tT)]),0,[(lxO a),(dE),(li1_fr P a tx tT k)],1,1,xIO⟩,⟨(zR 364 [(.ref (ad 1)),(.str tx tT)]),2,[(lxO a),(dE),(li1_fr P a tx tT k),(zD zt0 [] 0),⟨(.ref 594),some (ad 0),.plain,⟨[]⟩⟩],1,1,⟨0,fun _ _=>.ok (.ret .none),fun _ f l=>[getO l 0,getO l 1,getO l 2,siDict P (uS f) (xI tx tT (f 3)),getO l 4],fun _ _=>[],false⟩⟩,⟨(zB zb11 [(.ref (ad 6))]),10,[(lxO a),(sn (sn (sn (sn (sn (sn (sn (sn (sn (sn (sn (sn (sn (sn (sn (sn (sn (sn (sn (sn (dE) (en P a412 (tk 19) (.ref (ad 1)))) (en P a413 (tk 21) .none)) (en P a414 (tk 23) (.bool true))) (en P a441 (tk 25) .none)) (zE P a439 (tk 28) s!"#" (tk 26))) (zE P a451 (tk 31) ⟨⟨wcL⟩⟩ (tk 80))) (y79 P tk)) (en P a450 (tk 42) (.bool false))) (y95 P tk)) (zE P a442 (tk 48) s!"\\" (tk 46))) (zE P a443 (tk 51) s!"\"" (tk 49))) (zE P a448 (tk 54) s!" " (tk 52))) (en P a445 (tk 56) (.ref (ad 2)))) (en P a432 (tk 59) (zI 1 (tk 57)))) (en P a440 (tk 62) (zI 0 (tk 60)))) (zE P a435 (tk 65) a181 (tk 63))) (en P a444 (tk 67) (.ref (ad 3)))) (en P a447 (tk 69) .none)) (zE P a437 (tk 73) s!"();<>|&" (tk 70))) (en P a438 (tk 77) (.ref (ad 4)))),(sv (sv (li1_fr P a tx tT k) 1 (.ref (ad 1))) 4 (.str s!"();<>|&" (tk 70))),(zD zt0 (y47 P tk tx tT) 3),⟨(.ref 594),some (ad 0),.plain,⟨[]⟩⟩,(zF zt95 [.none,(zI 0 0)]),(zF zt95 [.none,(zI 0 0)]),(zF zt95 [.none,(zI 0 0)]),(zF (.type "builtin_function_or_method") [(.builtin "dict.fromkeys"),zt0]),(zD zt0 (y72 P tk) 7),(zF zt105 [.none,(zI 7 0)]),(zW zt23),(zF zt45 [(.ref (ad 8)),.none,.none,.none,(.bool false),.none])],0,0,xMT⟩,⟨(zB zb12 [(.str ⟨⟨wcL⟩⟩ (tk 80)),(.ref (ad 10))]),11,[(lxO a),(sn (sn (sn (sn (sn (sn (sn (sn (sn (sn (sn (sn (sn (sn (sn (sn (sn (sn (sn (sn (dE) (en P a412 (tk 19) (.ref (ad 1)))) (en P a413 (tk 21) .none)) (en P a414 (tk 23) (.bool true))) (en P a441 (tk 25) .none)) (zE P a439 (tk 28) s!"#" (tk 26))) (zE P a451 (tk 31) ⟨⟨wcL⟩⟩ (tk 80))) (y79 P tk)) (en P a450 (tk 42) (.bool false))) (y95 P tk)) (zE P a442 (tk 48) s!"\\" (tk 46))) (zE P a443 (tk 51) s!"\"" (tk 49))) (zE P a448 (tk 54) s!" " (tk 52))) (en P a445 (tk 56) (.ref (ad 2)))) (en P a432 (tk 59) (zI 1 (tk 57)))) (en P a440 (tk 62) (zI 0 (tk 60)))) (zE P a435 (tk 65) a181 (tk 63))) (en P a444 (tk 67) (.ref (ad 3)))) (en P a447 (tk 69) .none)) (zE P a437 (tk 73) s!"();<>|&" (tk 70))) (en P a438 (tk 77) (.ref (ad 4)))),(sn (sv (sv (li1_fr P a tx tT k) 1 (.ref (ad 1))) 4 (.str s!"();<>|&" (tk 70))) (en P a395 (tk 108) (.ref (ad 10)))),(zD zt0 (y47 P tk tx tT) 3),⟨(.ref 594),some (ad 0),.plain,⟨[]⟩⟩,(zF zt95 [.none,(zI 0 0)]),(zF zt95 [.none,(zI 0 0)]),(zF zt95 [.none,(zI 0 0)]),(zF (.type "builtin_function_or_method") [(.builtin "dict.fromkeys"),zt0]),(zD zt0 (y72 P tk) 7),(zF zt105 [.none,(zI 7 0)]),(zW zt23),(zF zt45 [(.ref (ad 8)),.none,.none,.none,(.bool false),.none]),(zD zt0 [⟨(.ofNat 40),.int (.ofNat 40) (tk 100),.none⟩,⟨(.ofNat 41),.int (.ofNat 41) (tk 101),.none⟩,⟨(.ofNat 59),.int (.ofNat 59) (tk 102),.none⟩,⟨(.ofNat 60),.int (.ofNat 60) (tk 103),.none⟩,⟨(.ofNat 62),.int (.ofNat 62) (tk 104),.none⟩,⟨(.ofNat 124),.int (.ofNat 124) (tk 105),.none⟩,⟨(.ofNat 38),.int (.ofNat 38) (tk 106),.none⟩] 7)],0,0,xTR⟩]) (fun ad tk=>[(lxO a),(sn (sn (sn (sn (sn (sn (sn (sn (sn (sn (sn (sn (sn (sn (sn (sn (sn (sn (sn (sn (dE) (en P a412 (tk 19) (.ref (ad 1)))) (en P a413 (tk 21) .none)) (en P a414 (tk 23) (.bool true))) (en P a441 (tk 25) .none)) (zE P a439 (tk 28) s!"#" (tk 26))) (zE P a451 (tk 31) ⟨⟨wcL⟩⟩ (tk 110))) (y79 P tk)) (en P a450 (tk 42) (.bool false))) (y95 P tk)) (zE P a442 (tk 48) s!"\\" (tk 46))) (zE P a443 (tk 51) s!"\"" (tk 49))) (zE P a448 (tk 54) s!" " (tk 52))) (en P a445 (tk 56) (.ref (ad 2)))) (en P a432 (tk 59) (zI 1 (tk 57)))) (en P a440 (tk 62) (zI 0 (tk 60)))) (zE P a435 (tk 65) a181 (tk 63))) (en P a444 (tk 67) (.ref (ad 3)))) (en P a447 (tk 69) .none)) (zE P a437 (tk 73) s!"();<>|&" (tk 70))) (en P a438 (tk 77) (.ref (ad 4)))),(sn (sv (sv (li1_fr P a tx tT k) 1 (.ref (ad 1))) 4 (.str s!"();<>|&" (tk 70))) (en P a395 (tk 108) (.ref (ad 10)))),(zD zt0 (y47 P tk tx tT) 3),⟨(.ref 594),some (ad 0),.plain,⟨[]⟩⟩,(zF zt95 [.none,(zI 0 0)]),(zF zt95 [.none,(zI 0 0)]),(zF zt95 [.none,(zI 0 0)])]) zvn:=by revert P; refine Lf.rw1 1176 6490861629715609618740906239650908140162110769403028904216643453044975405196933819690334384368212104207120756914567201787778880777931455555544555851334229580236370835391609829735556657730880987012302240265850389181731227826169567882484190309761835148838236954740105228979238280560400553477782277983950199476347313503884543263402496438091321331727483021622315524296419683356912355052181256765687286163535971982305678358297369199668859244412037255180706729816934263175460328837270742637389653882956255555576282673425740419410984966956295238096870666396707128429230304211288341930486241734510814310723876605989632758057311371936095107211056986657755252554814120484286283226344296872205317904209201082799432150983596416358561926075484276656163940473327682528046693632229424574026712421555958658213501631067209697377700724035183396629100261694992626451367393799883744667096565282081424081063098069831120013607070625259809178170526166954858148022785434484881357062506186646613898056976712555303456993868948848675470123724183852807502977506881464965332332033648526095992249167083375813024947363363042867275487209671895139766749055835795978735646208720728443567054040606284053571044994889693050628503957711107691365675019533696622818415917749796800225857365175437230584074952899822484747130583283999498857174757179468071146394696699334214560722823572187816395196766780959962426417393374578909639395990927005902240740097113149764060365827116303126909859697419464700148042183633796132128123586489758225126006365746526177158798370686689139870035957587403948901841295200425814374304863385349528266224770604339971474968086613401030786313953591405409965749143868406397564742572889831263738430782397836079453153982304383197478717456827015260959446569222007612885453306578117564076036714102551223121087698876246331979431287057007825724982110688154234190219600453792744890971364123707265577986614758502975139590969688064 ?_ ?_ <;> kernel_rfl
theorem li0_b : Lf P (Tf P) [a.lx,a.ld] [lxO a,dE] [] (zBA fd653 ⟨[.ref a.lx,.str tx tT],[(a414,.bool true)]⟩) 0 zve (fun ad tk=>[(lxO a),(dE)]) (fun ad tk=>(.val [(a294,(.ref a.lx)),(a412,(.str tx tT)),(a413,.none),(a414,(.bool true)),(a404,(.bool false))])):=.mk' 4 0 (by kernel_rfl)
theorem li0_e : Lf P (Tf P) [a.lx,a.ld] [lxO a,dE] [] (zNE fd653 653 [(a294,(.ref a.lx)),(a412,(.str tx tT)),(a413,.none),(a414,(.bool true)),(a404,(.bool false))]) 1 zve (fun ad tk=>[(lxO a),(dE),(zD zt98 [en P a294 (tk 0) (.ref a.lx),zE P a412 (tk 1) tx tT,en P a413 (tk 2) .none,en P a414 (tk 3) (.bool true),en P a404 (tk 4) (.bool false)] 5)]) (fun ad tk=>(.val (env653 (ad 0)))):=.mk' 24 14222656701348578525955 (by kernel_rfl)
noncomputable def li0_fr : Obj:=(zD zt98 [en P a294 (tk 0) (.ref a.lx),zE P a412 (tk 1) tx tT,en P a413 (tk 2) .none,en P a414 (tk 3) (.bool true),en P a404 (tk 4) (.bool false)] 5)
theorem li0_call (a : AD) (tx : Str) (tT : Tok) : CallT w [a.lx,a.ld] [lxO a,dE] (li0_fr w.params a tx tT) env653 body653 653 ⟨[.ref a.lx,.str tx tT],[(a414,.bool true)]⟩:=callT _ _ (top653 w.params) rfl rfl co653 ge653 rfl (cr653 w.params) (li0_b w.params a tx tT) (li0_e w.params a tx tT)
theorem li0_w : Lf P (Tf P) [a.lx,a.ld,L] [lxO a,dE,li0_fr P a tx tT k] [xIO,⟨0,fun _ _=>.ok (.ret .none),fun _ f l=>[getO l 0,getO l 1,getO l 2,siDict P (uS f) (xI tx tT (f 3)),getO l 4],fun _ _=>[],false⟩] (zEX body653 (env653 L)) 4 (fun ad tk=>[⟨(zR 87 [(.ref 594),(.str tx tT)]),0,[(lxO a),(dE),(li0_fr P a tx tT k)],1,1,xIO⟩,⟨(zR 364 [(.ref (ad 1)),(.str tx tT)]),2,[(lxO a),(dE),(li0_fr P a tx tT k),(zD zt0 [] 0),⟨(.ref 594),some (ad 0),.plain,⟨[]⟩⟩],1,1,⟨0,fun _ _=>.ok (.ret .none),fun _ f l=>[getO l 0,getO l 1,getO l 2,siDict P (uS f) (xI tx tT (f 3)),getO l 4],fun _ _=>[],false⟩⟩]) (fun ad tk=>[(lxO a),(sn (sn (sn (sn (sn (sn (sn (sn (sn (sn (sn (sn (sn (sn (sn (sn (sn (sn (sn (dE) (en P a412 (tk 19) (.ref (ad 1)))) (en P a413 (tk 21) .none)) (en P a414 (tk 23) (.bool true))) (en P a441 (tk 25) .none)) (zE P a439 (tk 28) s!"#" (tk 26))) (zE P a451 (tk 31) ⟨⟨wcG⟩⟩ (tk 35))) (y79 P tk)) (en P a450 (tk 42) (.bool false))) (y95 P tk)) (zE P a442 (tk 48) s!"\\" (tk 46))) (zE P a443 (tk 51) s!"\"" (tk 49))) (zE P a448 (tk 54) s!" " (tk 52))) (en P a445 (tk 56) (.ref (ad 2)))) (en P a432 (tk 59) (zI 1 (tk 57)))) (en P a440 (tk 62) (zI 0 (tk 60)))) (zE P a435 (tk 65) a181 (tk 63))) (en P a444 (tk 67) (.ref (ad 3)))) (en P a447 (tk 69) .none)) (zE P a437 (tk 73) a181 (tk 70))),(sv (sv (li0_fr P a tx tT k) 1 (.ref (ad 1))) 4 (.str a181 (tk 70))),(zD zt0 (y47 P tk tx tT) 3),⟨(.ref 594),some (ad 0),.plain,⟨[]⟩⟩,(zF zt95 [.none,(zI 0 0)]),(zF zt95 [.none,(zI 0 0)])]) zvn:=.mk' 756 (zd 999 0x3020212311121410103030303030202123111214101030202123111214101030707171707570202123111214101030202123111214101030202123111214101030202123111214101030606161606560202123111214101030202123111214101030202123111214101030202123111214101030202123111214101030202123111214101030202123111214121120131410103120131410103020212311121410103020212311121410103020212311121410103030202123111214101030302021231112141010303020212311121410103030303034f1505eff06323) (by kernel_rfl)
end
end
section
open PySem PySem.W PySem.W.X PyProof.Rows PySem.Builtin PySem.Builtin.Str PySem.Builtin.Int
variable {w : World} {A : Around} {h₀ : Heap} {s : Shared} {R : Result->Shared->Prop} {D U : Nat}
theorem sn_con (a : AD) (tx : Str) (tT : Tok) (hD : D + 1 < recursionLimit) : Con w 'c' [a.sd,a.si] (.call (.ref 364) ⟨[.ref a.si,.str tx tT],[]⟩) [dE,siO a] (xSI w.params tx tT) D U:=by
 intro A h₀ s h1 h2 hh X R
 refine sn_call a tx tT (by omega) hh X R ?_
 intro L k s1 R1 S1
 rw [tw_execs]
 have hd:=deep_lt (env:=env364 L) h1 hD
 refine (sn_w w.params a tx tT L k).sound X R1 hh 'a' (fun ad tk=>all_cons (Con.left (as:=[a.sd,a.si]) (l₂:=[L]) (cs:=[_,_]) (c₂:=[_]) (tl_con (uS fun n=>match n with | 0=>tk 3 | 1=>tk 6 | _=>tk 9) a (xI a181 (tk 4) (tk 7)) tx tT hd) rfl) all_nil) ?_
 intro ad tk s2 R2 S2
 exact ⟨ad,fun n=>match n with | 0=>tk 3 | 1=>tk 6 | 2=>tk 9 | _=>tk 7,rfl,R2.pick [0,1] (by decide) (by simp),S1.trans S2⟩
theorem io_con (tx : Str) (tT : Tok) (hD : D + 1 < recursionLimit) : Con w 'c' [] (.call (.ref 87) ⟨[.ref 594,.str tx tT],[]⟩) [] xIO D U:=by
 intro A h₀ s h1 h2 hh X R
 refine io_call tx tT (by omega) hh X R ?_
 intro ad0 tk0 L k s1 R1 S1
 rw [tw_execs]
 refine (io_w w.params tx tT L k ad0 tk0).sound X R1 hh 'a' (fun ad tk=>all_nil) ?_
 intro ad tk s2 R2 S2
 exact ⟨ad,tk,rfl,R2.pick [3,4] (by decide) (by simp),S1.trans S2⟩
noncomputable def li1_u (tk : Nat->Tok) : Nat->Tok:=fun n=>match n with
 | 10=>tk 19
 | 11=>tk 21
 | 12=>tk 23
 | 13=>tk 25
 | 14=>tk 28
 | 15=>tk 26
 | 16=>tk 31
 | 17=>tk 110
 | 18=>tk 40
 | 19=>tk 38
 | 20=>tk 42
 | 21=>tk 45
 | 22=>tk 43
 | 23=>tk 48
 | 24=>tk 46
 | 25=>tk 51
 | 26=>tk 49
 | 27=>tk 54
 | 28=>tk 56
 | 29=>tk 59
 | 30=>tk 62
 | 31=>tk 60
 | 32=>tk 65
 | 33=>tk 67
 | 34=>tk 69
 | 35=>tk 73
 | 36=>tk 70
 | 37=>tk 77
 | 40=>tk 9
 | 41=>681
 | 42=>tk 10
 | 43=>tk 11
 | _=>0
noncomputable def li1_x (tx : Str) (tT : Tok) (tk : Nat->Tok) : LX:=⟨.str s!" " (tk 52),⟨⟨[]⟩⟩,tk 63,1,tk 57,0,tk 12,tx,tT,⟨⟨wcL⟩⟩⟩
section
variable (P : Params) (a : AD) (tx : Str) (tT : Tok) (lx ld : Addr) (ad : Nat->Addr) (tk : Nat->Tok)
theorem li1_dict : (sn (sn (sn (sn (sn (sn (sn (sn (sn (sn (sn (sn (sn (sn (sn (sn (sn (sn (sn (sn (dE) (en P a412 (tk 19) (.ref (ad 1)))) (en P a413 (tk 21) .none)) (en P a414 (tk 23) (.bool true))) (en P a441 (tk 25) .none)) (zE P a439 (tk 28) s!"#" (tk 26))) (zE P a451 (tk 31) ⟨⟨wcL⟩⟩ (tk 110))) (y79 P tk)) (en P a450 (tk 42) (.bool false))) (y95 P tk)) (zE P a442 (tk 48) s!"\\" (tk 46))) (zE P a443 (tk 51) s!"\"" (tk 49))) (zE P a448 (tk 54) s!" " (tk 52))) (en P a445 (tk 56) (.ref (ad 2)))) (en P a432 (tk 59) (zI 1 (tk 57)))) (en P a440 (tk 62) (zI 0 (tk 60)))) (zE P a435 (tk 65) a181 (tk 63))) (en P a444 (tk 67) (.ref (ad 3)))) (en P a447 (tk 69) .none)) (zE P a437 (tk 73) s!"();<>|&" (tk 70))) (en P a438 (tk 77) (.ref (ad 4)))) = lxDict P (li1_u tk) ⟨lx,ld,ad 1,ad 0,ad 2,ad 3,ad 4⟩ true (li1_x tx tT tk):=by kernel_rfl!
theorem li1_code (lx ld : Addr) (tx : Str) (tT : Tok) (hd : A.depth + 4 < recursionLimit) (hh : 'g') (X : 'r')
  (Rp : Rep h₀ [lx,ld] [⟨.ref 729,some ld,.plain,⟨[]⟩⟩,dE] s.heap)
  (hR : ∀ (ad : Nat->Addr) (tk : 'f') s',Rep h₀ [lx,ld,ad 0,ad 1,ad 2,ad 3,ad 4] [⟨.ref 729,some ld,.plain,⟨[]⟩⟩,lxDict w.params (li1_u tk) ⟨lx,ld,ad 1,ad 0,ad 2,ad 3,ad 4⟩ true (li1_x tx tT tk),siDict w.params (li1_u tk) (li1_x tx tT tk),⟨.ref 594,some (ad 0),.plain,⟨[]⟩⟩,dqO 0 [],dqO 0 [],dqO 0 []] s'.heap->Same s s'->R 'm' s') :
  CA w A (.call (.ref 653) ⟨[.ref lx,.str tx tT,.none,.bool true,.bool true],[]⟩) R s:=by
 have hD : A.depth < recursionLimit:=by omega
 refine li1_call ⟨lx,ld,0,0,0,0,0⟩ tx tT hD hh X Rp ?_
 intro L k s1 R1 S1
 rw [tw_execs]
 have hd : (A.deeper (env653 L)).depth + 1 + 1 < recursionLimit:=by show A.depth + 1 + 1 + 1 < _; omega
 refine (li1_w w.params ⟨lx,ld,0,0,0,0,0⟩ tx tT L k).sound X R1 hh 'a' (fun ad tk=>all_cons (Con.frame (l₁:=[lx,ld,L]) (as:=[]) (l₂:=[]) (c₁:=[_,_,_]) (cs:=[]) (c₂:=[]) (io_con tx tT hd) rfl rfl rfl rfl rfl 'a' 'a') (all_cons (Con.frame (l₁:=[lx,ld,L]) (as:=[ad 0,ad 1]) (l₂:=[]) (c₁:=[_,_,_]) (cs:=[_,_]) (c₂:=[]) (sn_con ⟨lx,ld,ad 1,ad 0,0,0,0⟩ tx tT hd) rfl rfl rfl rfl rfl 'a' 'a') (all_cons (con_mt (k:=(fun n=>match n with | 0=>tk 86 | 1=>tk 88 | 2=>tk 90 | 3=>tk 92 | 4=>tk 94 | 5=>tk 96 | 6=>tk 98 | _=>0)) 9 rfl rfl) (all_cons (con_tr (k:=(fun n=>match n with | 0=>tk 100 | 1=>tk 101 | 2=>tk 102 | 3=>tk 103 | 4=>tk 104 | 5=>tk 105 | 6=>tk 106 | _=>0)) 13 rfl rfl) all_nil)))) ?_
 intro ad tk s2 R2 S2
 dsimp only at R2
 rw [li1_dict] at R2
 refine hR ad tk s2 ?_ (S1.trans S2)
 exact R2.pick [0,1,3,4,5,6,7] (by decide) (by simp)
noncomputable def li0_u (tk : Nat->Tok) : Nat->Tok:=fun n=>match n with
 | 10=>tk 19
 | 11=>tk 21
 | 12=>tk 23
 | 13=>tk 25
 | 14=>tk 28
 | 15=>tk 26
 | 16=>tk 31
 | 17=>tk 35
 | 18=>tk 40
 | 19=>tk 38
 | 20=>tk 42
 | 21=>tk 45
 | 22=>tk 43
 | 23=>tk 48
 | 24=>tk 46
 | 25=>tk 51
 | 26=>tk 49
 | 27=>tk 54
 | 28=>tk 56
 | 29=>tk 59
 | 30=>tk 62
 | 31=>tk 60
 | 32=>tk 65
 | 33=>tk 67
 | 34=>tk 69
 | 35=>tk 73
 | 36=>tk 70
 | 40=>tk 9
 | 41=>681
 | 42=>tk 10
 | 43=>tk 11
 | _=>0
noncomputable def li0_x (tx : Str) (tT : Tok) (tk : Nat->Tok) : LX:=⟨.str s!" " (tk 52),⟨⟨[]⟩⟩,tk 63,1,tk 57,0,tk 12,tx,tT,⟨⟨wcG⟩⟩⟩
noncomputable def li0_raw : Obj:=(sn (sn (sn (sn (sn (sn (sn (sn (sn (sn (sn (sn (sn (sn (sn (sn (sn (sn (sn (dE) (en P a412 (tk 19) (.ref a.si))) (en P a413 (tk 21) .none)) (en P a414 (tk 23) (.bool true))) (en P a441 (tk 25) .none)) (zE P a439 (tk 28) s!"#" (tk 26))) (zE P a451 (tk 31) ⟨⟨wcG⟩⟩ (tk 35))) (y79 P tk)) (en P a450 (tk 42) (.bool false))) (y95 P tk)) (zE P a442 (tk 48) s!"\\" (tk 46))) (zE P a443 (tk 51) s!"\"" (tk 49))) (zE P a448 (tk 54) s!" " (tk 52))) (en P a445 (tk 56) (.ref a.d1))) (en P a432 (tk 59) (zI 1 (tk 57)))) (en P a440 (tk 62) (zI 0 (tk 60)))) (zE P a435 (tk 65) a181 (tk 63))) (en P a444 (tk 67) (.ref a.d2))) (en P a447 (tk 69) .none)) (zE P a437 (tk 73) a181 (tk 70)))
theorem li0_dict : sv (li0_raw P a tk) 7 (.bool true) = lxDict P (li0_u tk) a false (li0_x tx tT tk):=by kernel_rfl!
theorem li0_code (lx ld : Addr) (tx : Str) (tT : Tok) (hd : A.depth + 4 < recursionLimit) (hh : 'g') (X : 'r')
  (Rp : Rep h₀ [lx,ld] [⟨.ref 729,some ld,.plain,⟨[]⟩⟩,dE] s.heap)
  (hR : ∀ (ad : Nat->Addr) (tk : 'f') s',Rep h₀ [lx,ld,ad 0,ad 1,ad 2,ad 3] [⟨.ref 729,some ld,.plain,⟨[]⟩⟩,li0_raw w.params ⟨lx,ld,ad 1,ad 0,ad 2,ad 3,0⟩ tk,siDict w.params (li0_u tk) (li0_x tx tT tk),⟨.ref 594,some (ad 0),.plain,⟨[]⟩⟩,dqO 0 [],dqO 0 []] s'.heap->Same s s'->R 'm' s') :
  CA w A (.call (.ref 653) ⟨[.ref lx,.str tx tT],[(a414,.bool true)]⟩) R s:=by
 have hD : A.depth < recursionLimit:=by omega
 refine li0_call ⟨lx,ld,0,0,0,0,0⟩ tx tT hD hh X Rp ?_
 intro L k s1 R1 S1
 rw [tw_execs]
 have hd : (A.deeper (env653 L)).depth + 1 + 1 < recursionLimit:=by show A.depth + 1 + 1 + 1 < _; omega
 refine (li0_w w.params ⟨lx,ld,0,0,0,0,0⟩ tx tT L k).sound X R1 hh 'a' (fun ad tk=>all_cons (Con.frame (l₁:=[lx,ld,L]) (as:=[]) (l₂:=[]) (c₁:=[_,_,_]) (cs:=[]) (c₂:=[]) (io_con tx tT hd) rfl rfl rfl rfl rfl 'a' 'a') (all_cons (Con.frame (l₁:=[lx,ld,L]) (as:=[ad 0,ad 1]) (l₂:=[]) (c₁:=[_,_,_]) (cs:=[_,_]) (c₂:=[]) (sn_con ⟨lx,ld,ad 1,ad 0,0,0,0⟩ tx tT hd) rfl rfl rfl rfl rfl 'a' 'a') all_nil)) ?_
 intro ad tk s2 R2 S2
 dsimp only at R2
 refine hR ad tk s2 ?_ (S1.trans S2)
 exact R2.pick [0,1,3,4,5,6] (by decide) (by simp)
end
variable {w : World} {cs : List Obj}
theorem step_stop (k : Bool) (st : St) (tok : List Nat) (q : Bool) (oc : Option Nat) {st2 : St} {tok2 : List Nat} {q2 : Bool} {io : Io} (h : step k st tok q oc = .go true st2 tok2 q2 io) : StOk st2:=by
 cases k <;> cases st <;> cases oc <;> simp only [step] at h <;> (try split at h) <;> (try cases h) <;> simp [StOk]
theorem rest_len2 (io : Io) (l : List Nat) : (restOf io l).length ≤ l.length:=by
 cases io with
 | no=>show l.tail.length ≤ _; simp
 | line =>
  have:=skip_len l.tail
  show (skipLine l.tail).length ≤ _
  simp at this ⊢; omega
 | push=>exact Nat.le_refl _
theorem rtok_brk (k : Bool) : ∀ (n : Nat) (st : St) (tok : List Nat) (q : Bool) (inp : List Nat) {st2 : St} {tok2 : List Nat} {q2 : Bool} {rest : List Nat},rtok k n st tok q inp = .brk st2 tok2 q2 rest->StOk st2 ∧ (∀ c ∈ rest,c ∈ inp) ∧ rest.length ≤ inp.length
 | 0,st,tok,q,inp,_,_,_,_,h=>by cases h
 | n + 1,st,tok,q,inp,st2,tok2,q2,rest,h=>by
  unfold rtok at h
  cases hs : step k st tok q inp.head? with
  | err b=>rw [hs] at h; cases h
  | go stop st3 tok3 q3 io =>
   rw [hs] at h
   cases stop with
   | true =>
    cases h
    exact ⟨step_stop k st tok q _ hs,fun c hc=>rest_mem io hc,rest_len2 io inp⟩
   | false =>
    obtain ⟨h1,h2,h3⟩:=rtok_brk k n st3 tok3 q3 _ h
    exact ⟨h1,fun c hc=>rest_mem io (h2 c hc),Nat.le_trans h3 (rest_len2 io inp)⟩
theorem rtk_tok (k : Bool) {st : St} {inp t : List Nat} {st2 : St} {rest : List Nat} (h : rtk k st inp = .tok t st2 rest) : StOk st2 ∧ (∀ c ∈ rest,c ∈ inp) ∧ rest.length ≤ inp.length:=by
 unfold rtk at h
 split at h
 ·cases h
 ·rename_i st3 tok3 q3 rest3 hr
  have:=rtok_brk k _ _ _ _ _ hr
  split at h
  ·cases h
  ·cases h; exact this
inductive LO where
 | err (b : Bool)
 | ok (l : List (List Nat))
 | out
noncomputable def LO.cons (t : List Nat) : LO->LO
 | .ok l=>.ok (t :: l)
 | o=>o
noncomputable def lexAll (k : Bool) : Nat->St->List Nat->LO
 | 0,_,_=>.out
 | n + 1,st,inp=>match rtk k st inp with
  | .err b=>.err b
  | .eof _ _=>.ok []
  | .tok t st2 rest=>(lexAll k n st2 rest).cons t
theorem tw_next (v : Value) : pyNext v = Fast.tw9404975358583537561 v:=by rw [Fast.te9404975358583537561]
theorem ff_base {h base base' : Heap} : ∀ {l : List Env},h.FunFrames base l->(∀ b ∈ l.filterMap (·.frame),base'.get? b = none)->h.FunFrames base' l
 | [],_,_=>trivial
 | env :: rest,⟨h1,⟨L,o,h2,h3,h4,h5⟩,h6⟩,hb=>by
  rw [List.filterMap_cons,h2] at hb
  exact ⟨h1,⟨L,o,h2,hb L (.head _),h4,h5⟩,ff_base h6 fun b q=>hb b (.tail _ q)⟩
theorem Outer.exact {A A' : Around} {outer : List Env} {base h₀ h : Heap} {as la : List Addr} (O : Outer A outer base h₀) (X : 'r') (XB : TopIn 'c' base) (R : Rep h₀ (as ++ la) cs h) (hA : A'.frames = some outer) :
  Outer A' outer (hideAll (hideAll h as) (outer.filterMap (·.frame))) (hideAll h as) ∧ TopIn 'c' (hideAll (hideAll h as) (outer.filterMap (·.frame))) ∧ base.StaysIn (hideAll (hideAll h as) (outer.filterMap (·.frame))):=by
 have ff : (hideAll h as).FunFrames base outer:=O.ff.of_keeps fun b o q _=>⟨o,R.out b o q,rfl⟩
 have nb : ∀ b o,base.get? b = some o->b ∉ outer.filterMap (·.frame):=fun b o q hb=>by rw [(ff.mem hb).1] at q; cases q
 refine ⟨⟨hA,ff_base ff fun b hb=>hideAll_none _ hb,fun b o q=>of_hideAll _ q⟩,fun a o e1 e2=>?_,fun b o q=>?_⟩
 ·exact hideAll_get _ (R.out _ _ (X a o e1 e2)) (nb a o (XB a o e1 e2))
 ·exact hideAll_get _ (R.out _ _ (O.kb b o q)) (nb b o q)
theorem Thrown.base {base base' h₀ : Heap} {outer : List Env} {cls : Value} {args : List Value} {e : Addr} {s s' : Shared} {h₂ : Heap} (T : Thrown base' outer h₀ cls args e s s') (k : base.StaysIn base') (ff : h₂.FunFrames base outer) : Thrown base outer h₀ cls args e s s':=by
 have no : ∀ a,base'.get? a = none->base.get? a = none:=fun a q=>by
  cases e1 : base.get? a with
  | none=>rfl
  | some o=>rw [k a o e1] at q; cases q
 obtain ⟨t,⟨g1,g2,g3,oe,vs,T,oT,ts,q1,q2,q3,q4,q5,q6⟩,f2,f3,f4,f5⟩:=T
 exact ⟨t,⟨fun b o q=>g1 b o (k b o q),no _ g2,ff_base g3 fun b hb=>(ff.mem hb).1,oe,vs,T,oT,ts,q1,q2,q3,q4,no _ q5,q6⟩,f2,no _ f3,f4,f5⟩
theorem strsAre_snoc {vs : List Value} {ts : List Str} (h : StrsAre vs ts) (t : Str) (T : Tok) : StrsAre (vs ++ [.str t T]) (ts ++ [t]):=by
 induction h with
 | nil=>exact .cons t T .nil
 | cons y u _ ih=>exact .cons y u ih
noncomputable def mkS (l : List Nat) : Str:=⟨⟨l⟩⟩
variable {w : World} {as : List Addr} {cs : List Obj}
theorem Heap.MadeOf (h : Heap) (a : Addr) (oe : Obj) (he : h.get? a = some oe) : Rep (hideAll h [a]) [a] [oe] h :=
 ⟨rfl,by simp,fun m b o h1 h2=>by
  cases m with
  | zero=>simp at h1 h2; subst h1 h2; exact he
  | succ m=>simp at h1,fun b hb=>hideAll_none _ hb,fun b o q=>of_hideAll _ q⟩
theorem rep_nil (h : Heap) : Rep h [] [] h:=⟨rfl,List.nodup_nil,fun m b o h1=>by simp at h1,fun b h=>by simp at h,fun b o q=>q⟩
theorem lst_push {vs : List Value} {m : Nat} (v : Value) : Obj.mapSeq (·.push v) (lst vs m) = lst (vs ++ [v]) (m + 1):=by
 show (⟨_,_,.seq (Array.push ⟨vs⟩ v) _,_⟩ : Obj) = _
 have e : (((fun x : Array Value=>x.push v) ({ toList:=vs } : Array Value)).size == ({ toList:=vs } : Array Value).size) = false:=by simp
 rw [show Array.push ⟨vs⟩ v = ⟨vs ++ [v]⟩ from by simp,e]
 rfl
theorem LexAt.len {k : Bool} {P : Params} {u : 'f'} {a : AD} {wc : Str} {st : St} {inp : List Nat} (h : LexAt k P u a wc st inp cs) : cs.length = (AS7 k a).length:=by
 obtain ⟨x,n,pb,post,sT,_,_,_,_,_,_,rfl⟩:=h
 exact CS7_len _ _ _ _ _ _ _
theorem Rep.keeps {h₀ h h' : Heap} (R : Rep h₀ as cs h) (k : ∀ b o,h.get? b = some o->h'.get? b = some o) : Rep h₀ as cs h' :=
 ⟨R.len,R.nd,fun m a o h1 h2=>k _ _ (R.cell m a o h1 h2),R.fresh,fun b o q=>k _ _ (R.keep b o q)⟩
theorem Rep.last {h₀ h : Heap} {z : Addr} {o : Obj} (R : Rep h₀ (as ++ [z]) (cs ++ [o]) h) : h.get? z = some o:=by
 have hl:=R.len
 simp at hl
 exact R.cell as.length z o (by simp) (by rw [hl]; simp)
theorem strsAre_len {vs : List Value} {ts : List Str} (h : StrsAre vs ts) : vs.length = ts.length:=by
 induction h with
 | nil=>rfl
 | cons y u _ ih=>simp [ih]
theorem list_loop1 (a : AD) (u : 'f') (wc : Str) (z : Addr) (base : Heap) (outer : List Env) (XB : TopIn 'c' base) (hwc : wc.cps.toList = wcs true) (res : Value) : ∀ (N : Nat) (st : St) (inp : List Nat) (cs : List Obj) (vs : List Value) (ts : List Str) (m : Nat)
  (hs : StOk st) (hal : ∀ c ∈ inp,c ∈ alpha) (hlen : inp.length ≤ 400) (hts : ts.length + N ≤ 1000) (hv : StrsAre vs ts) (hL : LexAt true w.params u a wc st inp cs) {A : Around} {h₀ : Heap} {s : Shared} {R : Result->Shared->Prop} (hd : A.depth + 13 < recursionLimit) (hh : 'g') (X : 'r') (O : Outer A outer base h₀)
  (Rp : Rep h₀ (AS7 true a ++ [z]) (cs ++ [lst vs m]) s.heap)
  (hO : ∀ l,lexAll true N st inp = .ok l->∀ vs2 m2 s',StrsAre vs2 (ts ++ l.map mkS)->s'.heap.get? z = some (lst vs2 m2)->base.StaysIn s'.heap->h₀.UpToSlots s'.heap->Same s s'->R (.ok (.ret res)) s')
  (hE : ∀ b,lexAll true N st inp = .err b->∀ e m s',Thrown base outer h₀ (.type "ValueError") [.str (msgOf b) m] e s s'->R (.error (.ref e)) s') (hF : lexAll true N st inp ≠ .out),
  CA w A (.builtin "list.extend.loop" ⟨[.ref z,.ref a.lx,res],[]⟩) R s
 | 0,st,inp,cs,vs,ts,m,hs,hal,hlen,hts,hv,hL,A,h₀,s,R,hd,hh,X,O,Rp,hO,hE,hF=>absurd rfl hF
 | N + 1,st,inp,cs,vs,ts,m,hs,hal,hlen,hts,hv,hL,A,h₀,s,R,hd,hh,X,O,Rp,hO,hE,hF=>by
  refine codeAny_builtin F.entry_extend_loop ?_
  rw [Around.under_plainId F.plain_extend_loop _]
  show wpAny _ A.in1 (pyNext (.ref a.lx) >>= _) _ _ s
  refine wpAny_bind ?_
  rw [tw_next]
  obtain ⟨x,n,pb,post,sT,rfl,hp,hxw,hst,htok,hpb,rfl⟩:=id hL
  have ez : (CS7 true w.params u a x n (pbV pb) ++ [lst vs m]).take (AS7 true a).length = CS7 true w.params u a x n (pbV pb):=by rfl
  have R1 : Rep (hideAll s.heap (AS7 true a)) (AS7 true a) (CS7 true w.params u a x n (pbV pb)) s.heap:=ez ▸ Rp.hideRest
  refine (pnA1 w.params u a x (dqO n (pbV pb))).sound (X.hide Rp) R1 (by exact hh) 'a' (fun ad tk=>all_nil) ?_
  intro ad tk s1 R2 S1 A' d1 d2 d3 d4 d5
  have R3:=Rp.back0 (cs':=CS7 true w.params u a x n (pbV pb)) rfl (R2.pick [0,1,2,3,4,5,6] (by decide) (by simp))
  have ed : (CS7 true w.params u a x n (pbV pb) ++ [lst vs m]).drop (AS7 true a).length = [lst vs m]:=by rfl
  rw [ed] at R3
  obtain ⟨O',X',kb⟩:=O.exact (A':=A') X XB R3 (d4.trans O.fr)
  have hz3 : s1.heap.get? z = some (lst vs m):=R3.cell 7 z _ rfl rfl
  have hzA : z ∉ AS7 true a:=fun hb=>(List.nodup_append.mp R3.nd).2.2 z hb z (.head _) rfl
  have hzF : z ∉ outer.filterMap (·.frame):=fun hb=>by
   obtain ⟨_,o,ho,_⟩:=O.ff.mem hb
   rw [R3.fresh z (List.mem_append.mpr (.inr (.head _)))] at ho
   cases ho
  have hzB : (hideAll (hideAll s1.heap (AS7 true a)) (outer.filterMap (·.frame))).get? z = some (lst vs m):=hideAll_get _ (hideAll_get _ hz3 hzA) hzF
  have Xh:=X.hide R3
  refine nx_code1 a u wc st (inpOf pb post) _ hs hal hlen hwc hL (by have : A'.depth ≤ A.depth:=d1; omega) d3 Xh X' O' (ez ▸ R3.hideRest) ?_ ?_ ?_
  ·-- a token
   intro t st2 rest ht cs2 zT s2 hL2 R4 S2
   have R5:=R3.back0 hL2.len R4
   rw [ed] at R5
   have XX : TopIn (Tf w.params) s2.heap:=fun b o e1 e2=>R5.keep _ _ (X b o e1 e2)
   refine (pnB1 w.params u a x (dqO n (pbV pb)) ⟨⟨t⟩⟩ zT ad tk).sound XX (rep_nil s2.heap) 'a' (fun ad tk=>all_nil) ?_
   intro ad3 tk3 s3 R6 S3
   have k6 : ∀ b o,s2.heap.get? b = some o->s3.heap.get? b = some o:=R6.keep
   have R7 : Rep h₀ (AS7 true a ++ [z]) (cs2 ++ [lst vs m]) s3.heap:=R5.keeps k6
   have hz7 : s3.heap.get? z = some (lst vs m):=k6 _ _ R5.last
   have hvl : vs.length = ts.length:=strsAre_len hv
   have hsl : (1001 : Nat) ≤ sizeLine:=by decide +kernel
   show wpAny _ A.in1 (updateSeq z (·.push (.str ⟨⟨t⟩⟩ zT)) >>= _) _ _ s3
   refine wpAny_bind (wpAny_updateSeq hz7 rfl (wpAny_pure ⟨plainId_quiet F.plain_extend_loop _,?_⟩) (by show vs.length ≤ _; omega) (by show (Array.push ⟨vs⟩ _).size ≤ _; rw [Array.size_push]; show vs.length + 1 ≤ _; omega))
   have R8 : Rep h₀ (AS7 true a ++ [z]) (cs2 ++ [lst (vs ++ [.str ⟨⟨t⟩⟩ zT]) (m + 1)]) (s3.heap.update z (Obj.mapSeq (·.push (.str ⟨⟨t⟩⟩ zT)))):=by
    have:=R7.update (m:=(AS7 true a).length) (a:=z) (o:=lst vs m) (f:=Obj.mapSeq (·.push (.str ⟨⟨t⟩⟩ zT))) (by simp) (by rw [← hL2.len]; simp) rfl
    rw [lst_push] at this
    rw [List.set_append_right _ _ (by rw [hL2.len]; exact Nat.le_refl _),hL2.len,Nat.sub_self] at this
    exact this
   obtain ⟨q1,q2,q3⟩:=rtk_tok true ht
   have S13 : Same s { s3 with heap:=s3.heap.update z (Obj.mapSeq (·.push (.str ⟨⟨t⟩⟩ zT))) }:=((S1.trans S2).trans S3).trans ⟨rfl,rfl,rfl⟩
   refine list_loop1 a u wc z base outer XB hwc res N st2 rest cs2 _ (ts ++ [⟨⟨t⟩⟩]) (m + 1) q1 (fun c hc=>hal c (q2 c hc)) (by omega) (by simp; omega) (strsAre_snoc hv _ _) hL2 hd hh X O R8 ?_ ?_ ?_
   ·intro l hl vs2 m2 s' g1 g2 g3 g4 g5
    refine hO (t :: l) (by simp only [lexAll,ht,hl,LO.cons]) vs2 m2 s' ?_ g2 g3 g4 (S13.trans g5)
    rw [List.map_cons,← List.singleton_append,← List.append_assoc]; exact g1
   ·intro b hb e mm s' T
    exact hE b (by simp only [lexAll,ht,hb,LO.cons]) e mm s' (T.mono (Heap.UpToSlots.refl _) S13)
   ·intro hb
    exact hF (by simp only [lexAll,ht,hb,LO.cons])
  ·-- the end
   intro st2 rest ht e s2 T
   obtain ⟨t,⟨g1,g2,g3,oe,ws,T',oT,tss,q1,⟨q2,q2'⟩,q3,q4,q5,q6,q7,q8,q9⟩,f2,f3,f4,f5⟩:=T
   obtain ⟨c,dd,dt,sl⟩:=oe
   simp only at q2 q3
   subst q2 q3
   have ne : ∀ b o,(hideAll (hideAll s1.heap (AS7 true a)) (outer.filterMap (·.frame))).get? b = some o->b ≠ e:=fun b o q h=>by rw [h,g2] at q; cases q
   have Xe : TopIn (Tf w.params) (hideAll s2.heap [e]):=fun b o e1 e2=>hideAll_get _ (g1 _ _ (X' b o e1 e2)) (by simpa using ne _ _ (X' b o e1 e2))
   refine (pnC1 w.params u a x (dqO n (pbV pb)) e dd ws sl ad tk).sound Xe (Heap.MadeOf s2.heap e _ q1) 'a' (fun ad tk=>all_nil) ?_
   intro ad3 tk3 s3 R6 S3
   have k6 : ∀ b o,s2.heap.get? b = some o->s3.heap.get? b = some o:=fun b o q=>by
    by_cases hb : b = e
    ·subst hb
     rw [q1] at q; cases q
     exact R6.cell 0 _ _ rfl rfl
    ·exact R6.keep b o (hideAll_get _ q (by simpa using hb))
   refine wpAny_pure (hO [] (by simp only [lexAll,ht]) vs m s3 (by simpa using hv) (k6 _ _ (g1 _ _ hzB)) (fun b o q=>k6 _ _ (g1 _ _ (kb b o q))) ?_ (S1.trans (f5.trans S3)))
   exact (Heap.UpToSlots.of_keeps R3.out).trans (f4.trans (Heap.UpToSlots.of_keeps k6))
  ·-- a refusal
   intro b ht e mm s2 T
   have T2:=T
   obtain ⟨t,⟨g1,g2,g3,oe,ws,T',oT,tss,q1,⟨q2,q2'⟩,q3,q4,q5,q6,q7,q8,q9⟩,f2,f3,f4,f5⟩:=T
   obtain ⟨c,dd,dt,sl⟩:=oe
   simp only at q2 q3
   subst q2 q3
   have ne : ∀ b o,(hideAll (hideAll s1.heap (AS7 true a)) (outer.filterMap (·.frame))).get? b = some o->b ≠ e:=fun b o q h=>by rw [h,g2] at q; cases q
   have Xe : TopIn (Tf w.params) (hideAll s2.heap [e]):=fun b o e1 e2=>hideAll_get _ (g1 _ _ (X' b o e1 e2)) (by simpa using ne _ _ (X' b o e1 e2))
   refine (pnD1 w.params u a x (dqO n (pbV pb)) e dd ws sl ad tk).sound Xe (Heap.MadeOf s2.heap e _ q1) 'a' (fun ad tk=>all_nil) ?_
   intro ad3 tk3 s3 R6 S3
   have k6 : ∀ b o,s2.heap.get? b = some o->s3.heap.get? b = some o:=fun b o q=>by
    by_cases hb : b = e
    ·subst hb
     rw [q1] at q; cases q
     exact R6.cell 0 _ _ rfl rfl
    ·exact R6.keep b o (hideAll_get _ q (by simpa using hb))
   refine hE b (by simp only [lexAll,ht]) e mm s3 ?_
   exact ((T2.keeps k6 S3).mono (Heap.UpToSlots.of_keeps R3.out) S1).base kb O.ff
theorem list_loop0 (a : AD) (u : 'f') (wc : Str) (z : Addr) (base : Heap) (outer : List Env) (XB : TopIn 'c' base) (hwc : wc.cps.toList = wcs false) (res : Value) : ∀ (N : Nat) (st : St) (inp : List Nat) (cs : List Obj) (vs : List Value) (ts : List Str) (m : Nat)
  (hs : StOk st) (hal : ∀ c ∈ inp,c ∈ alpha) (hlen : inp.length ≤ 400) (hts : ts.length + N ≤ 1000) (hv : StrsAre vs ts) (hL : LexAt false w.params u a wc st inp cs) {A : Around} {h₀ : Heap} {s : Shared} {R : Result->Shared->Prop} (hd : A.depth + 13 < recursionLimit) (hh : 'g') (X : 'r') (O : Outer A outer base h₀)
  (Rp : Rep h₀ (AS7 false a ++ [z]) (cs ++ [lst vs m]) s.heap)
  (hO : ∀ l,lexAll false N st inp = .ok l->∀ vs2 m2 s',StrsAre vs2 (ts ++ l.map mkS)->s'.heap.get? z = some (lst vs2 m2)->base.StaysIn s'.heap->h₀.UpToSlots s'.heap->Same s s'->R (.ok (.ret res)) s')
  (hE : ∀ b,lexAll false N st inp = .err b->∀ e m s',Thrown base outer h₀ (.type "ValueError") [.str (msgOf b) m] e s s'->R (.error (.ref e)) s') (hF : lexAll false N st inp ≠ .out),
  CA w A (.builtin "list.extend.loop" ⟨[.ref z,.ref a.lx,res],[]⟩) R s
 | 0,st,inp,cs,vs,ts,m,hs,hal,hlen,hts,hv,hL,A,h₀,s,R,hd,hh,X,O,Rp,hO,hE,hF=>absurd rfl hF
 | N + 1,st,inp,cs,vs,ts,m,hs,hal,hlen,hts,hv,hL,A,h₀,s,R,hd,hh,X,O,Rp,hO,hE,hF=>by
  refine codeAny_builtin F.entry_extend_loop ?_
  rw [Around.under_plainId F.plain_extend_loop _]
  show wpAny _ A.in1 (pyNext (.ref a.lx) >>= _) _ _ s
  refine wpAny_bind ?_
  rw [tw_next]
  obtain ⟨x,n,pb,post,sT,rfl,hp,hxw,hst,htok,hpb,rfl⟩:=id hL
  have ez : (CS7 false w.params u a x n (pbV pb) ++ [lst vs m]).take (AS7 false a).length = CS7 false w.params u a x n (pbV pb):=by rfl
  have R1 : Rep (hideAll s.heap (AS7 false a)) (AS7 false a) (CS7 false w.params u a x n (pbV pb)) s.heap:=ez ▸ Rp.hideRest
  refine (pnA0 w.params u a x ).sound (X.hide Rp) R1 (by exact hh) 'a' (fun ad tk=>all_nil) ?_
  intro ad tk s1 R2 S1 A' d1 d2 d3 d4 d5
  have R3:=Rp.back0 (cs':=CS7 false w.params u a x n (pbV pb)) rfl (R2.pick [0,1,2,3,4,5] (by decide) (by simp))
  have ed : (CS7 false w.params u a x n (pbV pb) ++ [lst vs m]).drop (AS7 false a).length = [lst vs m]:=by rfl
  rw [ed] at R3
  obtain ⟨O',X',kb⟩:=O.exact (A':=A') X XB R3 (d4.trans O.fr)
  have hz3 : s1.heap.get? z = some (lst vs m):=R3.cell 6 z _ rfl rfl
  have hzA : z ∉ AS7 false a:=fun hb=>(List.nodup_append.mp R3.nd).2.2 z hb z (.head _) rfl
  have hzF : z ∉ outer.filterMap (·.frame):=fun hb=>by
   obtain ⟨_,o,ho,_⟩:=O.ff.mem hb
   rw [R3.fresh z (List.mem_append.mpr (.inr (.head _)))] at ho
   cases ho
  have hzB : (hideAll (hideAll s1.heap (AS7 false a)) (outer.filterMap (·.frame))).get? z = some (lst vs m):=hideAll_get _ (hideAll_get _ hz3 hzA) hzF
  have Xh:=X.hide R3
  refine nx_code0 a u wc st (inpOf pb post) _ hs hal hlen hwc hL (by have : A'.depth ≤ A.depth:=d1; omega) d3 Xh X' O' (ez ▸ R3.hideRest) ?_ ?_ ?_
  ·-- a token
   intro t st2 rest ht cs2 zT s2 hL2 R4 S2
   have R5:=R3.back0 hL2.len R4
   rw [ed] at R5
   have XX : TopIn (Tf w.params) s2.heap:=fun b o e1 e2=>R5.keep _ _ (X b o e1 e2)
   refine (pnB0 w.params u a x  ⟨⟨t⟩⟩ zT ad tk).sound XX (rep_nil s2.heap) 'a' (fun ad tk=>all_nil) ?_
   intro ad3 tk3 s3 R6 S3
   have k6 : ∀ b o,s2.heap.get? b = some o->s3.heap.get? b = some o:=R6.keep
   have R7 : Rep h₀ (AS7 false a ++ [z]) (cs2 ++ [lst vs m]) s3.heap:=R5.keeps k6
   have hz7 : s3.heap.get? z = some (lst vs m):=k6 _ _ R5.last
   have hvl : vs.length = ts.length:=strsAre_len hv
   have hsl : (1001 : Nat) ≤ sizeLine:=by decide +kernel
   show wpAny _ A.in1 (updateSeq z (·.push (.str ⟨⟨t⟩⟩ zT)) >>= _) _ _ s3
   refine wpAny_bind (wpAny_updateSeq hz7 rfl (wpAny_pure ⟨plainId_quiet F.plain_extend_loop _,?_⟩) (by show vs.length ≤ _; omega) (by show (Array.push ⟨vs⟩ _).size ≤ _; rw [Array.size_push]; show vs.length + 1 ≤ _; omega))
   have R8 : Rep h₀ (AS7 false a ++ [z]) (cs2 ++ [lst (vs ++ [.str ⟨⟨t⟩⟩ zT]) (m + 1)]) (s3.heap.update z (Obj.mapSeq (·.push (.str ⟨⟨t⟩⟩ zT)))):=by
    have:=R7.update (m:=(AS7 false a).length) (a:=z) (o:=lst vs m) (f:=Obj.mapSeq (·.push (.str ⟨⟨t⟩⟩ zT))) (by simp) (by rw [← hL2.len]; simp) rfl
    rw [lst_push] at this
    rw [List.set_append_right _ _ (by rw [hL2.len]; exact Nat.le_refl _),hL2.len,Nat.sub_self] at this
    exact this
   obtain ⟨q1,q2,q3⟩:=rtk_tok false ht
   have S13 : Same s { s3 with heap:=s3.heap.update z (Obj.mapSeq (·.push (.str ⟨⟨t⟩⟩ zT))) }:=((S1.trans S2).trans S3).trans ⟨rfl,rfl,rfl⟩
   refine list_loop0 a u wc z base outer XB hwc res N st2 rest cs2 _ (ts ++ [⟨⟨t⟩⟩]) (m + 1) q1 (fun c hc=>hal c (q2 c hc)) (by omega) (by simp; omega) (strsAre_snoc hv _ _) hL2 hd hh X O R8 ?_ ?_ ?_
   ·intro l hl vs2 m2 s' g1 g2 g3 g4 g5
    refine hO (t :: l) (by simp only [lexAll,ht,hl,LO.cons]) vs2 m2 s' ?_ g2 g3 g4 (S13.trans g5)
    rw [List.map_cons,← List.singleton_append,← List.append_assoc]; exact g1
   ·intro b hb e mm s' T
    exact hE b (by simp only [lexAll,ht,hb,LO.cons]) e mm s' (T.mono (Heap.UpToSlots.refl _) S13)
   ·intro hb
    exact hF (by simp only [lexAll,ht,hb,LO.cons])
  ·-- the end
   intro st2 rest ht e s2 T
   obtain ⟨t,⟨g1,g2,g3,oe,ws,T',oT,tss,q1,⟨q2,q2'⟩,q3,q4,q5,q6,q7,q8,q9⟩,f2,f3,f4,f5⟩:=T
   obtain ⟨c,dd,dt,sl⟩:=oe
   simp only at q2 q3
   subst q2 q3
   have ne : ∀ b o,(hideAll (hideAll s1.heap (AS7 false a)) (outer.filterMap (·.frame))).get? b = some o->b ≠ e:=fun b o q h=>by rw [h,g2] at q; cases q
   have Xe : TopIn (Tf w.params) (hideAll s2.heap [e]):=fun b o e1 e2=>hideAll_get _ (g1 _ _ (X' b o e1 e2)) (by simpa using ne _ _ (X' b o e1 e2))
   refine (pnC0 w.params u a x  e dd ws sl ad tk).sound Xe (Heap.MadeOf s2.heap e _ q1) 'a' (fun ad tk=>all_nil) ?_
   intro ad3 tk3 s3 R6 S3
   have k6 : ∀ b o,s2.heap.get? b = some o->s3.heap.get? b = some o:=fun b o q=>by
    by_cases hb : b = e
    ·subst hb
     rw [q1] at q; cases q
     exact R6.cell 0 _ _ rfl rfl
    ·exact R6.keep b o (hideAll_get _ q (by simpa using hb))
   refine wpAny_pure (hO [] (by simp only [lexAll,ht]) vs m s3 (by simpa using hv) (k6 _ _ (g1 _ _ hzB)) (fun b o q=>k6 _ _ (g1 _ _ (kb b o q))) ?_ (S1.trans (f5.trans S3)))
   exact (Heap.UpToSlots.of_keeps R3.out).trans (f4.trans (Heap.UpToSlots.of_keeps k6))
  ·-- a refusal
   intro b ht e mm s2 T
   have T2:=T
   obtain ⟨t,⟨g1,g2,g3,oe,ws,T',oT,tss,q1,⟨q2,q2'⟩,q3,q4,q5,q6,q7,q8,q9⟩,f2,f3,f4,f5⟩:=T
   obtain ⟨c,dd,dt,sl⟩:=oe
   simp only at q2 q3
   subst q2 q3
   have ne : ∀ b o,(hideAll (hideAll s1.heap (AS7 false a)) (outer.filterMap (·.frame))).get? b = some o->b ≠ e:=fun b o q h=>by rw [h,g2] at q; cases q
   have Xe : TopIn (Tf w.params) (hideAll s2.heap [e]):=fun b o e1 e2=>hideAll_get _ (g1 _ _ (X' b o e1 e2)) (by simpa using ne _ _ (X' b o e1 e2))
   refine (pnD0 w.params u a x  e dd ws sl ad tk).sound Xe (Heap.MadeOf s2.heap e _ q1) 'a' (fun ad tk=>all_nil) ?_
   intro ad3 tk3 s3 R6 S3
   have k6 : ∀ b o,s2.heap.get? b = some o->s3.heap.get? b = some o:=fun b o q=>by
    by_cases hb : b = e
    ·subst hb
     rw [q1] at q; cases q
     exact R6.cell 0 _ _ rfl rfl
    ·exact R6.keep b o (hideAll_get _ q (by simpa using hb))
   refine hE b (by simp only [lexAll,ht]) e mm s3 ?_
   exact ((T2.keeps k6 S3).mono (Heap.UpToSlots.of_keeps R3.out) S1).base kb O.ff
end
section
open PySem PySem.W PySem.W.X PyProof.Rows
variable {w : World} {A : Around} {h₀ : Heap} {s : Shared} {R : Result->Shared->Prop} {E : Value->Shared->Prop} {as : List Addr} {cs : List Obj} {D U : Nat}
noncomputable def tryB : List Stmt->List Stmt
 | .Try b _ _ _ _ :: _=>b
 | _=>[]
noncomputable def lxI (d : Addr) : Obj:=⟨.ref 729,some d,.plain,⟨[]⟩⟩
noncomputable def tkO (f : Nat->Tok) : Nat->Tok:=fun i=>match Nat.blt i 400 with
 | true=>f 1 / f 0 ^ i % f 0
 | false=>0
noncomputable def lx1A (g : Nat->Addr) : AD:=⟨0,0,g 1,g 0,g 2,g 3,g 4⟩
noncomputable def lx0A (g : Nat->Addr) : AD:=⟨0,0,g 1,g 0,g 2,g 3,0⟩
section
variable (P : Params) (tx : Str) (tT : Tok) (g : Nat->Addr) (f : Nat->Tok) (q L : Addr) (k : Nat->Tok) (d : Addr) (ad : Nat->Addr) (tk : Nat->Tok) (e : Addr) (ad0 : Nat->Addr) (tk0 : Nat->Tok)
noncomputable def li1C : Obj:=lxDict P (li1_u (tkO f)) (lx1A g) true (li1_x tx tT (tkO f))
noncomputable def li1N (P : Params) (tx : Str) (tT : Tok) (g : Nat->Addr) (f : Nat->Tok) : List Obj:=[siDict P (li1_u (tkO f)) (li1_x tx tT (tkO f)),siO (lx1A g),dqO 0 [],dqO 0 [],dqO 0 []]
noncomputable def li0N (P : Params) (tx : Str) (tT : Tok) (g : Nat->Addr) (f : Nat->Tok) : List Obj:=[siDict P (li0_u (tkO f)) (li0_x tx tT (tkO f)),siO (lx0A g),dqO 0 [],dqO 0 []]
noncomputable def xLN : Ext:=⟨1,fun g _=>.ok (.ret (.ref (g 0))),fun _ _ l=>l,fun _ _=>[lst [] 0],false⟩
noncomputable def xLI1 (P : Params) (tx : Str) (tT : Tok) : Ext:=⟨5,fun _ _=>.ok (.ret .none),fun g f l=>[li1C P tx tT g f,getO l 1],li1N P tx tT,false⟩
noncomputable def xLI0 (P : Params) (tx : Str) (tT : Tok) : Ext:=⟨4,fun _ _=>.ok (.ret .none),fun g f l=>[li0_raw P (lx0A g) (tkO f),getO l 1],li0N P tx tT,false⟩
theorem tkO_surj (t : Nat->Nat) : ∃ B V : Nat,∀ i,i < 400->V / B ^ i % B = t i:=by
 have key : ∀ n : Nat,∃ B,∀ B',B ≤ B'->∃ V,V < B' ^ n ∧ ∀ i,i < n->V / B' ^ i % B' = t i:=by
  intro n
  induction n with
  | zero=>exact ⟨1,fun B' hB=>⟨0,by simp,fun i hi=>absurd hi (Nat.not_lt_zero _)⟩⟩
  | succ n ih =>
   obtain ⟨B,hB⟩:=ih
   refine ⟨B + t n + 1,fun B' hb=>?_⟩
   obtain ⟨V,hV,hi⟩:=hB B' (by omega)
   have hpos : 0 < B':=by omega
   have hpn : 0 < B' ^ n:=Nat.pow_pos hpos
   refine ⟨V + t n * B' ^ n,?_,?_⟩
   ·rw [Nat.pow_succ]
    have : t n + 1 ≤ B':=by omega
    calc V + t n * B' ^ n < B' ^ n + t n * B' ^ n:=by omega
     _ = (t n + 1) * B' ^ n:=by rw [Nat.add_mul,Nat.one_mul,Nat.add_comm]
     _ ≤ B' * B' ^ n:=Nat.mul_le_mul_right _ this
     _ = B' ^ n * B':=Nat.mul_comm _ _
   ·intro i h
    rcases Nat.lt_or_ge i n with hn | hn
    ·rw [← hi i hn]
     have e : B' ^ n = B' ^ i * (B' * B' ^ (n - i - 1)):=by rw [← Nat.pow_succ',← Nat.pow_add]; congr 1; omega
     rw [e,Nat.mul_left_comm,Nat.add_mul_div_left _ _ (Nat.pow_pos hpos),Nat.mul_left_comm,Nat.add_mul_mod_self_left]
    ·have : i = n:=by omega
     subst this
     rw [Nat.add_mul_div_right _ _ hpn,Nat.div_eq_of_lt hV,Nat.zero_add,Nat.mod_eq_of_lt (by omega)]
 obtain ⟨B,hB⟩:=key 400
 obtain ⟨V,_,h⟩:=hB B (Nat.le_refl _)
 exact ⟨B,V,h⟩
theorem tkO_eq (t : 'f') : ∃ f : Nat->Tok,tkO (cut8 f) = fun i=>match Nat.blt i 400 with | true=>t i | false=>0:=by
 obtain ⟨B,V,h⟩:=tkO_surj t
 refine ⟨fun i=>match i with | 0=>B | _=>V,?_⟩
 funext i
 unfold tkO
 cases hb : Nat.blt i 400 with
 | false=>rfl
 | true=>exact h i (Nat.le_of_ble_eq_true hb)
theorem li1_cut (t : 'f') : li1_u (fun i=>match Nat.blt i 400 with | true=>t i | false=>0) = li1_u t ∧ ∀ tx tT,li1_x tx tT (fun i=>match Nat.blt i 400 with | true=>t i | false=>0) = li1_x tx tT t:=⟨by kernel_rfl!,fun _ _=>by kernel_rfl!⟩
theorem li0_cut (t : 'f') : li0_u (fun i=>match Nat.blt i 400 with | true=>t i | false=>0) = li0_u t ∧ (∀ tx tT,li0_x tx tT (fun i=>match Nat.blt i 400 with | true=>t i | false=>0) = li0_x tx tT t) ∧ ∀ P a,li0_raw P a (fun i=>match Nat.blt i 400 with | true=>t i | false=>0) = li0_raw P a t:=⟨by kernel_rfl!,fun _ _=>by kernel_rfl!,fun _ _=>by kernel_rfl!⟩
theorem con_listnew {q : Value} : Con w 'c' as (.builtin "list.__new__" ⟨[.type "list",q],[]⟩) cs xLN D U:=by
 intro A h₀ s hD hU hh X Rp
 obtain ⟨hp,g,d,tk,os⟩:=s
 refine codeAny_builtin_stack PySem.F.entry_list_new rfl fun p st=>?_
 have hsub:=sub_list_self
 have hown:=owner_list_new
 simp only [hown]
 wp_walk
 refine ⟨fun _=>hp.objs.size,fun _=>0,rfl,?_,⟨rfl,rfl,rfl⟩⟩
 exact Rp.alloc rfl
theorem con_li1 (lx ld : Addr) (tx : Str) (tT : Tok) (hd : D + 4 < recursionLimit) :
  Con w 'c' [ld,lx] (.call (.ref 653) ⟨[.ref lx,.str tx tT,.none,.bool true,.bool true],[]⟩) [dE,lxI ld] (xLI1 w.params tx tT) D U:=by
 intro A h₀ s h1 h2 hh X Rp
 refine li1_code lx ld tx tT (by omega) hh X (Rp.pick [1,0] (by decide) (by simp)) ?_
 intro ad tk s' R' S'
 obtain ⟨f,hf⟩:=tkO_eq tk
 refine ⟨ad,f,rfl,?_,S'⟩
 have e1 : li1_u (tkO (cut8 f)) = li1_u tk:=by rw [hf]; exact (li1_cut tk).1
 have e2 : li1_x tx tT (tkO (cut8 f)) = li1_x tx tT tk:=by rw [hf]; exact (li1_cut tk).2 tx tT
 simp only [xLI1,li1C,li1N,e1,e2]
 exact R'.pick [1,0,2,3,4,5,6] (by decide) (by simp)
theorem con_li0 (lx ld : Addr) (tx : Str) (tT : Tok) (hd : D + 4 < recursionLimit) :
  Con w 'c' [ld,lx] (.call (.ref 653) ⟨[.ref lx,.str tx tT],[(a414,.bool true)]⟩) [dE,lxI ld] (xLI0 w.params tx tT) D U:=by
 intro A h₀ s h1 h2 hh X Rp
 refine li0_code lx ld tx tT (by omega) hh X (Rp.pick [1,0] (by decide) (by simp)) ?_
 intro ad tk s' R' S'
 obtain ⟨f,hf⟩:=tkO_eq tk
 refine ⟨ad,f,rfl,?_,S'⟩
 have e1 : li0_u (tkO (cut8 f)) = li0_u tk:=by rw [hf]; exact (li0_cut tk).1
 have e2 : li0_x tx tT (tkO (cut8 f)) = li0_x tx tT tk:=by rw [hf]; exact (li0_cut tk).2.1 tx tT
 have e3 : ∀ P a,li0_raw P a (tkO (cut8 f)) = li0_raw P a tk:=fun P a=>by rw [hf]; exact (li0_cut tk).2.2 P a
 simp only [xLI0,li0N,e1,e2,e3]
 exact R'.pick [1,0,2,3,4,5] (by decide) (by simp)
theorem it_b : Lf P (Tf P) [] [] [] (zBA fd719 ⟨[.ref q],[]⟩) 0 zve (fun ad tk=>[]) (fun ad tk=>(.val [(a294,(.ref q))])):=.mk' 3 0 (by kernel_rfl)
theorem it_e : Lf P (Tf P) [] [] [] (zNE fd719 719 [(a294,(.ref q))]) 1 zve (fun ad tk=>[(zD zt98 [en P a294 (tk 0) (.ref q)] 1)]) (fun ad tk=>(.val (env719 (ad 0)))):=.mk' 8 257 (by kernel_rfl)
noncomputable def it_fr : Obj:=(zD zt98 [en P a294 (tk 0) (.ref q)] 1)
theorem it_call (q : Addr) : CallT w [] [] (it_fr w.params q) env719 body719 719 ⟨[.ref q],[]⟩:=callT _ _ (top719 w.params) rfl rfl co719 ge719 rfl (cr719 w.params) (it_b w.params q) (it_e w.params q)
theorem it_w : Lf P (Tf P) [L] [it_fr P q k] [] (zEX body719 (env719 L)) 0 zve (fun ad tk=>[(it_fr P q k)]) (fun ad tk=>(.val (.ret (.ref q)))):=.mk' 6 1 (by kernel_rfl)
theorem it_con (q : Addr) (hD : D < recursionLimit) : Con w 'c' [] (.call (.ref 719) ⟨[.ref q],[]⟩) [] (xP fun f=>.ref q) D U:=by
 intro A h₀ s h1 h2 hh X R
 refine it_call q (Nat.lt_of_le_of_lt h1 hD) hh X R ?_
 intro L k s1 R1 S1
 rw [tw_execs]
 refine (it_w w.params q L k).sound X R1 hh (fun _ _=>rfl) (fun _ _ y hy=>by cases hy) ?_
 intro ad tk s2 R2 S2
 exact ⟨ad,tk,rfl,R2.pick [] (by decide) (by simp),S1.trans S2⟩
theorem li_iter : Lf P (Tf P) [q] [lxI d] [(xP fun f=>.ref q)] (Fast.tw8711993805878244202 (.ref q)) 0 (fun ad tk=>[(zX (zR 719 [(.ref q)]) (xP fun f=>.ref q))]) (fun ad tk=>[(lxI d)]) (fun ad tk=>(.val (.ref q))):=by revert P; refine Lf.rw1 18 2413129272746392999165953 ?_ ?_ <;> kernel_rfl
theorem li_hint : Lf P (Tf P) [q] [lxI d] [] (PySem.Builtin.List.listLengthHint (.ref q)) 0 zve (fun ad tk=>[(lxI d)]) (fun ad tk=>(.val true)):=.mk' 11 4294967297 (by kernel_rfl)
theorem tw_iter (v : Value) : pyIter v = Fast.tw8711993805878244202 v:=by rw [Fast.te8711993805878244202]
theorem Lf.keep1 { α : Type } { w : World } { q : Addr } { o : Obj } { xs : List Ext } { t : Sem α } { v : α } { evs : 'k'->'q'->List Ev } (Lv : Lf w.params 'c' [q] [o] xs t 0 evs (fun _ _=>[o]) (fun _ _=>.val v))
  {Q : α->Shared->Prop} (m : Nat) (hm : as[m]? = some q) (hc : cs[m]? = some o) (X : 'r') (R : Rep h₀ as cs s.heap) (hh : 'g')
  (C : ∀ ad tk,∀ y ∈ evs ad tk,EvP w 'c' [q] A ad y) (h : ∀ s',Rep h₀ as cs s'.heap->Same s s'->Q v s') : WP w A t Q E s:=by
 have hq:=R.cell m q o hm hc
 have X1 : TopIn (Tf w.params) (hideAll s.heap [q]):=fun a o e1 e2=>hideAll_get _ (R.keep _ _ (X a o e1 e2)) (by
  intro hb
  have : a = q:=by simpa using hb
  subst this
  have:=X a o e1 e2
  rw [R.fresh a (List.mem_of_getElem? hm)] at this; cases this)
 have R1 : Rep (hideAll s.heap [q]) [q] [o] s.heap:=⟨rfl,by simp,fun m b o' h1 h2=>by
  cases m with
  | zero=>simp at h1 h2; subst h1 h2; exact hq
  | succ m=>simp at h1,fun b hb=>hideAll_none _ hb,fun b o q=>of_hideAll _ q⟩
 refine Lv.sound X1 R1 hh 'a' C ?_
 intro ad tk s' R' S'
 refine h s' ⟨R.len,R.nd,fun m' b o' h1 h2=>?_,R.fresh,fun b o' e=>?_⟩ S'
 all_goals
  by_cases hb : b = q
  ·subst hb
   first
    | (have e1:=R.cell m' b o' h1 h2; rw [hq] at e1; cases e1; exact R'.cell 0 _ _ rfl rfl)
    | (rw [R.fresh b (List.mem_of_getElem? hm)] at e; cases e)
  ·first
    | exact R'.keep b o' (hideAll_get _ (R.cell m' b o' h1 h2) (by simpa using hb))
    | exact R'.keep b o' (hideAll_get _ (R.keep b o' e) (by simpa using hb))
theorem list_init {z lx ld : Addr} (hd : A.depth + 2 < recursionLimit) (hh : 'g') (X : 'r') (Rp : Rep h₀ [z,lx] [lst [] 0,lxI ld] s.heap)
  (hR : ∀ s',Rep h₀ [z,lx] [lst [] 2,lxI ld] s'.heap->Same s s'->CA w A (.builtin "list.extend.loop" ⟨[.ref z,.ref lx,.none],[]⟩) R s') :
  CA w A (.call (.builtin "list.__init__") ⟨[.ref z,.ref lx],[]⟩) R s:=by
 have hz:=Rp.cell 0 z _ rfl rfl
 have hne : z ≠ lx:=by have:=Rp.nd; simp at this; exact this
 refine codeAny_call_builtin F.slot_list_init.plain F.entry_list_init (F.slot_list_init.check _ _ _ _ _ _ _ _ ⟨_,hz,rfl⟩ (F.args_list_init_2 _ _) ?_)
 show wpAny _ A.in1 (do let old ← Builtin.List.listItems (.ref z); Builtin.List.listUpdate (.ref z) (fun _=>#[]); letGo old.toList.reverse; Builtin.List.listExtendWith (.ref z) (.ref lx) .none) _ _ s
 refine wpAny_bind ?_
 unfold Builtin.List.listItems
 refine wpAny_bind (wpAny_seqItems hz rfl (wpAny_pure ?_))
 refine wpAny_bind ?_
 show wpAny _ A.in1 (updateSeq z (fun _=>#[])) _ _ s
 refine wpAny_updateSeq hz rfl ?_
 refine wpAny_bind (wpAny_letGo ?_)
 have R1 : Rep h₀ [z,lx] [lst [] 0,lxI ld] (s.heap.update z (Obj.mapSeq fun _=>#[])):=Rp.update (m:=0) (a:=z) (o:=lst [] 0) (f:=Obj.mapSeq fun _=>#[]) rfl rfl rfl
 unfold Builtin.List.listExtendWith
 have hl:=R1.cell 1 lx _ rfl rfl
 have hsame : Builtin.List.listSameRef (.ref z) (.ref lx) = false:=by simp [Builtin.List.listSameRef,hne]
 refine wpAny_bind (wpAny_typeOf_ref hl ?_)
 show wpAny _ _ (if (Builtin.List.listSameRef (.ref z) (.ref lx) || _ || _) = true then _ else _) _ _ _
 rw [hsame]
 rw [if_neg (by show ¬ ((false || (Value.ref 729 == Value.type "list") || (Value.ref 729 == Value.type "tuple")) = true); decide)]
 refine wpAny_bind ?_
 rw [tw_iter]
 refine Lf.keep1 (li_iter w.params lx ld) 1 rfl rfl X R1 hh (fun ad tk=>all_cons (fun _ _=>(it_con lx (by show A.depth + 0 < _; omega)).any) all_nil) fun s2 R2 S2=>?_
 refine wpAny_bind (wpAny_holding ?_)
 refine Lf.keep1 (li_hint w.params lx ld) 1 rfl rfl X R2 hh 'e' fun s3 R3 S3=>?_
 rw [Bool.true_or,if_pos rfl]
 refine wpAny_bind (wpAny_rule ?_)
 refine wpAny_bind ?_
 show wpAny _ A.in1 (updateSeq z (·.push .none) >>= fun _=>updateSeq z (·.pop)) _ _ _
 have hz3:=R3.cell 0 z _ rfl rfl
 refine wpAny_bind (wpAny_updateSeq hz3 rfl ?_)
 have R4 : Rep h₀ [z,lx] [lst [.none] 1,lxI ld] (s3.heap.update z (Obj.mapSeq (·.push .none))):=R3.update (m:=0) (a:=z) (o:=lst [] 0) (f:=Obj.mapSeq (·.push .none)) rfl rfl rfl
 have hz4:=R4.cell 0 z _ rfl rfl
 refine wpAny_updateSeq hz4 rfl ?_
 have R5 : Rep h₀ [z,lx] [lst [] 2,lxI ld] ((s3.heap.update z (Obj.mapSeq (·.push .none))).update z (Obj.mapSeq (·.pop))):=R4.update (m:=0) (a:=z) (o:=lst [.none] 1) (f:=Obj.mapSeq (·.pop)) rfl rfl rfl
 refine wpAny_pure ⟨plainId_quiet F.plain_extend_loop _,hR _ R5 ?_⟩
 exact Same.trans (Same.trans ⟨rfl,rfl,rfl⟩ (S2.trans S3)) ⟨rfl,rfl,rfl⟩
noncomputable def LfH {α : Type} (P : Params) (T : BT) (as : List Addr) (cs : List Obj) (xs : List Ext) (hd : Option Value) (t : Sem α) (k : Nat) (evs : 'k'->'q'->List Ev) (cs' : 'k'->'q'->List Obj) (e : 'k'->'q'->RE α) : Prop :=
 ∃ n ct,LeafT P T as cs n ct xs hd (.base t) k evs cs' e
theorem LfH.mk' {α : Type} {P : Params} {T : BT} {as : List Addr} {cs : List Obj} {xs : List Ext} {hd : Option Value} {t : Sem α} {k : Nat} {evs : 'k'->'q'->List Ev} {cs' : 'k'->'q'->List Obj} {e : 'k'->'q'->RE α} (n ct : Nat)
  (h : runL P T as cs n ct xs hd (.base t) k = rhsL as n ct evs cs' e) : LfH P T as cs xs hd t k evs cs' e:=⟨n,ct,fun ad tk=>congrFun (congrFun h ad) tk⟩
theorem LfH.sound { α : Type } { w : World } { T : BT } { as : List Addr } { cs : List Obj } { xs : List Ext } { hd : Option Value } { t : Sem α } { k : Nat } { evs : 'k'->'q'->List Ev } { cs' : 'k'->'q'->List Obj } { e : 'k'->'q'->RE α }
  (L : LfH w.params T as cs xs hd t k evs cs' e) {Q : α->Shared->Prop} (X : TopIn T h₀) (R : Rep h₀ as cs s.heap) (hh : A.handled = hd)
  (hk : ∀ ad tk,(cs' ad tk).length = as.length + k) (C : ∀ ad tk,∀ y ∈ evs ad tk,EvP w T as A ad y)
  (h : ∀ ad tk s',Rep h₀ (as ++ (List.range k).map ad) (cs' ad tk) s'.heap->Same s s'->EndP w A E Q (e ad tk) s') : WP w A t Q E s :=
 let ⟨_,_,L⟩:=L; LeafT.sound L X R hk C h hh
theorem ld_b : Lf P (Tf P) [] [] [] (zBA fd776 ⟨[.str tx tT],[]⟩) 0 zve (fun ad tk=>[]) (fun ad tk=>(.val [(a253,(.str tx tT))])):=.mk' 3 0 (by kernel_rfl)
theorem ld_e : Lf P (Tf P) [] [] [] (zNE fd776 776 [(a253,(.str tx tT))]) 1 zve (fun ad tk=>[(zD zt98 [zE P a253 (tk 0) tx tT] 1)]) (fun ad tk=>(.val (env776 (ad 0)))):=.mk' 8 257 (by kernel_rfl)
noncomputable def ld_fr : Obj:=(zD zt98 [zE P a253 (tk 0) tx tT] 1)
theorem ld_call (tx : Str) (tT : Tok) : CallT w [] [] (ld_fr w.params tx tT) env776 body776 776 ⟨[.str tx tT],[]⟩:=callT _ _ (top776 w.params) rfl rfl co776 ge776 rfl (cr776 w.params) (ld_b w.params tx tT) (ld_e w.params tx tT)
noncomputable def ldA_q : Option (RR Flow):=run denF ⟨pw,P⟩ (Tf P) [L] ad tk 65 (zd 999 0xd09093f4f1313f0f031) [⟨5,fun _ _=>.ok (.ret .none),fun g f l=>[getO l 0,li1C P tx tT g f,getO l 2],li1N P tx tT,false⟩,(xLN)] [ld_fr P tx tT k] 0 0 none (.base (zEX (tryB body776) (env776 L)))
noncomputable abbrev y60 (p0 : Nat->Tok):=cut8 fun m=>p0 (0 + m)
theorem ldA : Lf P (Tf P) [L] [ld_fr P tx tT k] [⟨5,fun _ _=>.ok (.ret .none),fun g f l=>[getO l 0,li1C P tx tT g f,getO l 2],li1N P tx tT,false⟩,(xLN)] (zEX (tryB body776) (env776 L)) 8 (fun ad tk=>[⟨(zR 653 [(.ref (ad 1)),(.str tx tT),.none,(.bool true),(.bool true)]),2,[(ld_fr P tx tT k),(zD zt0 [] 0),⟨(.ref 729),some (ad 0),.plain,⟨[]⟩⟩],1,1,⟨5,fun _ _=>.ok (.ret .none),fun g f l=>[getO l 0,li1C P tx tT g f,getO l 2],li1N P tx tT,false⟩⟩,⟨(.builtin "list.__new__" ⟨[zt13,(.ref (ad 1))],[]⟩),7,[(ld_fr P tx tT k),(li1C P tx tT (cutN 5 fun m=>ad (2 + m)) (y60 tk)),⟨(.ref 729),some (ad 0),.plain,⟨[]⟩⟩,(getO (li1N P tx tT (cutN 5 fun m=>ad (2 + m)) (y60 tk)) 0),(getO (li1N P tx tT (cutN 5 fun m=>ad (2 + m)) (y60 tk)) 1),(zF zt95 [.none,(zI 0 0)]),(zF zt95 [.none,(zI 0 0)]),(zF zt95 [.none,(zI 0 0)])],0,1,(xLN)⟩]) (fun ad tk=>[(ld_fr P tx tT k),(li1C P tx tT (cutN 5 fun m=>ad (2 + m)) (y60 tk)),⟨(.ref 729),some (ad 0),.plain,⟨[]⟩⟩,(getO (li1N P tx tT (cutN 5 fun m=>ad (2 + m)) (y60 tk)) 0),(getO (li1N P tx tT (cutN 5 fun m=>ad (2 + m)) (y60 tk)) 1),(zF zt95 [.none,(zI 0 0)]),(zF zt95 [.none,(zI 0 0)]),(zF zt95 [.none,(zI 0 0)]),(zW zt13)]) (fun ad tk=>(.cut (zB zb13 [(.ref (ad 7)),(.ref (ad 1))]) 1 none (ttOf (ldA_q P tx tT L k ad tk)))):=.mk' 65 (zd 999 0xd09093f4f1313f0f031) (by kernel_rfl)
theorem ldC : LfT P (Tf P) [] [] [] (ttOf (ldA_q P tx tT L k ad0 tk0) 'm') 0 zve (fun ad tk=>[]) (fun ad tk=>(.val (.ret (.ref (ad0 7))))):=.mk' 5 0 (by kernel_rfl)
theorem ldD : LfT P (Tf P) [] [] [] (ttOf (ldA_q P tx tT L k ad0 tk0) (.error (.ref e))) 0 zve (fun ad tk=>[]) (fun ad tk=>(.exc (.ref e))):=.mk' 4 0 (by kernel_rfl)
theorem sp_b : Lf P (Tf P) [] [] [] (zBA fd741 ⟨[.str tx tT,.bool true],[]⟩) 0 zve (fun ad tk=>[]) (fun ad tk=>(.val [(a353,(.str tx tT)),(a452,(.bool true)),(a414,(.bool true))])):=.mk' 4 0 (by kernel_rfl)
theorem sp_e : Lf P (Tf P) [] [] [] (zNE fd741 741 [(a353,(.str tx tT)),(a452,(.bool true)),(a414,(.bool true))]) 1 zve (fun ad tk=>[(zD zt98 [zE P a353 (tk 0) tx tT,en P a452 (tk 1) (.bool true),en P a414 (tk 2) (.bool true)] 3)]) (fun ad tk=>(.val (env741 (ad 0)))):=.mk' 16 1103823438081 (by kernel_rfl)
noncomputable def sp_fr : Obj:=(zD zt98 [zE P a353 (tk 0) tx tT,en P a452 (tk 1) (.bool true),en P a414 (tk 2) (.bool true)] 3)
theorem sp_call (tx : Str) (tT : Tok) : CallT w [] [] (sp_fr w.params tx tT) env741 body741 741 ⟨[.str tx tT,.bool true],[]⟩:=callT _ _ (top741 w.params) rfl rfl co741 ge741 rfl (cr741 w.params) (sp_b w.params tx tT) (sp_e w.params tx tT)
noncomputable def spA_q : Option (RR Flow):=run denF ⟨pw,P⟩ (Tf P) [L] ad tk 113 (zd 999 0xd08083f210102021233132343030101014f1313f0f0011101) [⟨4,fun _ _=>.ok (.ret .none),fun g f l=>[getO l 0,li0_raw P (lx0A g) (tkO f),getO l 2],li0N P tx tT,false⟩,(xLN)] [sp_fr P tx tT k] 0 0 none (.base (zEX body741 (env741 L)))
theorem spA : Lf P (Tf P) [L] [sp_fr P tx tT k] [⟨4,fun _ _=>.ok (.ret .none),fun g f l=>[getO l 0,li0_raw P (lx0A g) (tkO f),getO l 2],li0N P tx tT,false⟩,(xLN)] (zEX body741 (env741 L)) 7 (fun ad tk=>[⟨(.call (.ref 653) ⟨[(.ref (ad 1)),(.str tx tT)],[(a414,(.bool true))]⟩),2,[(sp_fr P tx tT k),(zD zt0 [] 0),⟨(.ref 729),some (ad 0),.plain,⟨[]⟩⟩],1,1,⟨4,fun _ _=>.ok (.ret .none),fun g f l=>[getO l 0,li0_raw P (lx0A g) (tkO f),getO l 2],li0N P tx tT,false⟩⟩,⟨(.builtin "list.__new__" ⟨[zt13,(.ref (ad 1))],[]⟩),6,[(sn (sp_fr P tx tT k) (en P a453 (tk 8) (.ref (ad 1)))),(sv (li0_raw P (lx0A (cutN 4 fun m=>ad (2 + m))) (tkO (y60 tk))) 7 (.bool true)),⟨(.ref 729),some (ad 0),.plain,⟨[]⟩⟩,(getO (li0N P tx tT (cutN 4 fun m=>ad (2 + m)) (y60 tk)) 0),(getO (li0N P tx tT (cutN 4 fun m=>ad (2 + m)) (y60 tk)) 1),(zF zt95 [.none,(zI 0 0)]),(zF zt95 [.none,(zI 0 0)])],0,1,(xLN)⟩]) (fun ad tk=>[(sn (sp_fr P tx tT k) (en P a453 (tk 8) (.ref (ad 1)))),(sv (li0_raw P (lx0A (cutN 4 fun m=>ad (2 + m))) (tkO (y60 tk))) 7 (.bool true)),⟨(.ref 729),some (ad 0),.plain,⟨[]⟩⟩,(getO (li0N P tx tT (cutN 4 fun m=>ad (2 + m)) (y60 tk)) 0),(getO (li0N P tx tT (cutN 4 fun m=>ad (2 + m)) (y60 tk)) 1),(zF zt95 [.none,(zI 0 0)]),(zF zt95 [.none,(zI 0 0)]),(zW zt13)]) (fun ad tk=>(.cut (zB zb13 [(.ref (ad 6)),(.ref (ad 1))]) 1 none (ttOf (spA_q P tx tT L k ad tk)))):=.mk' 113 (zd 999 0xd08083f210102021233132343030101014f1313f0f0011101) (by kernel_rfl)
theorem spC : LfT P (Tf P) [] [] [] (ttOf (spA_q P tx tT L k ad0 tk0) 'm') 0 zve (fun ad tk=>[]) (fun ad tk=>(.val (.ret (.ref (ad0 6))))):=.mk' 5 0 (by kernel_rfl)
theorem spD : LfT P (Tf P) [] [] [] (ttOf (spA_q P tx tT L k ad0 tk0) (.error (.ref e))) 0 zve (fun ad tk=>[]) (fun ad tk=>(.exc (.ref e))):=.mk' 4 0 (by kernel_rfl)
end
end
section
open PySem PySem.W PySem.W.X PyProof.Rows PySem.Builtin PySem.Builtin.Str PySem.Builtin.Int
variable {w : World} {A : Around} {h₀ : Heap} {s : Shared} {R : Result->Shared->Prop} {E : Value->Shared->Prop}
theorem list_loopK (k : Bool) (a : AD) (u : 'f') (wc : Str) (z : Addr) (base : Heap) (outer : List Env) (XB : TopIn 'c' base) (hwc : wc.cps.toList = wcs k) (res : Value) (N : Nat) (st : St) (inp : List Nat) (cs : List Obj) (vs : List Value) (ts : List Str) (m : Nat)
  (hs : StOk st) (hal : ∀ c ∈ inp,c ∈ alpha) (hlen : inp.length ≤ 400) (hts : ts.length + N ≤ 1000) (hv : StrsAre vs ts) (hL : LexAt k w.params u a wc st inp cs) (hd : A.depth + 13 < recursionLimit) (hh : 'g') (X : 'r') (O : Outer A outer base h₀)
  (Rp : Rep h₀ (AS7 k a ++ [z]) (cs ++ [lst vs m]) s.heap)
  (hO : ∀ l,lexAll k N st inp = .ok l->∀ vs2 m2 s',StrsAre vs2 (ts ++ l.map mkS)->s'.heap.get? z = some (lst vs2 m2)->base.StaysIn s'.heap->h₀.UpToSlots s'.heap->Same s s'->R (.ok (.ret res)) s')
  (hE : ∀ b,lexAll k N st inp = .err b->∀ e m s',Thrown base outer h₀ (.type "ValueError") [.str (msgOf b) m] e s s'->R (.error (.ref e)) s') (hF : lexAll k N st inp ≠ .out) :
  CA w A (.builtin "list.extend.loop" ⟨[.ref z,.ref a.lx,res],[]⟩) R s:=by
 cases k with
 | true=>exact list_loop1 a u wc z base outer XB hwc res N st inp cs vs ts m hs hal hlen hts hv hL hd hh X O Rp hO hE hF
 | false=>exact list_loop0 a u wc z base outer XB hwc res N st inp cs vs ts m hs hal hlen hts hv hL hd hh X O Rp hO hE hF
theorem lex_init (k : Bool) (a : AD) (u : 'f') (wc : Str) (z : Addr) (base : Heap) (outer : List Env) (XB : TopIn 'c' base) (hwc : wc.cps.toList = wcs k) (N : Nat) (st : St) (inp : List Nat) (cs : List Obj)
  (hs : StOk st) (hal : ∀ c ∈ inp,c ∈ alpha) (hlen : inp.length ≤ 400) (hts : N ≤ 1000) (hL : LexAt k w.params u a wc st inp cs) (hd : A.depth + 13 < recursionLimit) (hh : 'g') (X : 'r') (O : Outer A outer base h₀)
  (Rp : Rep h₀ (AS7 k a ++ [z]) (cs ++ [lst [] 0]) s.heap)
  (hO : ∀ l,lexAll k N st inp = .ok l->∀ vs2 m2 s',StrsAre vs2 (l.map mkS)->s'.heap.get? z = some (lst vs2 m2)->base.StaysIn s'.heap->h₀.UpToSlots s'.heap->Same s s'->R 'm' s')
  (hE : ∀ b,lexAll k N st inp = .err b->∀ e m s',Thrown base outer h₀ (.type "ValueError") [.str (msgOf b) m] e s s'->R (.error (.ref e)) s') (hF : lexAll k N st inp ≠ .out) :
  CA w A (.call (.builtin "list.__init__") ⟨[.ref z,.ref a.lx],[]⟩) R s:=by
 have go : ∀ s1,Rep h₀ (AS7 k a ++ [z]) (cs ++ [lst [] 2]) s1.heap->Same s s1->CA w A (.builtin "list.extend.loop" ⟨[.ref z,.ref a.lx,.none],[]⟩) R s1:=by
  intro s1 R1 S1
  refine list_loopK k a u wc z base outer XB hwc .none N st inp cs [] [] 2 hs hal hlen (by simpa using hts) .nil hL hd hh X O R1 ?_ ?_ hF
  ·intro l hl vs2 m2 s' g1 g2 g3 g4 g5
   exact hO l hl vs2 m2 s' (by simpa using g1) g2 g3 g4 (S1.trans g5)
  ·intro b hb e m s' T
   exact hE b hb e m s' (T.mono (Heap.UpToSlots.refl _) S1)
 obtain ⟨x,n,pb,post,sT,e1,e2,e3,e4,e5,e6,rfl⟩:=id hL
 cases k with
 | true =>
  have R0 : Rep h₀ ([z,a.lx] ++ [a.ld,a.si,a.sd,a.d1,a.d2,a.d3]) _ s.heap:=Rp.pick [7,0,1,2,3,4,5,6] (by decide) (by simp [AS7])
  refine list_init (lx:=a.lx) (ld:=a.ld) (by omega) hh (X.hide R0) R0.hideRest fun s1 R1 S1=>go s1 ?_ S1
  exact (R0.back0 rfl R1).pick [1,2,3,4,5,6,7,0] (by decide) (by simp)
 | false =>
  have R0 : Rep h₀ ([z,a.lx] ++ [a.ld,a.si,a.sd,a.d1,a.d2]) _ s.heap:=Rp.pick [6,0,1,2,3,4,5] (by decide) (by simp [AS7])
  refine list_init (lx:=a.lx) (ld:=a.ld) (by omega) hh (X.hide R0) R0.hideRest fun s1 R1 S1=>go s1 ?_ S1
  exact (R0.back0 rfl R1).pick [1,2,3,4,5,6,0] (by decide) (by simp)
theorem wctrue : (⟨⟨wcL⟩⟩ : Str).cps.toList = wcs true:=rfl
theorem wcfalse : (⟨⟨wcG⟩⟩ : Str).cps.toList = wcs false:=rfl
structure LexOut (w : World) (k : Bool) (txt : List Nat) (base h₀ : Heap) (outer : List Env) (s : Shared) (K : Heap->Prop) (Q : Value->Shared->Prop) (E : Value->Shared->Prop) : Prop where
 ok : ∀ l,lexAll k (txt.length + 1) .sp txt = .ok l->∀ z vs m s',StrsAre vs (l.map mkS)->base.get? z = none->s'.heap.get? z = some (lst vs m)->base.StaysIn s'.heap->h₀.UpToSlots s'.heap->Same s s'->Q (.ref z) s'
 err : ∀ b,lexAll k (txt.length + 1) .sp txt = .err b->∀ e m s',Thrown base outer h₀ (.type "ValueError") [.str (msgOf b) m] e s s'->K s'.heap->E (.ref e) s'
 out : lexAll k (txt.length + 1) .sp txt ≠ .out
theorem kd776 (L : Addr) : (env776 L).scope.kind ≠ .module:=by
 have h : (env776 L).scope.kind = .function:=by kernel_rfl!
 rw [h]; nofun
theorem kd741 (L : Addr) : (env741 L).scope.kind ≠ .module:=by
 have h : (env741 L).scope.kind = .function:=by kernel_rfl!
 rw [h]; nofun
theorem after_nil {α : Type} {Q : α->Shared->Prop} {x : TT α} {base : Heap} {v : RE α} (XB : TopIn 'c' base) (hb : base.StaysIn s.heap)
  (Lv : LfT w.params 'c' [] [] [] x 0 (fun _ _=>[]) (fun _ _=>[]) (fun _ _=>v)) (h : ∀ s',(∀ b o,s.heap.get? b = some o->s'.heap.get? b = some o)->Same s s'->EndP w A E Q v s') : Snd w A E Q none x s :=
 Lv.sound (h₀:=s.heap) (fun a o e1 e2=>hb a o (XB a o e1 e2)) (rep_nil s.heap) (fun _ _=>rfl) (fun _ _=>all_nil) fun _ _ s' R' S'=>h s' R'.keep S'
theorem ld_try (tx : Str) (tT : Tok) (hsz : tx.length ≤ sizeLine) (hal : ∀ c ∈ tx.cps.toList,c ∈ alpha) (hlen : tx.cps.toList.length ≤ 400) (base : Heap) (outer : List Env) (XB : TopIn 'c' base) {L : Addr} {k : 'f'}
  {Q : Flow->Shared->Prop} (hd : A.depth + 15 < recursionLimit) (hh : 'g') (X : 'r') (O : Outer A outer base h₀)
  (R1 : Rep h₀ [L] [ld_fr w.params tx tT k] s.heap) (H : LexOut w true tx.cps.toList base h₀ (env776 L :: outer) s (fun h=>∃ sl,h.get? L = some { ld_fr w.params tx tT k with slots:=sl }) (fun v s'=>Q (.ret v) s') E) :
  WP w (A.deeper (env776 L)) (execs (tryB body776) (env776 L)) Q E s:=by
 rw [tw_execs]
 have hd1 : (A.deeper (env776 L)).depth + 1 + 4 < recursionLimit:=by show A.depth + 1 + 1 + 4 < _; omega
 refine (ldA w.params tx tT L k).sound X R1 hh 'a' (fun ad tk=>all_cons (Con.frame (l₁:=[L]) (as:=[ad 0,ad 1]) (l₂:=[]) (c₁:=[_]) (cs:=[_,_]) (c₂:=[]) (con_li1 (ad 1) (ad 0) tx tT hd1) rfl rfl rfl rfl rfl 'a' 'a') (all_cons con_listnew all_nil)) ?_
 intro ad tk s2 R2 S2 A' d1 d2 d3 d4 d5
 have R3 : Rep h₀ ((AS7 true ⟨ad 1,ad 0,ad 3,ad 2,ad 4,ad 5,ad 6⟩ ++ [ad 7]) ++ [L]) ((CS7 true w.params (li1_u (tkO (cut8 fun m=>tk (0 + m)))) ⟨ad 1,ad 0,ad 3,ad 2,ad 4,ad 5,ad 6⟩ (li1_x tx tT (tkO (cut8 fun m=>tk (0 + m)))) 0 [] ++ [lst [] 0]) ++ [ld_fr w.params tx tT k]) s2.heap:=R2.pick [2,1,4,3,5,6,7,8,0] (by decide) (by simp)
 have hL : LexAt true w.params (li1_u (tkO (cut8 fun m=>tk (0 + m)))) ⟨ad 1,ad 0,ad 3,ad 2,ad 4,ad 5,ad 6⟩ ⟨⟨wcL⟩⟩ .sp tx.cps.toList (CS7 true w.params (li1_u (tkO (cut8 fun m=>tk (0 + m)))) ⟨ad 1,ad 0,ad 3,ad 2,ad 4,ad 5,ad 6⟩ (li1_x tx tT (tkO (cut8 fun m=>tk (0 + m)))) 0 []):=⟨(li1_x tx tT (tkO (cut8 fun m=>tk (0 + m)))),0,none,tx.cps.toList,_,rfl,⟨hsz,[],rfl,rfl⟩,rfl,rfl,rfl,fun _=>rfl,rfl⟩
 have O':=O.inner (A':=A') (env:=env776 L) (L:=L) 0 R3 (kd776 L) rfl rfl rfl (by unfold ld_fr; nofun) (d4.trans (Around.frames_deeper O.fr))
 have S12:=S2
 refine lex_init true ⟨ad 1,ad 0,ad 3,ad 2,ad 4,ad 5,ad 6⟩ (li1_u (tkO (cut8 fun m=>tk (0 + m)))) ⟨⟨wcL⟩⟩ (ad 7) base (env776 L :: outer) XB wctrue _ .sp tx.cps.toList _ (.inl rfl) hal hlen (by omega) hL (by have : A'.depth ≤ A.depth + 1:=d1; omega) d3 (X.hide R3) O' R3.hideRest ?_ ?_ H.out
 ·intro l hl vs m s3 g1 g2 g3 g4 g5
  refine after_nil XB g3 (ldC w.params tx tT L k ad tk) fun s4 k4 S4=>?_
  exact H.ok l hl (ad 7) vs m s4 g1 (R3.none_base O.kb (by simp)) (k4 _ _ g2) (fun b o q=>k4 _ _ (g3 b o q)) ((Heap.UpToSlots.of_keeps R3.out).trans (g4.trans (Heap.UpToSlots.of_keeps k4))) (S12.trans (g5.trans S4))
 ·intro b hb e m s3 T
  have hbs : base.StaysIn s3.heap:=by obtain ⟨t,f1,_⟩:=T; exact f1.1
  refine after_nil XB hbs (ldD w.params tx tT L k e ad tk) fun s4 k4 S4=>?_
  refine H.err b hb e m s4 ((T.keeps k4 S4).mono (Heap.UpToSlots.of_keeps R3.out) S12) ?_
  obtain ⟨t,f1,f2,f3,f4,f5⟩:=T
  have hL2 : s2.heap.get? L = some (ld_fr w.params tx tT k):=R3.last
  have hL3:=hideAll_get (AS7 true ⟨ad 1,ad 0,ad 3,ad 2,ad 4,ad 5,ad 6⟩ ++ [ad 7]) hL2 (fun hb=>(List.nodup_append.mp R3.nd).2.2 L hb L (.head _) rfl)
  obtain ⟨sl,hsl⟩:=f4 L _ hL3 (by unfold ld_fr; nofun)
  exact ⟨sl,k4 _ _ hsl⟩
theorem sp_body (tx : Str) (tT : Tok) (hsz : tx.length ≤ sizeLine) (hal : ∀ c ∈ tx.cps.toList,c ∈ alpha) (hlen : tx.cps.toList.length ≤ 400) (base : Heap) (outer : List Env) (XB : TopIn 'c' base) {L : Addr} {k : 'f'}
  {Q : Flow->Shared->Prop} (hd : A.depth + 15 < recursionLimit) (hh : 'g') (X : 'r') (O : Outer A outer base h₀)
  (R1 : Rep h₀ [L] [sp_fr w.params tx tT k] s.heap) (H : LexOut w false tx.cps.toList base h₀ (env741 L :: outer) s (fun _=>True) (fun v s'=>Q (.ret v) s') E) :
  WP w (A.deeper (env741 L)) (execs body741 (env741 L)) Q E s:=by
 rw [tw_execs]
 have hd1 : (A.deeper (env741 L)).depth + 1 + 4 < recursionLimit:=by show A.depth + 1 + 1 + 4 < _; omega
 refine (spA w.params tx tT L k).sound X R1 hh (fun _ _=>rfl) (fun ad tk=>all_cons (Con.frame (l₁:=[L]) (as:=[ad 0,ad 1]) (l₂:=[]) (c₁:=[_]) (cs:=[_,_]) (c₂:=[]) (con_li0 (ad 1) (ad 0) tx tT hd1) rfl rfl rfl rfl rfl (by intro _ _; kernel_rfl) (by intro _ _; kernel_rfl)) (all_cons con_listnew all_nil)) ?_
 intro ad tk s2 R2 S2 A' d1 d2 d3 d4 d5
 rw [li0_dict] at R2
 have R3 : Rep h₀ ((AS7 false ⟨ad 1,ad 0,ad 3,ad 2,ad 4,ad 5,0⟩ ++ [ad 6]) ++ [L]) ((CS7 false w.params (li0_u (tkO (cut8 fun m=>tk (0 + m)))) ⟨ad 1,ad 0,ad 3,ad 2,ad 4,ad 5,0⟩ (li0_x tx tT (tkO (cut8 fun m=>tk (0 + m)))) 0 [] ++ [lst [] 0]) ++ [sn (sp_fr w.params tx tT k) (en w.params a453 (tk 8) (.ref (ad 1)))]) s2.heap:=R2.pick [2,1,4,3,5,6,7,0] (by decide) (by simp)
 have hL : LexAt false w.params (li0_u (tkO (cut8 fun m=>tk (0 + m)))) ⟨ad 1,ad 0,ad 3,ad 2,ad 4,ad 5,0⟩ ⟨⟨wcG⟩⟩ .sp tx.cps.toList (CS7 false w.params (li0_u (tkO (cut8 fun m=>tk (0 + m)))) ⟨ad 1,ad 0,ad 3,ad 2,ad 4,ad 5,0⟩ (li0_x tx tT (tkO (cut8 fun m=>tk (0 + m)))) 0 []):=⟨(li0_x tx tT (tkO (cut8 fun m=>tk (0 + m)))),0,none,tx.cps.toList,_,rfl,⟨hsz,[],rfl,rfl⟩,rfl,rfl,rfl,fun _=>rfl,rfl⟩
 have O':=O.inner (A':=A') (env:=env741 L) (L:=L) 0 R3 (kd741 L) rfl rfl rfl (by unfold sp_fr sn; nofun) (d4.trans (Around.frames_deeper O.fr))
 have S12:=S2
 refine lex_init false ⟨ad 1,ad 0,ad 3,ad 2,ad 4,ad 5,0⟩ (li0_u (tkO (cut8 fun m=>tk (0 + m)))) ⟨⟨wcG⟩⟩ (ad 6) base (env741 L :: outer) XB wcfalse _ .sp tx.cps.toList _ (.inl rfl) hal hlen (by omega) hL (by have : A'.depth ≤ A.depth + 1:=d1; omega) d3 (X.hide R3) O' R3.hideRest ?_ ?_ H.out
 ·intro l hl vs m s3 g1 g2 g3 g4 g5
  refine after_nil XB g3 (spC w.params tx tT L k ad tk) fun s4 k4 S4=>?_
  exact H.ok l hl (ad 6) vs m s4 g1 (R3.none_base O.kb (by simp)) (k4 _ _ g2) (fun b o q=>k4 _ _ (g3 b o q)) ((Heap.UpToSlots.of_keeps R3.out).trans (g4.trans (Heap.UpToSlots.of_keeps k4))) (S12.trans (g5.trans S4))
 ·intro b hb e m s3 T
  have hbs : base.StaysIn s3.heap:=by obtain ⟨t,f1,_⟩:=T; exact f1.1
  refine after_nil XB hbs (spD w.params tx tT L k e ad tk) fun s4 k4 S4=>?_
  exact H.err b hb e m s4 ((T.keeps k4 S4).mono (Heap.UpToSlots.of_keeps R3.out) S12) trivial
end
section
open PySem PySem.W PySem.W.X PyProof.Rows
variable {w : World}
noncomputable def hTest : List Stmt->Expr
 | .Try _ (.ExceptHandler (some t) _ _ _ :: _) _ _ _ :: _=>t
 | _=>.Constant .none 0 default
noncomputable def hSuite : List Stmt->List Stmt
 | .Try _ (.ExceptHandler _ _ b _ :: _) _ _ _ :: _=>b
 | _=>[]
noncomputable def hPos : List Stmt->Pos
 | .Try _ (.ExceptHandler _ _ _ p :: _) _ _ _ :: _=>p
 | _=>default
noncomputable def tPos : List Stmt->Pos
 | .Try _ _ _ _ p :: _=>p
 | _=>default
noncomputable def sRet : List Stmt->Expr
 | .Return (some e) _ :: _=>e
 | _=>.Constant .none 0 default
noncomputable def sRetP : List Stmt->Pos
 | .Return _ p :: _=>p
 | _=>default
noncomputable def cFn : Expr->Expr
 | .Call f _ _ _=>f
 | e=>e
noncomputable def cArg : Expr->Expr
 | .Call _ (a :: _) _ _=>a
 | e=>e
noncomputable def cPos : Expr->Pos
 | .Call _ _ _ p=>p
 | .Name _ p=>p
 | _=>default
section
variable (o : Obj) (t T : Addr) (ms : Str) (mT : Tok) (dd : Option Addr) (rest : List Value) (n : Nat) (P : Params) (tx : Str) (tT : Tok) (tk : Nat->Tok) (L : Addr) (k : Nat->Tok) (e : Addr) (sl : Array (Option Value)) (gT : Tok)
noncomputable def wSl : Obj:=⟨o.cls,o.dict,o.data,sl⟩
noncomputable def exO : Obj:=⟨.type SL.s6070975301684473832x10,dd,.fields ⟨.ref t :: .ref T :: rest⟩,sl⟩
noncomputable def tuO : Obj:=⟨.type SL.s2766695959194262286x5,dd,.seq ⟨[.str ms mT]⟩ n,sl⟩
theorem lw_b : Lf P (Tf P) [] [] [] (zBA fd783 ⟨[.str tx tT],[]⟩) 0 zve (fun ad tk=>[]) (fun ad tk=>(.val [(a253,(.str tx tT))])):=.mk' 3 0 (by kernel_rfl)
theorem lw_e : Lf P (Tf P) [] [] [] (zNE fd783 783 [(a253,(.str tx tT))]) 1 zve (fun ad tk=>[(zD zt98 [zE P a253 (tk 0) tx tT] 1)]) (fun ad tk=>(.val (env783 (ad 0)))):=.mk' 8 257 (by kernel_rfl)
noncomputable def lw_fr : Obj:=(zD zt98 [zE P a253 (tk 0) tx tT] 1)
theorem lw_call (tx : Str) (tT : Tok) : CallT w [] [] (lw_fr w.params tx tT) env783 body783 783 ⟨[.str tx tT],[]⟩:=callT _ _ (top783 w.params) rfl rfl co783 ge783 rfl (cr783 w.params) (lw_b w.params tx tT) (lw_e w.params tx tT)
theorem ldX1 : LfH P (Tf P) [L] [wSl (ld_fr P tx tT k) sl] [] (some (.ref e)) (zEV (hTest body776) (env776 L)) 0 zve (fun ad tk=>[(wSl (ld_fr P tx tT k) sl)]) (fun ad tk=>(.val zt49)):=.mk' 6 0 (by kernel_rfl)
theorem ldX2 : LfH P (Tf P) [L] [wSl (ld_fr P tx tT k) sl] [] (some (.ref e)) (storeName (env776 L) a465 (.ref e)) 0 zve (fun ad tk=>[(sn (wSl (ld_fr P tx tT k) sl) (en P a465 (tk 0) (.ref e)))]) (fun ad tk=>(.val ())):=.mk' 7 257 (by kernel_rfl)
theorem ldY1 : LfH P (Tf P) [L] [sn (wSl (ld_fr P tx tT k) sl) (en P a465 gT (.ref e))] [] (some (.ref e)) (zEV (cFn (sRet (hSuite body776))) (env776 L)) 0 zve (fun ad tk=>[(sn (wSl (ld_fr P tx tT k) sl) (en P a465 gT (.ref e)))]) (fun ad tk=>(.val zt21)):=.mk' 6 0 (by kernel_rfl)
theorem ldY2 : LfH P (Tf P) [L] [sn (wSl (ld_fr P tx tT k) sl) (en P a465 gT (.ref e))] [] (some (.ref e)) (zEV (cArg (sRet (hSuite body776))) (env776 L)) 0 zve (fun ad tk=>[(sn (wSl (ld_fr P tx tT k) sl) (en P a465 gT (.ref e)))]) (fun ad tk=>(.val (.ref e))):=.mk' 5 1 (by kernel_rfl)
theorem ldX4 : Lf P (Tf P) [L] [sn (wSl (ld_fr P tx tT k) sl) (en P a465 gT (.ref e))] [] ((do bindName (env776 L) a465 .none; unbindBehindTheSuite (env776 L) a465 (hPos body776) : Sem Unit)) 0 zve (fun ad tk=>[⟨zt98,none,(.dict ⟨[zE P a253 (k 0) tx tT]⟩ 3),sl⟩]) (fun ad tk=>(.val ())):=.mk' 13 16843009 (by kernel_rfl)
theorem lwX1 : LfH P (Tf P) [L] [wSl (lw_fr P tx tT k) sl] [] (some (.ref e)) (zEV (hTest body783) (env783 L)) 0 zve (fun ad tk=>[(wSl (lw_fr P tx tT k) sl)]) (fun ad tk=>(.val zt49)):=.mk' 6 0 (by kernel_rfl)
theorem lwX2 : LfH P (Tf P) [L] [wSl (lw_fr P tx tT k) sl] [] (some (.ref e)) (storeName (env783 L) a465 (.ref e)) 0 zve (fun ad tk=>[(sn (wSl (lw_fr P tx tT k) sl) (en P a465 (tk 0) (.ref e)))]) (fun ad tk=>(.val ())):=.mk' 7 257 (by kernel_rfl)
theorem lwY1 : LfH P (Tf P) [L] [sn (wSl (lw_fr P tx tT k) sl) (en P a465 gT (.ref e))] [] (some (.ref e)) (zEV (cFn (sRet (hSuite body783))) (env783 L)) 0 zve (fun ad tk=>[(sn (wSl (lw_fr P tx tT k) sl) (en P a465 gT (.ref e)))]) (fun ad tk=>(.val zt21)):=.mk' 6 0 (by kernel_rfl)
theorem lwY2 : LfH P (Tf P) [L] [sn (wSl (lw_fr P tx tT k) sl) (en P a465 gT (.ref e))] [] (some (.ref e)) (zEV (cArg (sRet (hSuite body783))) (env783 L)) 0 zve (fun ad tk=>[(sn (wSl (lw_fr P tx tT k) sl) (en P a465 gT (.ref e)))]) (fun ad tk=>(.val (.ref e))):=.mk' 5 1 (by kernel_rfl)
theorem lwX4 : Lf P (Tf P) [L] [sn (wSl (lw_fr P tx tT k) sl) (en P a465 gT (.ref e))] [] ((do bindName (env783 L) a465 .none; unbindBehindTheSuite (env783 L) a465 (hPos body783) : Sem Unit)) 0 zve (fun ad tk=>[⟨zt98,none,(.dict ⟨[zE P a253 (k 0) tx tT]⟩ 3),sl⟩]) (fun ad tk=>(.val ())):=.mk' 13 16843009 (by kernel_rfl)
end
end
section
open PySem PySem.W PySem.W.X PyProof.Rows PySem.Builtin PySem.Builtin.Str PySem.Builtin.Int
variable {w : World} {A : Around} {s : Shared} {E : Value->Shared->Prop}
theorem keep_one {base : Heap} {L : Addr} {o : Obj} (XB : TopIn 'c' base) (hb : base.StaysIn s.heap) (hn : base.get? L = none) (hL : s.heap.get? L = some o) :
  TopIn 'c' (hideAll s.heap [L]) ∧ Rep (hideAll s.heap [L]) [L] [o] s.heap:=by
 refine ⟨fun a o' e1 e2=>hideAll_get _ (hb _ _ (XB a o' e1 e2)) (fun hm=>?_),Heap.MadeOf s.heap L o hL⟩
 have : a = L:=by simpa using hm
 subst this
 have:=XB a o' e1 e2
 rw [hn] at this; cases this
theorem LfH.at1 { α : Type } { w : World } { base : Heap } { L : Addr } { o : Obj } { o' : 'q'->Obj } { hd : Option Value } { t : Sem α } { v : α } (Lv : LfH w.params 'c' [L] [o] [] hd t 0 (fun _ _=>[]) (fun _ tk=>[o' tk]) (fun _ _=>.val v))
  {Q : α->Shared->Prop} (XB : TopIn 'c' base) (hb : base.StaysIn s.heap) (hn : base.get? L = none) (hL : s.heap.get? L = some o) (hh : A.handled = hd)
  (h : ∀ tk s',s'.heap.get? L = some (o' tk)->(∀ b ob,b ≠ L->s.heap.get? b = some ob->s'.heap.get? b = some ob)->Same s s'->Q v s') : WP w A t Q E s:=by
 obtain ⟨X1,R1⟩:=keep_one XB hb hn hL
 refine Lv.sound X1 R1 hh 'a' 'e' ?_
 intro ad tk s' R' S'
 exact h tk s' (R'.cell 0 L _ rfl rfl) (fun b ob hne e=>R'.keep b ob (hideAll_get _ e (by simpa using hne))) S'
theorem Lf.at1 { α : Type } { w : World } { base : Heap } { L : Addr } { o : Obj } { o' : 'q'->Obj } { t : Sem α } { v : α } (Lv : Lf w.params 'c' [L] [o] [] t 0 (fun _ _=>[]) (fun _ tk=>[o' tk]) (fun _ _=>.val v))
  {Q : α->Shared->Prop} (XB : TopIn 'c' base) (hb : base.StaysIn s.heap) (hn : base.get? L = none) (hL : s.heap.get? L = some o) (hh : 'g')
  (h : ∀ tk s',s'.heap.get? L = some (o' tk)->(∀ b ob,b ≠ L->s.heap.get? b = some ob->s'.heap.get? b = some ob)->Same s s'->Q v s') : WP w A t Q E s:=by
 obtain ⟨X1,R1⟩:=keep_one XB hb hn hL
 refine Lv.sound X1 R1 hh 'a' 'e' ?_
 intro ad tk s' R' S'
 exact h tk s' (R'.cell 0 L _ rfl rfl) (fun b ob hne e=>R'.keep b ob (hideAll_get _ e (by simpa using hne))) S'
structure Kp (base h₀ : Heap) (L e t : Addr) (items : List Value) (s₀ s : Shared) : Prop where
 kb : base.StaysIn s.heap
 up : h₀.UpToSlots s.heap
 exc : s.heap.ExcAt e "ValueError" (.ref t)
 tup : s.heap.TupAt t items
 sm : Same s₀ s
theorem Kp.step {base h₀ : Heap} {L e t : Addr} {items : List Value} {s₀ s s' : Shared} {o : Obj} (K : Kp base h₀ L e t items s₀ s) (hn : base.get? L = none) (hn0 : h₀.get? L = none) (hL : s.heap.get? L = some o) (hf : ∀ vs,o.data ≠ .fields vs) (ho : o.cls = .type "frame")
  (k : ∀ b ob,b ≠ L->s.heap.get? b = some ob->s'.heap.get? b = some ob) (S : Same s s') : Kp base h₀ L e t items s₀ s':=by
 obtain ⟨k1,k2,⟨oe,vs,q1,q2,q3,q4⟩,⟨ot,n,r1,r2,r3⟩,k5⟩:=K
 refine ⟨fun b ob q=>k b ob (fun h=>by subst h; rw [hn] at q; cases q) (k1 b ob q),fun b ob q hq=>?_,⟨oe,vs,k e oe (fun h=>by subst h; rw [hL] at q1; cases q1; exact hf _ q3) q1,q2,q3,q4⟩,⟨ot,n,k t ot (fun h=>?_) r1,r2,r3⟩,k5.trans S⟩
 ·obtain ⟨sl,hs⟩:=k2 b ob q hq
  exact ⟨sl,k b _ (fun h=>by subst h; rw [hn0] at q; cases q) hs⟩
 ·subst h
  rw [hL] at r1; cases r1
  rw [ho] at r2
  injection r2 with r2
  exact absurd r2 (by decide)
theorem Kp.slots {base h₀ : Heap} {L e t : Addr} {items : List Value} {s₀ s s' : Shared} (K : Kp base h₀ L e t items s₀ s) (kb : base.StaysIn s'.heap) (up : s.heap.UpToSlots s'.heap) (exc : s'.heap.ExcAt e "ValueError" (.ref t)) (S : Same s s') : Kp base h₀ L e t items s₀ s' :=
 ⟨kb,K.up.trans up,exc,K.tup.of_slots up,K.sm.trans S⟩
theorem flying_exc {base h : Heap} {l : List Env} {e : Addr} {a0 : Value} (x : Heap.FlyingW base l e (.type "ValueError") a0 h) : h.ExcAt e "ValueError" a0 :=
 let ⟨_,_,_,oe,vs,_,_,_,he,hc,hd,_⟩:=x; ⟨oe,vs,he,hc.1,hd,hc.2⟩
theorem held_exc {base h : Heap} {l : List Env} {e L : Addr} {a0 : Value} (x : Heap.HeldW base l e (.type "ValueError") a0 L h) : h.ExcAt e "ValueError" a0 :=
 let ⟨_,_,_,oe,vs,_,_,_,he,hc,hd,_⟩:=x; ⟨oe,vs,he,hc.1,hd,hc.2⟩
theorem verr_sub : isSubtype (.type "ValueError") (.type "ValueError") = pure true:=by rw [isSubtype_type]; kernel_rfl
theorem verr_nt : isSubtype (.type ((Manifest.find? "ValueError").elim "type" fun x=>x.metatype)) (.type "tuple") = pure false:=by rw [isSubtype_type]; kernel_rfl
theorem flying_keep {base h h' : Heap} {l : List Env} {e L : Addr} {cls a0 : Value} {o : Obj} (x : Heap.FlyingW base l e cls a0 h) (hn : base.get? L = none) (hL : h.get? L = some o) (hL' : ∃ o',h'.get? L = some o' ∧ o'.data = o.data) (hf : ∀ vs,o.data ≠ .fields vs)
  (k : ∀ b ob,b ≠ L->h.get? b = some ob->h'.get? b = some ob) : Heap.FlyingW base l e cls a0 h':=by
 obtain ⟨g1,g2,g3,oe,vs,T,oT,ts,q1,q2,q3,q4,q5,q6,q7,q8,q9⟩:=x
 have rec_ne : ∀ b ob ws,h.get? b = some ob->ob.data = .fields ws->b ≠ L:=fun b ob ws e1 e2 h=>by subst h; rw [hL] at e1; cases e1; exact hf _ e2
 refine ⟨fun b ob q=>k b ob (fun h=>by subst h; rw [hn] at q; cases q) (g1 b ob q),g2,g3.of_keeps fun b ob q _=>?_,oe,vs,T,oT,ts,k e oe (rec_ne e oe vs q1 q3) q1,q2,q3,q4,q5,q6,k T oT (rec_ne T oT ts q7 q8) q7,q8,q9⟩
 by_cases hb : b = L
 ·subst hb
  rw [hL] at q; cases q
  exact hL'
 ·exact ⟨ob,k b ob hb q,rfl⟩
noncomputable def nmE : Expr->Str
 | .Name x _=>x
 | _=>default
theorem caught {A₀ : Around} {env : Env} {L : Addr} (body : List Stmt) (fr : Array (Option Value)->Obj) {base h₀ : Heap} {outer : List Env} {e : Addr} {ms : Str} {mT : Tok} {s₀ s : Shared} {Q : Flow->Shared->Prop} (sh : hSuite body = [.Return (some (.Call (.Name (nmE (cFn (sRet (hSuite body)))) (cPos (cFn (sRet (hSuite body))))) [cArg (sRet (hSuite body))] [] (cPos (sRet (hSuite body))))) (sRetP (hSuite body))])
  (hfn : cFn (sRet (hSuite body)) = .Name (nmE (cFn (sRet (hSuite body)))) (cPos (cFn (sRet (hSuite body)))))
  (hst : backTo (cPos (sRet (hSuite body))) (starEach [cArg (sRet (hSuite body))] env) = [(false,eval (cArg (sRet (hSuite body))) env)])
  (hfr : A₀.frames = some outer) (hf : env.frame = some L) (hh : A₀.handled = none) (hu : (A₀.deeper env).units + 2 < cLine) (XB : TopIn 'c' base) (hn : base.get? L = none) (hn0 : h₀.get? L = none)
  (T : Thrown base (env :: outer) h₀ (.type "ValueError") [.str ms mT] e s₀ s) (hL : ∃ sl,s.heap.get? L = some (fr sl)) (hfd : ∀ sl vs,(fr sl).data ≠ .fields vs) (hfc : ∀ sl,(fr sl).cls = .type "frame") (hfs : ∀ sl sl',({ fr sl with slots:=sl' } : Obj) = fr sl')
  (F2 : Array (Option Value)->Tok->Obj) (h2d : ∀ sl g vs,(F2 sl g).data ≠ .fields vs) (h2c : ∀ sl g,(F2 sl g).cls = .type "frame")
  (hX1 : ∀ sl,LfH w.params 'c' [L] [fr sl] [] (some (.ref e)) (zEV (hTest body) env) 0 (fun _ _=>[]) (fun _ _=>[fr sl]) (fun _ _=>.val (.type "ValueError")))
  (hX2 : ∀ sl,LfH w.params 'c' [L] [fr sl] [] (some (.ref e)) (storeName env a465 (.ref e)) 0 (fun _ _=>[]) (fun _ tk=>[F2 sl (tk 0)]) (fun _ _=>.val ()))
  (hY1 : ∀ sl g,LfH w.params 'c' [L] [F2 sl g] [] (some (.ref e)) (zEV (cFn (sRet (hSuite body))) env) 0 (fun _ _=>[]) (fun _ _=>[F2 sl g]) (fun _ _=>.val (.type "str")))
  (hY2 : ∀ sl g,LfH w.params 'c' [L] [F2 sl g] [] (some (.ref e)) (zEV (cArg (sRet (hSuite body))) env) 0 (fun _ _=>[]) (fun _ _=>[F2 sl g]) (fun _ _=>.val (.ref e)))
  (hX4 : ∀ sl g,∃ o' : Obj,Lf w.params 'c' [L] [F2 sl g] [] (do bindName env a465 .none; unbindBehindTheSuite env a465 (hPos body) : Sem Unit) 0 (fun _ _=>[]) (fun _ _=>[o']) (fun _ _=>.val ()))
  (h : ∀ s',base.StaysIn s'.heap->h₀.UpToSlots s'.heap->Same s₀ s'->Q (.ret (.str ms mT)) s') :
  WP w (A₀.deeper env) (noteFrame (.ref e) env) (fun _ s₂=>WP w (A₀.deeper env) (setFlight (.ref e) none) (fun _ s₃=>WP w (A₀.deeper env) (handleBy (.ref e) env [.ExceptHandler (some (hTest body)) (some a465) (hSuite body) (hPos body)]) Q E s₃) E s₂) E s:=by
 obtain ⟨t,f1,f2,f3,f4,f5⟩:=T
 obtain ⟨sl0,hL0⟩:=hL
 have K0 : Kp base h₀ L e t [.str ms mT] s₀ s:=⟨f1.1,f4,flying_exc f1,f2,f5⟩
 have up : ∀ {g : Heap} {sl : Array (Option Value)} {h1 h2 : Heap},h1.get? L = some (fr sl)->h1.UpToSlots h2->∃ sl',h2.get? L = some (fr sl'):=fun {_ sl _ _} e1 u=>by
  obtain ⟨sl',e2⟩:=u L _ e1 (hfd sl)
  exact ⟨sl',by rw [e2,hfs]⟩
 refine wpAny_looks_onW (Around.frames_deeper hfr) hf f1 fun h1 he1 u1=>?_
 have K1 : Kp base h₀ L e t [.str ms mT] s₀ { s with heap:=h1 }:=K0.slots he1.1 u1 (held_exc he1) ⟨rfl,rfl,rfl⟩
 obtain ⟨sl1,hL1⟩:=up (g:=h1) hL0 u1
 refine wpAny_landsW he1 fun h2 f12 u2=>?_
 have K2 : Kp base h₀ L e t [.str ms mT] s₀ { s with heap:=h2 }:=K1.slots f12.1 u2 (flying_exc f12) ⟨rfl,rfl,rfl⟩
 obtain ⟨sl2,hL2⟩:=up (g:=h2) hL1 u2
 rw [sh]
 refine wpAny_handleBy_builtin_as (X:="ValueError") (T:="ValueError") (b:=true) F.excRaise_ValueError.isExc verr_nt verr_sub ?_
 rw [tw_eval]
 refine LfH.at1 (hX1 sl2) XB K2.kb hn hL2 rfl fun tk3 s3 hL3 k3 S3=>?_
 have K3:=K2.step hn hn0 hL2 (hfd sl2) (hfc sl2) k3 S3
 refine ⟨rfl,(let ⟨o,_,q1,q2,_⟩:=K3.exc; ⟨o,q1,q2⟩),?_⟩
 rw [if_pos rfl]
 have f13:=flying_keep f12 hn hL2 ⟨_,hL3,rfl⟩ (hfd sl2) k3
 refine lands_againW f13 fun h4 f14 u4=>?_
 have K4 : Kp base h₀ L e t [.str ms mT] s₀ { s3 with heap:=h4 }:=K3.slots f14.1 u4 (flying_exc f14) ⟨rfl,rfl,rfl⟩
 obtain ⟨sl4,hL4⟩:=up (g:=h4) hL3 u4
 refine LfH.at1 (hX2 sl4) XB K4.kb hn hL4 rfl fun tk5 s5 hL5 k5 S5=>?_
 have K5:=K4.step hn hn0 hL4 (hfd sl4) (hfc sl4) k5 S5
 refine wpAny_execs_cons (wpAny_Return_some (Call_Name hst ?_))
 rw [← hfn,tw_eval]
 refine LfH.at1 (hY1 sl4 (tk5 0)) XB K5.kb hn hL5 rfl fun tk6 s6 hL6 k6 S6=>?_
 have K6:=K5.step hn hn0 hL5 (h2d _ _) (h2c _ _) k6 S6
 refine PySem.callWith_type1 ?_
 rw [tw_eval]
 refine LfH.at1 (hY2 sl4 (tk5 0)) XB K6.kb hn hL6 rfl fun tk7 s7 hL7 k7 S7=>?_
 have K7:=K6.step hn hn0 hL6 (h2d _ _) (h2c _ _) k7 S7
 refine P.str_of_exc_one (A:=(A₀.deeper env).mark (some (.ref e))) F.excStr_ValueError hu K7.exc K7.tup ?_
 obtain ⟨o',hx4⟩:=hX4 sl4 (tk5 0)
 refine Lf.at1 (o':=fun _=>o') hx4 XB K7.kb hn hL7 hh fun tk8 s8 hL8 k8 S8=>?_
 have K8:=K7.step hn hn0 hL7 (h2d _ _) (h2c _ _) k8 S8
 exact h s8 K8.kb K8.up K8.sm
end
section
open PySem PySem.Builtin PySem.W PySem.W.X PyProof.Rows
variable {w : World} {A : Around} {h₀ : Heap} {s : Shared} {R : Result->Shared->Prop}
section
variable (P : Params) (tx : Str) (tT : Tok) (L : Addr) (k : Nat->Tok) (ad : Nat->Addr) (tk : Nat->Tok) (z e : Addr) (ad0 : Nat->Addr) (tk0 : Nat->Tok)
noncomputable def lwA_q : Option (RR Flow):=run denF ⟨pw,P⟩ (Tf P) [L] ad tk 10 4244635904 [] [lw_fr P tx tT k] 0 0 none (.base (zEX (tryB body783) (env783 L)))
theorem lwA : Lf P (Tf P) [L] [lw_fr P tx tT k] [] (zEX (tryB body783) (env783 L)) 0 zve (fun ad tk=>[(lw_fr P tx tT k)]) (fun ad tk=>(.cut (zR 741 [(.str tx tT),(.bool true)]) 0 none (ttOf (lwA_q P tx tT L k ad tk)))):=.mk' 10 4244635904 (by kernel_rfl)
theorem lwC : LfT P (Tf P) [] [] [] (ttOf (lwA_q P tx tT L k ad0 tk0) (.ok (.ret (.ref z)))) 0 zve (fun ad tk=>[]) (fun ad tk=>(.val (.ret (.ref z)))):=.mk' 4 0 (by kernel_rfl)
theorem lwD : LfT P (Tf P) [] [] [] (ttOf (lwA_q P tx tT L k ad0 tk0) (.error (.ref e))) 0 zve (fun ad tk=>[]) (fun ad tk=>(.exc (.ref e))):=.mk' 3 0 (by kernel_rfl)
theorem shape776 : hSuite body776 = [.Return (some (.Call (.Name (nmE (cFn (sRet (hSuite body776)))) (cPos (cFn (sRet (hSuite body776))))) [cArg (sRet (hSuite body776))] [] (cPos (sRet (hSuite body776))))) (sRetP (hSuite body776))]:=by kernel_rfl!
theorem fn776 : cFn (sRet (hSuite body776)) = .Name (nmE (cFn (sRet (hSuite body776)))) (cPos (cFn (sRet (hSuite body776)))):=by kernel_rfl!
theorem star776 (env : Env) : backTo (cPos (sRet (hSuite body776))) (starEach [cArg (sRet (hSuite body776))] env) = [(false,eval (cArg (sRet (hSuite body776))) env)]:=by kernel_rfl!
theorem body776_eq : body776 = [.Try (tryB body776) [.ExceptHandler (some (hTest body776)) (some a465) (hSuite body776) (hPos body776)] [] [] (tPos body776)]:=by kernel_rfl!
theorem shape783 : hSuite body783 = [.Return (some (.Call (.Name (nmE (cFn (sRet (hSuite body783)))) (cPos (cFn (sRet (hSuite body783))))) [cArg (sRet (hSuite body783))] [] (cPos (sRet (hSuite body783))))) (sRetP (hSuite body783))]:=by kernel_rfl!
theorem fn783 : cFn (sRet (hSuite body783)) = .Name (nmE (cFn (sRet (hSuite body783)))) (cPos (cFn (sRet (hSuite body783)))):=by kernel_rfl!
theorem star783 (env : Env) : backTo (cPos (sRet (hSuite body783))) (starEach [cArg (sRet (hSuite body783))] env) = [(false,eval (cArg (sRet (hSuite body783))) env)]:=by kernel_rfl!
theorem body783_eq : body783 = [.Try (tryB body783) [.ExceptHandler (some (hTest body783)) (some a465) (hSuite body783) (hPos body783)] [] [] (tPos body783)]:=by kernel_rfl!
theorem kd783 (L : Addr) : (env783 L).scope.kind ≠ .module:=by
 have h : (env783 L).scope.kind = .function:=by kernel_rfl!
 rw [h]; nofun
structure LawOut (k : Bool) (txt : List Nat) (base h₀ : Heap) (s : Shared) (R : Result->Shared->Prop) : Prop where
 ok : ∀ l,lexAll k (txt.length + 1) .sp txt = .ok l->∀ z vs m s',StrsAre vs (l.map mkS)->base.get? z = none->s'.heap.get? z = some (lst vs m)->base.StaysIn s'.heap->h₀.UpToSlots s'.heap->Same s s'->R (.ok (.ret (.ref z))) s'
 err : ∀ b,lexAll k (txt.length + 1) .sp txt = .err b->∀ mT s',base.StaysIn s'.heap->h₀.UpToSlots s'.heap->Same s s'->R (.ok (.ret (.str (msgOf b) mT))) s'
 out : lexAll k (txt.length + 1) .sp txt ≠ .out
theorem ld_code (tx : Str) (tT : Tok) (hsz : tx.length ≤ sizeLine) (hal : ∀ c ∈ tx.cps.toList,c ∈ alpha) (hlen : tx.cps.toList.length ≤ 400) (base : Heap) (outer : List Env) (XB : TopIn 'c' base)
  (hd : A.depth + 15 < recursionLimit) (hu : A.units + 50 < cLine) (hh : 'g') (X : 'r') (O : Outer A outer base h₀)
  (Rp : Rep h₀ [] [] s.heap) (H : LawOut true tx.cps.toList base h₀ s R) : CA w A (.call (.ref 776) ⟨[.str tx tT],[]⟩) R s:=by
 refine ld_call tx tT (by omega) hh X Rp ?_
 intro L k s1 R1 S1
 have hn0 : h₀.get? L = none:=R1.fresh L (.head _)
 have hn:=R1.none_base O.kb (.head _ : L ∈ [L])
 rw [body776_eq]
 refine wpAny_execs_cons (wpAny_Try_except ?_)
 refine ld_try tx tT hsz hal hlen base outer XB hd hh X O R1 ⟨?_,?_,H.out⟩
 ·intro l hl z vs m s' g1 g2 g3 g4 g5 g6
  exact H.ok l hl z vs m s' g1 g2 g3 g4 g5 (S1.trans g6)
 ·intro b hb e m s' T hL
  refine caught body776 (fun sl=>{ ld_fr w.params tx tT k with slots:=sl }) shape776 fn776 (star776 _) O.fr rfl hh (by show A.units + 3 + 2 < _; omega) XB hn hn0 T hL (fun sl vs=>by unfold ld_fr; nofun) (fun sl=>rfl) 'a'
   (fun sl g=>sn (wSl (ld_fr w.params tx tT k) sl) (en w.params a465 g (.ref e))) (fun sl g vs=>by unfold ld_fr wSl sn; nofun) (fun sl g=>rfl)
   (fun sl=>ldX1 w.params tx tT L k e sl) (fun sl=>ldX2 w.params tx tT L k e sl) (fun sl g=>ldY1 w.params tx tT L k e sl g) (fun sl g=>ldY2 w.params tx tT L k e sl g) (fun sl g=>⟨_,ldX4 w.params tx tT L k e sl g⟩) ?_
  intro s2 g1 g2 g3
  exact H.err b hb m s2 g1 g2 (S1.trans g3)
theorem sp_code (tx : Str) (tT : Tok) (hsz : tx.length ≤ sizeLine) (hal : ∀ c ∈ tx.cps.toList,c ∈ alpha) (hlen : tx.cps.toList.length ≤ 400) (base : Heap) (outer : List Env) (XB : TopIn 'c' base)
  (hd : A.depth + 15 < recursionLimit) (hh : 'g') (X : 'r') (O : Outer A outer base h₀)
  (Rp : Rep h₀ [] [] s.heap) (H : LexOut w false tx.cps.toList base h₀ outer s (fun _=>True) (fun v s'=>R (.ok (.ret v)) s') (fun e s'=>R (.error e) s')) :
  CA w A (.call (.ref 741) ⟨[.str tx tT,.bool true],[]⟩) R s:=by
 refine sp_call tx tT (by omega) hh X Rp ?_
 intro L k s1 R1 S1
 refine sp_body tx tT hsz hal hlen base outer XB hd hh X O R1 ⟨?_,?_,H.out⟩
 ·intro l hl z vs m s' g1 g2 g3 g4 g5 g6
  exact H.ok l hl z vs m s' g1 g2 g3 g4 g5 (S1.trans g6)
 ·intro b hb e m s' T _
  exact throw_next O.fr rfl T fun s'' T''=>H.err b hb e m s'' (T''.mono (Heap.UpToSlots.refl _) S1) trivial
theorem lw_code (tx : Str) (tT : Tok) (hsz : tx.length ≤ sizeLine) (hal : ∀ c ∈ tx.cps.toList,c ∈ alpha) (hlen : tx.cps.toList.length ≤ 400) (base : Heap) (outer : List Env) (XB : TopIn 'c' base)
  (hd : A.depth + 17 < recursionLimit) (hu : A.units + 50 < cLine) (hh : 'g') (X : 'r') (O : Outer A outer base h₀)
  (Rp : Rep h₀ [] [] s.heap) (H : LawOut false tx.cps.toList base h₀ s R) : CA w A (.call (.ref 783) ⟨[.str tx tT],[]⟩) R s:=by
 refine lw_call tx tT (by omega) hh X Rp ?_
 intro L k s1 R1 S1
 have hn0 : h₀.get? L = none:=R1.fresh L (.head _)
 have hn:=R1.none_base O.kb (.head _ : L ∈ [L])
 rw [body783_eq]
 refine wpAny_execs_cons (wpAny_Try_except ?_)
 rw [tw_execs]
 refine (lwA w.params tx tT L k).sound X R1 hh 'a' (fun ad tk=>all_nil) ?_
 intro ad tk s2 R2 S2 A' d1 d2 d3 d4 d5
 have R2 : Rep h₀ ([] ++ [L]) [lw_fr w.params tx tT k] s2.heap:=R2
 have O':=O.inner (A':=A') (env:=env783 L) (L:=L) 0 R2 (kd783 L) rfl rfl rfl (by unfold lw_fr; nofun) (d4.trans (Around.frames_deeper O.fr))
 refine sp_code tx tT hsz hal hlen base (env783 L :: outer) XB (by have : A'.depth ≤ A.depth + 1:=d1; omega) d3 (X.hide R2) O' R2.hideRest ⟨?_,?_,H.out⟩
 ·intro l hl z vs m s3 g1 g2 g3 g4 g5 g6
  refine after_nil XB g4 (lwC w.params tx tT L k z ad tk) fun s4 k4 S4=>?_
  exact H.ok l hl z vs m s4 g1 g2 (k4 _ _ g3) (fun b o q=>k4 _ _ (g4 b o q)) ((Heap.UpToSlots.of_keeps R2.out).trans (g5.trans (Heap.UpToSlots.of_keeps k4))) ((S1.trans S2).trans (g6.trans S4))
 ·intro b hb e m s3 T _
  have hbs : base.StaysIn s3.heap:=by obtain ⟨t,f1,_⟩:=T; exact f1.1
  have hL3 : ∃ sl,s3.heap.get? L = some { lw_fr w.params tx tT k with slots:=sl }:=by
   obtain ⟨t,f1,f2,f3,f4,f5⟩:=T
   exact f4 L _ (hideAll_get _ (R2.cell 0 L _ rfl rfl) (by simp)) (by unfold lw_fr; nofun)
  refine after_nil XB hbs (lwD w.params tx tT L k e ad tk) fun s4 k4 S4=>?_
  refine caught body783 (fun sl=>{ lw_fr w.params tx tT k with slots:=sl }) shape783 fn783 (star783 _) O.fr rfl hh (by show A.units + 3 + 2 < _; omega) XB hn hn0 ((T.keeps k4 S4).mono (Heap.UpToSlots.of_keeps R2.out) (S1.trans S2)) (let ⟨sl,q⟩:=hL3; ⟨sl,k4 _ _ q⟩) (fun sl vs=>by unfold lw_fr; nofun) (fun sl=>rfl) 'a'
   (fun sl g=>sn (wSl (lw_fr w.params tx tT k) sl) (en w.params a465 g (.ref e))) (fun sl g vs=>by unfold lw_fr wSl sn; nofun) (fun sl g=>rfl)
   (fun sl=>lwX1 w.params tx tT L k e sl) (fun sl=>lwX2 w.params tx tT L k e sl) (fun sl g=>lwY1 w.params tx tT L k e sl g) (fun sl g=>lwY2 w.params tx tT L k e sl g) (fun sl g=>⟨_,lwX4 w.params tx tT L k e sl g⟩) ?_
  intro s5 g1 g2 g3
  exact H.err b hb m s5 g1 g2 g3
end
end
section
open PySem PySem.W PySem.W.X PyProof.Rows
variable {w : World}
section
variable (P : Params) (u : Nat->Tok) (tx : Str) (tT : Tok) (p L : Addr) (pl : Str) (plT : Tok) (sg : Str) (k : Nat->Tok) (c0 : Nat) (s0 : Tok) (c : Nat) (sT : Tok) (vs : List Value) (n : Nat) (vs1 vs2 : List Value) (n1 n2 : Nat) (ad0 : Nat->Addr) (tk0 : Nat->Tok) (ad : Nat->Addr) (tk : Nat->Tok) (ad1 : Nat->Addr) (tk1 : Nat->Tok)
noncomputable def paf3 : Obj:=frm [zE P a253 (u 0) tx tT,en P a455 (u 1) (.ref p),zE P a456 (u 2) pl plT] 3
noncomputable def paf4 : Obj:=frm [zE P a253 (u 0) tx tT,en P a455 (u 1) (.ref p),zE P a456 (u 2) pl plT,zE P a457 (u 3) sg sT] 4
noncomputable def fTgt : Stmt->Expr
 | .For t _ _ _ _=>t
 | _=>.Constant .none 0 default
noncomputable def fIter : Stmt->Expr
 | .For _ t _ _ _=>t
 | _=>.Constant .none 0 default
noncomputable def xElts : Expr->List Expr
 | .Tuple l _ _=>l
 | .List l _=>l
 | _=>[]
noncomputable def xPos : Expr->Pos
 | .Tuple _ _ p=>p
 | .Call _ _ _ p=>p
 | .Name _ p=>p
 | .Attribute _ _ p=>p
 | .Dict _ _ p=>p
 | .Constant _ _ p=>p
 | _=>default
noncomputable def xKd : Expr->Nat
 | .Tuple _ k _=>k
 | .Constant _ k _=>k
 | _=>0
noncomputable def xBase : Expr->Expr
 | .Attribute e _ _=>e
 | e=>e
noncomputable def xArgs : Expr->List Expr
 | .Call _ l _ _=>l
 | _=>[]
noncomputable def xKeys : Expr->List (Option Expr)
 | .Dict l _ _=>l
 | _=>[]
noncomputable def xVals : Expr->List Expr
 | .Dict _ l _=>l
 | _=>[]
noncomputable def eNth (l : List Expr) (i : Nat) : Expr:=l.getD i (.Constant .none 0 default)
theorem pa_b : Lf P (Tf P) [] [] [] (zBA fd755 ⟨[.str tx tT],[]⟩) 0 zve (fun ad tk=>[]) (fun ad tk=>(.val [(a253,(.str tx tT))])):=.mk' 3 0 (by kernel_rfl)
theorem pa_e : Lf P (Tf P) [] [] [] (zNE fd755 755 [(a253,(.str tx tT))]) 1 zve (fun ad tk=>[(zD zt98 [zE P a253 (tk 0) tx tT] 1)]) (fun ad tk=>(.val (env755 (ad 0)))):=.mk' 8 257 (by kernel_rfl)
noncomputable def pa_fr : Obj:=(zD zt98 [zE P a253 (tk 0) tx tT] 1)
theorem pa_call (tx : Str) (tT : Tok) : CallT w [] [] (pa_fr w.params tx tT) env755 body755 755 ⟨[.str tx tT],[]⟩:=callT _ _ (top755 w.params) rfl rfl co755 ge755 rfl (cr755 w.params) (pa_b w.params tx tT) (pa_e w.params tx tT)
theorem pa0 : Lf P (Tf P) [L] [pa_fr P tx tT k] [] (zEX (body755.take 2) (env755 L)) 1 zve (fun ad tk=>[(sn (sn (pa_fr P tx tT k) (en P a455 (tk 0) (.ref (ad 0)))) (zE P a456 (tk 2) a181 (tk 1))),(zW zt13)]) zvn:=.mk' 22 16843009 (by kernel_rfl)
noncomputable abbrev y74:=sNth body755 2
theorem paS3 : Lf P (Tf P) [L] [paf3 P u tx tT p pl plT] [] (Fast.tw17772580674575903948 (fTgt y74) (env755 L) (y1 c sT)) 0 zve (fun ad tk=>[(sn (paf3 P u tx tT p pl plT) (zE P a457 (tk 0) ⟨⟨[c]⟩⟩ sT))]) (fun ad tk=>(.val ())):=.mk' 10 257 (by kernel_rfl)
theorem paS4 : Lf P (Tf P) [L] [paf4 P u tx tT p pl plT ⟨⟨[c0]⟩⟩ s0] [] (Fast.tw17772580674575903948 (fTgt y74) (env755 L) (y1 c sT)) 0 zve (fun ad tk=>[(sv (paf4 P u tx tT p pl plT ⟨⟨[c0]⟩⟩ s0) 3 (y1 c sT))]) (fun ad tk=>(.val ())):=.mk' 10 257 (by kernel_rfl)
theorem paI : Lf P (Tf P) [L] [paf3 P u tx tT p pl plT] [] (zEV (fIter y74) (env755 L)) 0 zve (fun ad tk=>[(paf3 P u tx tT p pl plT)]) (fun ad tk=>(.val (.str tx tT))):=.mk' 5 1 (by kernel_rfl)
noncomputable abbrev y26:=sBody (sNth body755 2)
theorem pt_h1 : Lf P (Tf P) [L,p] [paf4 P u tx tT p s!"#" plT ⟨⟨[c]⟩⟩ sT,lst vs n] [xT] (zEX y26 (env755 L)) 0 (fun ad tk=>[(zX (zB zb5 [(y1 c sT),(.str a349 (tk 1))]) xT)]) (fun ad tk=>[(sv (paf4 P u tx tT p s!"#" plT ⟨⟨[c]⟩⟩ sT) 2 (.str a181 (tk 10))),(lst vs n)]) zvn:=by revert P; refine Lf.rw1 27 283669721776129 ?_ ?_ <;> kernel_rfl
theorem pt_h0 : Lf P (Tf P) [L,p] [paf4 P u tx tT p s!"#" plT ⟨⟨[c]⟩⟩ sT,lst vs n] [xF] (zEX y26 (env755 L)) 0 (fun ad tk=>[(zX (zB zb5 [(y1 c sT),(.str a349 (tk 1))]) xF)]) (fun ad tk=>[(sv (paf4 P u tx tT p s!"#" plT ⟨⟨[c]⟩⟩ sT) 2 (.str s!"#" (tk 10))),(lst vs n)]) zvn:=by revert P; refine Lf.rw1 27 283669721776129 ?_ ?_ <;> kernel_rfl
noncomputable def pt_e_q : Option (RR Flow):=run denF ⟨pw,P⟩ (Tf P) [L,p] ad tk 36 20045037028452108836043472502785 [] [paf4 P u tx tT p s!"\\" plT ⟨⟨[c]⟩⟩ sT,lst vs n] 0 0 none (.base (zEX y26 (env755 L)))
noncomputable abbrev y49 (p0 : Addr) (p1 : Nat->Addr):=zB zb14 [(.ref p0),(.ref (p1 0))]
theorem pt_e : Lf P (Tf P) [L,p] [paf4 P u tx tT p s!"\\" plT ⟨⟨[c]⟩⟩ sT,lst vs n] [] (zEX y26 (env755 L)) 1 zve (fun ad tk=>[(paf4 P u tx tT p s!"\\" plT ⟨⟨[c]⟩⟩ sT),(lst vs n),(zQ zt23 [(.str s!"kept" (tk 2)),(y1 c sT)])]) (fun ad tk=>(.cut (y49 p ad) 0 none (ttOf (pt_e_q P u tx tT p L plT c sT vs n ad tk)))):=by revert P; refine Lf.rw1 36 20045037028452108836043472502785 ?_ ?_ <;> kernel_rfl
theorem pt_e0 : LfT P (Tf P) [L,p] [paf4 P u tx tT p s!"\\" plT ⟨⟨[c]⟩⟩ sT,lst vs1 n1] [] (ttOf (pt_e_q P u tx tT p L plT c sT vs n ad0 tk0) 'm') 0 zve (fun ad tk=>[(sv (paf4 P u tx tT p s!"\\" plT ⟨⟨[c]⟩⟩ sT) 2 (.str a181 (tk 0))),(lst vs1 n1)]) zvn:=by revert P; refine LfT.rw1 13 257 ?_ ?_ <;> kernel_rfl
noncomputable def pt_d1_q : Option (RR Flow):=run denF ⟨pw,P⟩ (Tf P) [L,p] ad tk 49 86430397202943340263577393217927202734081 [xT] [paf4 P u tx tT p s!"\"\\" plT ⟨⟨[c]⟩⟩ sT,lst vs n] 0 0 none (.base (zEX y26 (env755 L)))
theorem pt_d1 : Lf P (Tf P) [L,p] [paf4 P u tx tT p s!"\"\\" plT ⟨⟨[c]⟩⟩ sT,lst vs n] [xT] (zEX y26 (env755 L)) 1 (fun ad tk=>[(zX (zB zb6 [(.str s!"\"\\" (tk 4)),(y1 c sT)]) xT)]) (fun ad tk=>[(paf4 P u tx tT p s!"\"\\" plT ⟨⟨[c]⟩⟩ sT),(lst vs n),(zQ zt23 [(.str s!"within" (tk 3)),(.str a181 (tk 13))])]) (fun ad tk=>(.cut (y49 p ad) 0 none (ttOf (pt_d1_q P u tx tT p L plT c sT vs n ad tk)))):=by revert P; refine Lf.rw1 49 86430397202943340263577393217927202734081 ?_ ?_ <;> kernel_rfl
noncomputable def pt_d10_q : Option (RR Flow):=run denF ⟨pw,P⟩ (Tf P) [L,p] ad tk 19 71214277243044353 [] [paf4 P u tx tT p s!"\"\\" plT ⟨⟨[c]⟩⟩ sT,lst vs1 n1] 0 0 none (ttOf (pt_d1_q P u tx tT p L plT c sT vs n ad0 tk0) 'm')
theorem pt_d10 : LfT P (Tf P) [L,p] [paf4 P u tx tT p s!"\"\\" plT ⟨⟨[c]⟩⟩ sT,lst vs1 n1] [] (ttOf (pt_d1_q P u tx tT p L plT c sT vs n ad0 tk0) 'm') 1 zve (fun ad tk=>[(paf4 P u tx tT p s!"\"\\" plT ⟨⟨[c]⟩⟩ sT),(lst vs1 n1),(zQ zt23 [(.str s!"within" (tk 0)),(y1 c sT)])]) (fun ad tk=>(.cut (y49 p ad) 0 none (ttOf (pt_d10_q P u tx tT p L plT c sT vs n vs1 n1 ad0 tk0 ad tk)))):=by revert P; refine LfT.rw1 19 71214277243044353 ?_ ?_ <;> kernel_rfl
theorem pt_d11 : LfT P (Tf P) [L,p] [paf4 P u tx tT p s!"\"\\" plT ⟨⟨[c]⟩⟩ sT,lst vs2 n2] [] (ttOf (pt_d10_q P u tx tT p L plT c sT vs n vs1 n1 ad0 tk0 ad1 tk1) 'm') 0 zve (fun ad tk=>[(sv (paf4 P u tx tT p s!"\"\\" plT ⟨⟨[c]⟩⟩ sT) 2 (.str s!"\"" (tk 0))),(lst vs2 n2)]) zvn:=by revert P; refine LfT.rw1 13 257 ?_ ?_ <;> kernel_rfl
noncomputable def pt_d0_q : Option (RR Flow):=run denF ⟨pw,P⟩ (Tf P) [L,p] ad tk 49 86430397202943340263577393217927202734081 [xF] [paf4 P u tx tT p s!"\"\\" plT ⟨⟨[c]⟩⟩ sT,lst vs n] 0 0 none (.base (zEX y26 (env755 L)))
theorem pt_d0 : Lf P (Tf P) [L,p] [paf4 P u tx tT p s!"\"\\" plT ⟨⟨[c]⟩⟩ sT,lst vs n] [xF] (zEX y26 (env755 L)) 1 (fun ad tk=>[(zX (zB zb6 [(.str s!"\"\\" (tk 4)),(y1 c sT)]) xF)]) (fun ad tk=>[(paf4 P u tx tT p s!"\"\\" plT ⟨⟨[c]⟩⟩ sT),(lst vs n),(zQ zt23 [(.str s!"within" (tk 3)),(.str s!"\\" (tk 13))])]) (fun ad tk=>(.cut (y49 p ad) 0 none (ttOf (pt_d0_q P u tx tT p L plT c sT vs n ad tk)))):=by revert P; refine Lf.rw1 49 86430397202943340263577393217927202734081 ?_ ?_ <;> kernel_rfl
noncomputable def pt_d00_q : Option (RR Flow):=run denF ⟨pw,P⟩ (Tf P) [L,p] ad tk 19 71214277243044353 [] [paf4 P u tx tT p s!"\"\\" plT ⟨⟨[c]⟩⟩ sT,lst vs1 n1] 0 0 none (ttOf (pt_d0_q P u tx tT p L plT c sT vs n ad0 tk0) 'm')
theorem pt_d00 : LfT P (Tf P) [L,p] [paf4 P u tx tT p s!"\"\\" plT ⟨⟨[c]⟩⟩ sT,lst vs1 n1] [] (ttOf (pt_d0_q P u tx tT p L plT c sT vs n ad0 tk0) 'm') 1 zve (fun ad tk=>[(paf4 P u tx tT p s!"\"\\" plT ⟨⟨[c]⟩⟩ sT),(lst vs1 n1),(zQ zt23 [(.str s!"within" (tk 0)),(y1 c sT)])]) (fun ad tk=>(.cut (y49 p ad) 0 none (ttOf (pt_d00_q P u tx tT p L plT c sT vs n vs1 n1 ad0 tk0 ad tk)))):=by revert P; refine LfT.rw1 19 71214277243044353 ?_ ?_ <;> kernel_rfl
theorem pt_d01 : LfT P (Tf P) [L,p] [paf4 P u tx tT p s!"\"\\" plT ⟨⟨[c]⟩⟩ sT,lst vs2 n2] [] (ttOf (pt_d00_q P u tx tT p L plT c sT vs n vs1 n1 ad0 tk0 ad1 tk1) 'm') 0 zve (fun ad tk=>[(sv (paf4 P u tx tT p s!"\"\\" plT ⟨⟨[c]⟩⟩ sT) 2 (.str s!"\"" (tk 0))),(lst vs2 n2)]) zvn:=by revert P; refine LfT.rw1 13 257 ?_ ?_ <;> kernel_rfl
theorem pt_qe : Lf P (Tf P) [L,p] [paf4 P u tx tT p s!"\"" plT ⟨⟨[c]⟩⟩ sT,lst vs n] [xT] (zEX y26 (env755 L)) 0 (fun ad tk=>[(zX (zB zb5 [(y1 c sT),(.str s!"\\" (tk 5))]) xT)]) (fun ad tk=>[(sv (paf4 P u tx tT p s!"\"" plT ⟨⟨[c]⟩⟩ sT) 2 (.str s!"\"\\" (tk 14))),(lst vs n)]) zvn:=by revert P; refine Lf.rw1 63 22474630817255297709448612231954993525030913 ?_ ?_ <;> kernel_rfl
theorem pt_qq : Lf P (Tf P) [L,p] [paf4 P u tx tT p s!"\"" plT ⟨⟨[c]⟩⟩ sT,lst vs n] [xF,xT] (zEX y26 (env755 L)) 0 (fun ad tk=>[(zX (zB zb5 [(y1 c sT),(.str s!"\\" (tk 5))]) xF),(zX (zB zb5 [(y1 c sT),(y29 plT)]) xT)]) (fun ad tk=>[(sv (paf4 P u tx tT p s!"\"" plT ⟨⟨[c]⟩⟩ sT) 2 (.str a181 (tk 22))),(lst vs n)]) zvn:=by revert P; refine Lf.rw1 71 (zd 999 0x1010f01010f212121212101) ?_ ?_ <;> kernel_rfl
noncomputable def pt_qo_q : Option (RR Flow):=run denF ⟨pw,P⟩ (Tf P) [L,p] ad tk 77 (zd 999 0xd0102020202010f01010f212121212101) [xF,xF] [paf4 P u tx tT p s!"\"" plT ⟨⟨[c]⟩⟩ sT,lst vs n] 0 0 none (.base (zEX y26 (env755 L)))
theorem pt_qo : Lf P (Tf P) [L,p] [paf4 P u tx tT p s!"\"" plT ⟨⟨[c]⟩⟩ sT,lst vs n] [xF,xF] (zEX y26 (env755 L)) 1 (fun ad tk=>[(zX (zB zb5 [(y1 c sT),(.str s!"\\" (tk 5))]) xF),(zX (zB zb5 [(y1 c sT),(y29 plT)]) xF)]) (fun ad tk=>[(paf4 P u tx tT p s!"\"" plT ⟨⟨[c]⟩⟩ sT),(lst vs n),(zQ zt23 [(.str s!"within" (tk 22)),(y1 c sT)])]) (fun ad tk=>(.cut (y49 p ad) 0 none (ttOf (pt_qo_q P u tx tT p L plT c sT vs n ad tk)))):=by revert P; refine Lf.rw1 77 (zd 999 0xd0102020202010f01010f212121212101) ?_ ?_ <;> kernel_rfl
theorem pt_qo0 : LfT P (Tf P) [L,p] [paf4 P u tx tT p s!"\"" plT ⟨⟨[c]⟩⟩ sT,lst vs1 n1] [] (ttOf (pt_qo_q P u tx tT p L plT c sT vs n ad0 tk0) 'm') 0 zve (fun ad tk=>[(paf4 P u tx tT p s!"\"" plT ⟨⟨[c]⟩⟩ sT),(lst vs1 n1)]) zvn:=by revert P; refine LfT.rw1 4 0 ?_ ?_ <;> kernel_rfl
theorem pt_sq : Lf P (Tf P) [L,p] [paf4 P u tx tT p s!"'" plT ⟨⟨[c]⟩⟩ sT,lst vs n] [xT] (zEX y26 (env755 L)) 0 (fun ad tk=>[(zX (zB zb5 [(y1 c sT),(.str s!"'" plT)]) xT)]) (fun ad tk=>[(sv (paf4 P u tx tT p s!"'" plT ⟨⟨[c]⟩⟩ sT) 2 (.str a181 (tk 13))),(lst vs n)]) zvn:=by revert P; refine Lf.rw1 65 5753505490546564006221115263353291166112022529 ?_ ?_ <;> kernel_rfl
noncomputable def pt_so_q : Option (RR Flow):=run denF ⟨pw,P⟩ (Tf P) [L,p] ad tk 71 (zd 999 0xd0102020202010f01212121212101) [xF] [paf4 P u tx tT p s!"'" plT ⟨⟨[c]⟩⟩ sT,lst vs n] 0 0 none (.base (zEX y26 (env755 L)))
theorem pt_so : Lf P (Tf P) [L,p] [paf4 P u tx tT p s!"'" plT ⟨⟨[c]⟩⟩ sT,lst vs n] [xF] (zEX y26 (env755 L)) 1 (fun ad tk=>[(zX (zB zb5 [(y1 c sT),(.str s!"'" plT)]) xF)]) (fun ad tk=>[(paf4 P u tx tT p s!"'" plT ⟨⟨[c]⟩⟩ sT),(lst vs n),(zQ zt23 [(.str s!"within" (tk 13)),(y1 c sT)])]) (fun ad tk=>(.cut (y49 p ad) 0 none (ttOf (pt_so_q P u tx tT p L plT c sT vs n ad tk)))):=by revert P; refine Lf.rw1 71 (zd 999 0xd0102020202010f01212121212101) ?_ ?_ <;> kernel_rfl
theorem pt_so0 : LfT P (Tf P) [L,p] [paf4 P u tx tT p s!"'" plT ⟨⟨[c]⟩⟩ sT,lst vs1 n1] [] (ttOf (pt_so_q P u tx tT p L plT c sT vs n ad0 tk0) 'm') 0 zve (fun ad tk=>[(paf4 P u tx tT p s!"'" plT ⟨⟨[c]⟩⟩ sT),(lst vs1 n1)]) zvn:=by revert P; refine LfT.rw1 4 0 ?_ ?_ <;> kernel_rfl
noncomputable def pt_or_q : Option (RR Flow):=run denF ⟨pw,P⟩ (Tf P) [L,p] ad tk 60 (zd 999 0xd0102020202010f2121212101) [xT] [paf4 P u tx tT p a181 plT ⟨⟨[c]⟩⟩ sT,lst vs n] 0 0 none (.base (zEX y26 (env755 L)))
noncomputable abbrev y73 (p0 : Nat->Tok) (p1 : Nat) (p2 : Tok):=zB zb6 [(.str s!"();<>|&" (p0 4)),(y1 p1 p2)]
theorem pt_or : Lf P (Tf P) [L,p] [paf4 P u tx tT p a181 plT ⟨⟨[c]⟩⟩ sT,lst vs n] [xT] (zEX y26 (env755 L)) 1 (fun ad tk=>[(zX (y73 tk c sT) xT)]) (fun ad tk=>[(paf4 P u tx tT p a181 plT ⟨⟨[c]⟩⟩ sT),(lst vs n),(zQ zt23 [(.str s!"run" (tk 13)),(y1 c sT)])]) (fun ad tk=>(.cut (y49 p ad) 0 none (ttOf (pt_or_q P u tx tT p L plT c sT vs n ad tk)))):=by revert P; refine Lf.rw1 60 (zd 999 0xd0102020202010f2121212101) ?_ ?_ <;> kernel_rfl
theorem pt_or0 : LfT P (Tf P) [L,p] [paf4 P u tx tT p a181 plT ⟨⟨[c]⟩⟩ sT,lst vs1 n1] [] (ttOf (pt_or_q P u tx tT p L plT c sT vs n ad0 tk0) 'm') 0 zve (fun ad tk=>[(paf4 P u tx tT p a181 plT ⟨⟨[c]⟩⟩ sT),(lst vs1 n1)]) zvn:=by revert P; refine LfT.rw1 4 0 ?_ ?_ <;> kernel_rfl
noncomputable def pt_ow_q : Option (RR Flow):=run denF ⟨pw,P⟩ (Tf P) [L,p] ad tk 66 (zd 999 0xd0102020202010f010f2121212101) [xF,xT] [paf4 P u tx tT p a181 plT ⟨⟨[c]⟩⟩ sT,lst vs n] 0 0 none (.base (zEX y26 (env755 L)))
noncomputable abbrev y87 (p0 : Nat->Tok) (p1 : Nat) (p2 : Tok):=zB zb6 [(.str s!" \t\r\n#" (p0 13)),(y1 p1 p2)]
theorem pt_ow : Lf P (Tf P) [L,p] [paf4 P u tx tT p a181 plT ⟨⟨[c]⟩⟩ sT,lst vs n] [xF,xT] (zEX y26 (env755 L)) 1 (fun ad tk=>[(zX (y73 tk c sT) xF),(zX (y87 tk c sT) xT)]) (fun ad tk=>[(paf4 P u tx tT p a181 plT ⟨⟨[c]⟩⟩ sT),(lst vs n),(zQ zt23 [(.str s!"white" (tk 22)),(y1 c sT)])]) (fun ad tk=>(.cut (y49 p ad) 0 none (ttOf (pt_ow_q P u tx tT p L plT c sT vs n ad tk)))):=by revert P; refine Lf.rw1 66 (zd 999 0xd0102020202010f010f2121212101) ?_ ?_ <;> kernel_rfl
theorem pt_ow0 : LfT P (Tf P) [L,p] [paf4 P u tx tT p a181 plT ⟨⟨[c]⟩⟩ sT,lst vs1 n1] [xF] (ttOf (pt_ow_q P u tx tT p L plT c sT vs n ad0 tk0) 'm') 0 (fun ad tk=>[(zX (zB zb5 [(y1 c sT),(.str s!"#" (tk 0))]) xF)]) (fun ad tk=>[(sv (paf4 P u tx tT p a181 plT ⟨⟨[c]⟩⟩ sT) 2 (.str a181 (tk 9))),(lst vs1 n1)]) zvn:=by revert P; refine LfT.rw1 19 16908033 ?_ ?_ <;> kernel_rfl
noncomputable def pt_oh_q : Option (RR Flow):=run denF ⟨pw,P⟩ (Tf P) [L,p] ad tk 66 (zd 999 0xd0102020202010f010f2121212101) [xF,xT] [paf4 P u tx tT p a181 plT ⟨⟨[c]⟩⟩ sT,lst vs n] 0 0 none (.base (zEX y26 (env755 L)))
theorem pt_oh : Lf P (Tf P) [L,p] [paf4 P u tx tT p a181 plT ⟨⟨[c]⟩⟩ sT,lst vs n] [xF,xT] (zEX y26 (env755 L)) 1 (fun ad tk=>[(zX (y73 tk c sT) xF),(zX (y87 tk c sT) xT)]) (fun ad tk=>[(paf4 P u tx tT p a181 plT ⟨⟨[c]⟩⟩ sT),(lst vs n),(zQ zt23 [(.str s!"white" (tk 22)),(y1 c sT)])]) (fun ad tk=>(.cut (y49 p ad) 0 none (ttOf (pt_oh_q P u tx tT p L plT c sT vs n ad tk)))):=by revert P; refine Lf.rw1 66 (zd 999 0xd0102020202010f010f2121212101) ?_ ?_ <;> kernel_rfl
theorem pt_oh0 : LfT P (Tf P) [L,p] [paf4 P u tx tT p a181 plT ⟨⟨[c]⟩⟩ sT,lst vs1 n1] [xT] (ttOf (pt_oh_q P u tx tT p L plT c sT vs n ad0 tk0) 'm') 0 (fun ad tk=>[(zX (zB zb5 [(y1 c sT),(.str s!"#" (tk 0))]) xT)]) (fun ad tk=>[(sv (paf4 P u tx tT p a181 plT ⟨⟨[c]⟩⟩ sT) 2 (.str s!"#" (tk 9))),(lst vs1 n1)]) zvn:=by revert P; refine LfT.rw1 19 16908033 ?_ ?_ <;> kernel_rfl
theorem pt_oe : Lf P (Tf P) [L,p] [paf4 P u tx tT p a181 plT ⟨⟨[c]⟩⟩ sT,lst vs n] [xF,xF,xT] (zEX y26 (env755 L)) 0 (fun ad tk=>[(zX (y73 tk c sT) xF),(zX (y87 tk c sT) xF),(zX (zB zb5 [(y1 c sT),(.str s!"\\" (tk 22))]) xT)]) (fun ad tk=>[(sv (paf4 P u tx tT p a181 plT ⟨⟨[c]⟩⟩ sT) 2 (y1 c sT)),(lst vs n)]) zvn:=by revert P; refine Lf.rw1 68 1467255143159083757450582045700789941178659241985 ?_ ?_ <;> kernel_rfl
noncomputable def pt_oq_q : Option (RR Flow):=run denF ⟨pw,P⟩ (Tf P) [L,p] ad tk 78 (zd 999 0xd02020202010f010f010f010f2121212101) [xF,xF,xF,xT] [paf4 P u tx tT p a181 plT ⟨⟨[c]⟩⟩ sT,lst vs n] 0 0 none (.base (zEX y26 (env755 L)))
theorem pt_oq : Lf P (Tf P) [L,p] [paf4 P u tx tT p a181 plT ⟨⟨[c]⟩⟩ sT,lst vs n] [xF,xF,xF,xT] (zEX y26 (env755 L)) 1 (fun ad tk=>[(zX (y73 tk c sT) xF),(zX (y87 tk c sT) xF),(zX (zB zb5 [(y1 c sT),(.str s!"\\" (tk 22))]) xF),(zX (zB zb6 [(.str s!"'\"" (tk 31)),(y1 c sT)]) xT)]) (fun ad tk=>[(paf4 P u tx tT p a181 plT ⟨⟨[c]⟩⟩ sT),(lst vs n),(zQ zt23 [(.str s!"within" (tk 40)),(.str a181 (tk 41))])]) (fun ad tk=>(.cut (y49 p ad) 0 none (ttOf (pt_oq_q P u tx tT p L plT c sT vs n ad tk)))):=by revert P; refine Lf.rw1 78 (zd 999 0xd02020202010f010f010f010f2121212101) ?_ ?_ <;> kernel_rfl
theorem pt_oq0 : LfT P (Tf P) [L,p] [paf4 P u tx tT p a181 plT ⟨⟨[c]⟩⟩ sT,lst vs1 n1] [] (ttOf (pt_oq_q P u tx tT p L plT c sT vs n ad0 tk0) 'm') 0 zve (fun ad tk=>[(sv (paf4 P u tx tT p a181 plT ⟨⟨[c]⟩⟩ sT) 2 (y1 c sT)),(lst vs1 n1)]) zvn:=by revert P; refine LfT.rw1 14 65793 ?_ ?_ <;> kernel_rfl
noncomputable def pt_ob_q : Option (RR Flow):=run denF ⟨pw,P⟩ (Tf P) [L,p] ad tk 79 (zd 999 0xd0102020202010f010f010f010f2121212101) [xF,xF,xF,xF] [paf4 P u tx tT p a181 plT ⟨⟨[c]⟩⟩ sT,lst vs n] 0 0 none (.base (zEX y26 (env755 L)))
theorem pt_ob : Lf P (Tf P) [L,p] [paf4 P u tx tT p a181 plT ⟨⟨[c]⟩⟩ sT,lst vs n] [xF,xF,xF,xF] (zEX y26 (env755 L)) 1 (fun ad tk=>[(zX (y73 tk c sT) xF),(zX (y87 tk c sT) xF),(zX (zB zb5 [(y1 c sT),(.str s!"\\" (tk 22))]) xF),(zX (zB zb6 [(.str s!"'\"" (tk 31)),(y1 c sT)]) xF)]) (fun ad tk=>[(paf4 P u tx tT p a181 plT ⟨⟨[c]⟩⟩ sT),(lst vs n),(zQ zt23 [(.str s!"bare" (tk 40)),(y1 c sT)])]) (fun ad tk=>(.cut (y49 p ad) 0 none (ttOf (pt_ob_q P u tx tT p L plT c sT vs n ad tk)))):=by revert P; refine Lf.rw1 79 (zd 999 0xd0102020202010f010f010f010f2121212101) ?_ ?_ <;> kernel_rfl
theorem pt_ob0 : LfT P (Tf P) [L,p] [paf4 P u tx tT p a181 plT ⟨⟨[c]⟩⟩ sT,lst vs1 n1] [] (ttOf (pt_ob_q P u tx tT p L plT c sT vs n ad0 tk0) 'm') 0 zve (fun ad tk=>[(paf4 P u tx tT p a181 plT ⟨⟨[c]⟩⟩ sT),(lst vs1 n1)]) zvn:=by revert P; refine LfT.rw1 4 0 ?_ ?_ <;> kernel_rfl
end
end
section
open PySem PySem.W PySem.W.X PyProof.Rows PySem.Builtin PySem.Builtin.Str PySem.Builtin.Int
variable {w : World} {A : Around} {h₀ : Heap} {s : Shared} {R : Result->Shared->Prop} {E : Value->Shared->Prop} {as : List Addr} {cs : List Obj} {D U : Nat} {T : BT}
noncomputable def Kept (as : List Addr) (h h' : Heap) : Prop:=∀ b o,b ∉ as->h.get? b = some o->h'.get? b = some o
theorem Kept.trans {h₁ h₂ h₃ : Heap} (a : Kept as h₁ h₂) (b : Kept as h₂ h₃) : Kept as h₁ h₃:=fun x o n e=>b x o n (a x o n e)
theorem Kept.refl {h : Heap} : Kept as h h:=fun _ _ _ e=>e
theorem Kept.ofRep {as gs : List Addr} {h h' : Heap} (R : Rep (hideAll h as) (as ++ gs) cs h') : Kept as h h':=fun b o n e=>R.keep b o (hideAll_get _ e n)
theorem Rep.own {h₀ h h' : Heap} {as gs : List Addr} {cs cs' : List Obj} (R : Rep h₀ as cs h) (R' : Rep (hideAll h as) (as ++ gs) cs' h') : Rep h₀ (as ++ gs) cs' h':=by
 have R1 : Rep h₀ (as ++ []) cs h:=by rw [List.append_nil]; exact R
 have hl:=R'.len
 simp at hl
 have:=R1.back (cs':=cs'.take as.length) (nw:=cs'.drop as.length) (gs:=gs) (by simp; omega) (by rw [List.take_append_drop]; exact R')
 have hd : cs.drop as.length = []:=by rw [List.drop_eq_nil_iff,R.len]; exact Nat.le_refl _
 rw [hd,List.nil_append,List.nil_append,List.take_append_drop] at this
 exact this
theorem Rep.self {h₀ h : Heap} (R : Rep h₀ as cs h) : Rep (hideAll h as) as cs h:=by
 have R1 : Rep h₀ (as ++ []) cs h:=by rw [List.append_nil]; exact R
 have:=R1.hideRest
 rw [R.len,List.take_length] at this
 exact this
theorem TopIn.self {h₀ h : Heap} (X : TopIn T h₀) (R : Rep h₀ as cs h) : TopIn T (hideAll h as):=by
 have R1 : Rep h₀ (as ++ []) cs h:=by rw [List.append_nil]; exact R
 exact X.hide R1
theorem Rep.new {h h' : Heap} {as gs : List Addr} (R : Rep (hideAll h as) (as ++ gs) cs h') {b : Addr} (hb : b ∈ gs) : h.get? b = none:=by
 cases e : h.get? b with
 | none=>rfl
 | some o =>
  have h1:=R.fresh b (List.mem_append.mpr (.inr hb))
  have h2 : b ∉ as:=fun q=>(List.nodup_append.mp R.nd).2.2 b q b hb rfl
  rw [hideAll_get _ e h2] at h1; cases h1
theorem Lf.run { α : Type } { w : World } { as : List Addr } { cs : List Obj } { xs : List Ext } { t : Sem α } { k : Nat } { evs : 'k'->'q'->List Ev } { cs' : 'k'->'q'->List Obj } { e : 'k'->'q'->RE α }
  (L : Lf w.params 'c' as cs xs t k evs cs' e) {A : Around} {h₀ : Heap} {s : Shared} {Q : α->Shared->Prop} {E : Value->Shared->Prop} (X : 'r') (R : Rep h₀ as cs s.heap) (hh : 'g')
  (hk : ∀ ad tk,(cs' ad tk).length = as.length + k) (C : ∀ ad tk,∀ y ∈ evs ad tk,EvP w 'c' as A ad y)
  (h : ∀ ad tk s',Rep h₀ (as ++ (List.range k).map ad) (cs' ad tk) s'.heap->Kept as s.heap s'.heap->Same s s'->EndP w A E Q (e ad tk) s') : WP w A t Q E s :=
 L.sound (X.self R) R.self hh hk C fun ad tk s' R' S'=>h ad tk s' (R.own R') (Kept.ofRep R') S'
theorem LfT.run { α : Type } { w : World } { as : List Addr } { cs : List Obj } { xs : List Ext } { x : TT α } { k : Nat } { evs : 'k'->'q'->List Ev } { cs' : 'k'->'q'->List Obj } { e : 'k'->'q'->RE α }
  (L : LfT w.params 'c' as cs xs x k evs cs' e) {Q : α->Shared->Prop} (X : 'r') (R : Rep h₀ as cs s.heap)
  (hk : ∀ ad tk,(cs' ad tk).length = as.length + k) (C : ∀ ad tk,∀ y ∈ evs ad tk,EvP w 'c' as A ad y)
  (h : ∀ ad tk s',Rep h₀ (as ++ (List.range k).map ad) (cs' ad tk) s'.heap->Kept as s.heap s'.heap->Same s s'->EndP w A E Q (e ad tk) s') : Snd w A E Q none x s :=
 L.sound (X.self R) R.self hk C fun ad tk s' R' S'=>h ad tk s' (R.own R') (Kept.ofRep R') S'
theorem append_code {p : Addr} {v : Value} {vs : List Value} {n : Nat} (hp : s.heap.get? p = some (lst vs n)) (hv : vs.length ≤ 1000)
  (H : R 'm' { s with heap:=s.heap.update p (Obj.mapSeq (·.push v)) }) : CA w A (.call (.builtin "list.append") ⟨[.ref p,v],[]⟩) R s:=by
 have hs : (1001 : Nat) ≤ sizeLine:=by decide +kernel
 refine codeAny_call_builtin slot_list_append.plain entry_list_append (slot_list_append.check _ _ _ _ _ _ _ _ ⟨_,hp,rfl⟩ (args_list_append _ _) ?_)
 show wpAny _ _ (updateSeq p (·.push v) >>= fun _=>ret .none) _ _ s
 exact wpAny_bind (wpAny_updateSeq hp rfl (wpAny_pure H) (by show vs.length ≤ _; omega) (by show (Array.push ⟨vs⟩ v).size ≤ _; rw [Array.size_push]; show vs.length + 1 ≤ _; omega))
theorem part_app {L p a : Addr} {fr o : Obj} {vs : List Value} {n : Nat} (R1 : Rep h₀ ([L,p] ++ [a]) [fr,lst vs n,o] s.heap) (hv : vs.length ≤ 1000)
  (H : ∀ s',Rep h₀ [L,p] [fr,lst (vs ++ [.ref a]) (n + 1)] s'.heap->s'.heap.get? a = some o->a ∉ [L,p]->Kept [L,p] s.heap s'.heap->Same s s'->R 'm' s') :
  CA w A (.call (.builtin "list.append") ⟨[.ref p,.ref a],[]⟩) R s:=by
 refine append_code (R1.cell 1 p _ rfl rfl) hv ?_
 have hn:=R1.nd
 simp only [List.cons_append,List.nil_append,List.nodup_cons,List.mem_cons,List.not_mem_nil,or_false,not_or] at hn
 have R2:=R1.update (m:=1) (a:=p) (o:=lst vs n) (f:=Obj.mapSeq (·.push (.ref a))) rfl rfl rfl
 rw [lst_push] at R2
 refine H _ ?_ (R2.cell 2 a _ rfl rfl) ?_ ?_ ⟨rfl,rfl,rfl⟩
 ·exact R2.pick [0,1] (by decide) (by simp)
 ·simp only [List.mem_cons,List.not_mem_nil,or_false,not_or]
  exact ⟨fun q=>hn.1.2 q.symm,fun q=>hn.2.1 q.symm⟩
 ·intro b o hb e
  exact (Heap.get?_update_ne _ _ _ _ (fun q=>hb (by rw [q]; exact .tail _ (.head _)))).trans e
inductive Ro where
 | kept | within | run | white | bare
noncomputable def roS : Ro->Str
 | .kept=>⟨⟨[nat_lit 107,nat_lit 101,nat_lit 112,nat_lit 116]⟩⟩
 | .within=>⟨⟨[nat_lit 119,nat_lit 105,nat_lit 116,nat_lit 104,nat_lit 105,nat_lit 110]⟩⟩
 | .run=>⟨⟨[nat_lit 114,nat_lit 117,nat_lit 110]⟩⟩
 | .white=>⟨⟨[nat_lit 119,nat_lit 104,nat_lit 105,nat_lit 116,nat_lit 101]⟩⟩
 | .bare=>⟨⟨[nat_lit 98,nat_lit 97,nat_lit 114,nat_lit 101]⟩⟩
inductive Pl where
 | non | hash | esc | sq | dq | ed
noncomputable def plS : Pl->Str
 | .non=>⟨⟨[]⟩⟩
 | .hash=>⟨⟨[nat_lit 35]⟩⟩
 | .esc=>⟨⟨[nat_lit 92]⟩⟩
 | .sq=>⟨⟨[nat_lit 39]⟩⟩
 | .dq=>⟨⟨[nat_lit 34]⟩⟩
 | .ed=>⟨⟨[nat_lit 34,nat_lit 92]⟩⟩
noncomputable def opsL : List Nat:=[40,41,59,60,62,124,38]
noncomputable def whtL : List Nat:=[32,9,13,10,35]
noncomputable def pstep (pl : Pl) (c : Nat) : Pl × List (Ro × List Nat):=match pl with
 | .hash=>if c = 10 then (.non,[]) else (.hash,[])
 | .esc=>(.non,[(.kept,[c])])
 | .ed=>if c ∈ [34,92] then (.dq,[(.within,[]),(.within,[c])]) else (.dq,[(.within,[92]),(.within,[c])])
 | .dq=>if c = 92 then (.ed,[]) else if c = 34 then (.non,[]) else (.dq,[(.within,[c])])
 | .sq=>if c = 39 then (.non,[]) else (.sq,[(.within,[c])])
 | .non=>if c ∈ opsL then (.non,[(.run,[c])]) else if c ∈ whtL then (if c = 35 then (.hash,[(.white,[c])]) else (.non,[(.white,[c])]))
  else if c = 92 then (.esc,[]) else if c ∈ [39,34] then (if c = 39 then (.sq,[(.within,[])]) else (.dq,[(.within,[])])) else (.non,[(.bare,[c])])
noncomputable def NTop (P : Params) (a : Addr) : Prop:=∀ o,(Tf P).get a = some o->o.isFreed = false->False
theorem Rep.ntop {P : Params} {h₀ h : Heap} (X : TopIn (Tf P) h₀) (R : Rep h₀ as cs h) {z : Addr} (hz : z ∈ as) : NTop P z:=fun o e1 e2=>by
 have:=X z o e1 e2
 rw [R.fresh z hz] at this; cases this
noncomputable def PartAt (P : Params) (as : List Addr) (h : Heap) (v : Value) (q : Ro × List Nat) : Prop:=∃ a t1 t2,v = .ref a ∧ a ∉ as ∧ NTop P a ∧ h.get? a = some (tpO [.str (roS q.1) t1,.str ⟨⟨q.2⟩⟩ t2])
inductive PartsAre (P : Params) (as : List Addr) (h : Heap) : List Value->List (Ro × List Nat)->Prop where
 | nil : PartsAre P as h [] []
 | cons {v : Value} {q : Ro × List Nat} {vs : List Value} {l : List (Ro × List Nat)} : PartAt P as h v q->PartsAre P as h vs l->PartsAre P as h (v :: vs) (q :: l)
theorem PartsAre.keep {P : Params} {h h' : Heap} {vs : List Value} {l : List (Ro × List Nat)} (p : PartsAre P as h vs l) (k : Kept as h h') : PartsAre P as h' vs l:=by
 induction p with
 | nil=>exact .nil
 | cons q _ ih =>
  obtain ⟨a,t1,t2,h1,h2,hn,h3⟩:=q
  exact .cons ⟨a,t1,t2,h1,h2,hn,k _ _ h2 h3⟩ ih
theorem PartsAre.snoc {P : Params} {h : Heap} {vs : List Value} {l : List (Ro × List Nat)} (p : PartsAre P as h vs l) {v : Value} {q : Ro × List Nat} (hv : PartAt P as h v q) : PartsAre P as h (vs ++ [v]) (l ++ [q]):=by
 induction p with
 | nil=>exact .cons hv .nil
 | cons q _ ih=>exact .cons q ih
theorem PartsAre.len {P : Params} {h : Heap} {vs : List Value} {l : List (Ro × List Nat)} (p : PartsAre P as h vs l) : vs.length = l.length:=by
 induction p with
 | nil=>rfl
 | cons q _ ih=>simp [ih]
section
variable (P : Params) (u : Nat->Tok) (tx : Str) (tT : Tok) (p : Addr) (pl : Str) (plT : Tok) (sg : Str) (sT : Tok) (z : Str) (t t' : Tok)
theorem paf_pl : sv (paf4 P u tx tT p pl plT sg sT) 2 (.str z t) = paf4 P u tx tT p z t sg sT:=by kernel_rfl!
theorem paf_sg : sv (paf4 P u tx tT p pl plT sg sT) 3 (.str z t) = paf4 P u tx tT p pl plT z t:=by kernel_rfl!
noncomputable def uN (u : Nat->Tok) (i : Nat) (t : Tok) : Nat->Tok:=fun n=>match Nat.beq n i with
 | true=>t
 | false=>u n
theorem paf_sn : sn (paf3 P u tx tT p pl plT) (en P a457 t' (.str z t)) = paf4 P (uN u 3 t') tx tT p pl plT z t:=by kernel_rfl!
noncomputable def PaEnd (w : World) (u : Nat->Tok) (tx : Str) (tT : Tok) (h₀ : Heap) (L p : Addr) (sg : Str) (sT : Tok) (l : List (Ro × List Nat)) (s : Shared) (q : Pl × List (Ro × List Nat)) (f : Flow) (s' : Shared) : Prop :=
 f = .next ∧ ∃ plT vs n,Rep h₀ [L,p] [paf4 w.params u tx tT p (plS q.1) plT sg sT,lst vs n] s'.heap ∧ PartsAre w.params [L,p] s'.heap vs (l ++ q.2) ∧ Kept [L,p] s.heap s'.heap ∧ Same s s'
end
section
variable {w : World} {u : Nat->Tok} {tx : Str} {tT : Tok} {L p : Addr} {c : Nat} {plT sT : Tok} {vs : List Value} {n : Nat} {l : List (Ro × List Nat)} {A : Around} {h₀ : Heap} {s : Shared} {E : Value->Shared->Prop} {pl : Str} {t : Sem Flow}
theorem pa_none {xs : List Ext} {evs : 'k'->'q'->List Ev} {q : Pl} (fT : 'q'->Tok) (X : 'r') (R : Rep h₀ [L,p] [paf4 w.params u tx tT p pl plT ⟨⟨[c]⟩⟩ sT,lst vs n] s.heap) (hv : PartsAre w.params [L,p] s.heap vs l) (hh : 'g')
  (Lv : Lf w.params 'c' [L,p] [paf4 w.params u tx tT p pl plT ⟨⟨[c]⟩⟩ sT,lst vs n] xs t 0 evs (fun _ tk=>[sv (paf4 w.params u tx tT p pl plT ⟨⟨[c]⟩⟩ sT) 2 (.str (plS q) (fT tk)),lst vs n]) (fun _ _=>.val .next))
  (C : ∀ ad tk,∀ y ∈ evs ad tk,EvP w 'c' [L,p] A ad y) : WP w A t (PaEnd w u tx tT h₀ L p ⟨⟨[c]⟩⟩ sT l s (q,[])) E s:=by
 refine Lv.run X R hh 'a' C ?_
 intro ad tk s' R' K S'
 rw [paf_pl] at R'
 exact ⟨rfl,fT tk,vs,n,R',by simpa using hv.keep K,K,S'⟩
theorem pa_one {xs : List Ext} {evs : 'k'->'q'->List Ev} {tt : 'k'->'q'->Result->TT Flow} {q : Pl × List (Ro × List Nat)} (ro : Ro) (z : List Nat) {t1 t2 : 'q'->Tok}
  (X : 'r') (R : Rep h₀ [L,p] [paf4 w.params u tx tT p pl plT ⟨⟨[c]⟩⟩ sT,lst vs n] s.heap) (hv : PartsAre w.params [L,p] s.heap vs l) (hl : l.length ≤ 900) (hh : 'g')
  (Lv : Lf w.params 'c' [L,p] [paf4 w.params u tx tT p pl plT ⟨⟨[c]⟩⟩ sT,lst vs n] xs t 1 evs (fun _ tk=>[paf4 w.params u tx tT p pl plT ⟨⟨[c]⟩⟩ sT,lst vs n,tpO [.str (roS ro) (t1 tk),.str ⟨⟨z⟩⟩ (t2 tk)]]) (fun ad tk=>.cut (.call (.builtin "list.append") ⟨[.ref p,.ref (ad 0)],[]⟩) 0 none (tt ad tk)))
  (C : ∀ ad tk,∀ y ∈ evs ad tk,EvP w 'c' [L,p] A ad y)
  (Lw : ∀ ad0 tk0 vs n s1,Rep h₀ [L,p] [paf4 w.params u tx tT p pl plT ⟨⟨[c]⟩⟩ sT,lst vs n] s1.heap->PartsAre w.params [L,p] s1.heap vs (l ++ [(ro,z)])->Kept [L,p] s.heap s1.heap->Same s s1->Snd w A E (PaEnd w u tx tT h₀ L p ⟨⟨[c]⟩⟩ sT l s q) none (tt ad0 tk0 'm') s1) :
  WP w A t (PaEnd w u tx tT h₀ L p ⟨⟨[c]⟩⟩ sT l s q) E s:=by
 refine Lv.run X R hh 'a' C ?_
 intro ad tk s1 R1 K1 S1 A' d1 d2 d3 d4 d5
 refine part_app (a:=ad 0) R1 (by rw [hv.len]; omega) ?_
 intro s2 R2 g1 g2 K2 S2
 have K:=K1.trans K2
 exact Lw ad tk _ _ s2 R2 ((hv.keep K).snoc ⟨ad 0,t1 tk,t2 tk,rfl,g2,R1.ntop X (.tail _ (.tail _ (.head _))),g1⟩) K (S1.trans S2)
theorem pa_two {x : TT Flow} {s0 : Shared} {l0 : List (Ro × List Nat)} {tt : 'k'->'q'->Result->TT Flow} {q : Pl × List (Ro × List Nat)} (ro : Ro) (z : List Nat) {t1 t2 : 'q'->Tok}
  (X : 'r') (R : Rep h₀ [L,p] [paf4 w.params u tx tT p pl plT ⟨⟨[c]⟩⟩ sT,lst vs n] s.heap) (hv : PartsAre w.params [L,p] s.heap vs l) (hl : l.length ≤ 901) (K0 : Kept [L,p] s0.heap s.heap) (S0 : Same s0 s)
  (Lv : LfT w.params 'c' [L,p] [paf4 w.params u tx tT p pl plT ⟨⟨[c]⟩⟩ sT,lst vs n] [] x 1 (fun _ _=>[]) (fun _ tk=>[paf4 w.params u tx tT p pl plT ⟨⟨[c]⟩⟩ sT,lst vs n,tpO [.str (roS ro) (t1 tk),.str ⟨⟨z⟩⟩ (t2 tk)]]) (fun ad tk=>.cut (.call (.builtin "list.append") ⟨[.ref p,.ref (ad 0)],[]⟩) 0 none (tt ad tk)))
  (Lw : ∀ ad0 tk0 vs n s1,Rep h₀ [L,p] [paf4 w.params u tx tT p pl plT ⟨⟨[c]⟩⟩ sT,lst vs n] s1.heap->PartsAre w.params [L,p] s1.heap vs (l ++ [(ro,z)])->Kept [L,p] s0.heap s1.heap->Same s0 s1->Snd w A E (PaEnd w u tx tT h₀ L p ⟨⟨[c]⟩⟩ sT l0 s0 q) none (tt ad0 tk0 'm') s1) :
  Snd w A E (PaEnd w u tx tT h₀ L p ⟨⟨[c]⟩⟩ sT l0 s0 q) none x s:=by
 refine Lv.run X R 'a' 'e' ?_
 intro ad tk s1 R1 K1 S1 A' d1 d2 d3 d4 d5
 refine part_app (a:=ad 0) R1 (by rw [hv.len]; omega) ?_
 intro s2 R2 g1 g2 K2 S2
 have K:=K1.trans K2
 exact Lw ad tk _ _ s2 R2 ((hv.keep K).snoc ⟨ad 0,t1 tk,t2 tk,rfl,g2,R1.ntop X (.tail _ (.tail _ (.head _))),g1⟩) (K0.trans K) (S0.trans (S1.trans S2))
theorem pa_fin {x : TT Flow} {s0 : Shared} {l0 l1 : List (Ro × List Nat)} {q : Pl} (X : 'r') (R : Rep h₀ [L,p] [paf4 w.params u tx tT p pl plT ⟨⟨[c]⟩⟩ sT,lst vs n] s.heap) (hv : PartsAre w.params [L,p] s.heap vs (l0 ++ l1)) (K0 : Kept [L,p] s0.heap s.heap) (S0 : Same s0 s) (hq : pl = plS q)
  (Lv : LfT w.params 'c' [L,p] [paf4 w.params u tx tT p pl plT ⟨⟨[c]⟩⟩ sT,lst vs n] [] x 0 (fun _ _=>[]) (fun _ tk=>[paf4 w.params u tx tT p pl plT ⟨⟨[c]⟩⟩ sT,lst vs n]) (fun _ _=>.val .next)) :
  Snd w A E (PaEnd w u tx tT h₀ L p ⟨⟨[c]⟩⟩ sT l0 s0 (q,l1)) none x s:=by
 subst hq
 refine Lv.run X R 'a' 'e' ?_
 intro ad tk s1 R1 K1 S1
 exact ⟨rfl,plT,vs,n,R1,hv.keep K1,K0.trans K1,S0.trans S1⟩
theorem pa_finP {x : TT Flow} {s0 : Shared} {xs : List Ext} {evs : 'k'->'q'->List Ev} {l0 l1 : List (Ro × List Nat)} {q : Pl} (fT : 'q'->Tok) (X : 'r') (R : Rep h₀ [L,p] [paf4 w.params u tx tT p pl plT ⟨⟨[c]⟩⟩ sT,lst vs n] s.heap) (hv : PartsAre w.params [L,p] s.heap vs (l0 ++ l1)) (K0 : Kept [L,p] s0.heap s.heap) (S0 : Same s0 s)
  (Lv : LfT w.params 'c' [L,p] [paf4 w.params u tx tT p pl plT ⟨⟨[c]⟩⟩ sT,lst vs n] xs x 0 evs (fun _ tk=>[sv (paf4 w.params u tx tT p pl plT ⟨⟨[c]⟩⟩ sT) 2 (.str (plS q) (fT tk)),lst vs n]) (fun _ _=>.val .next))
  (C : ∀ ad tk,∀ y ∈ evs ad tk,EvP w 'c' [L,p] A ad y) :
  Snd w A E (PaEnd w u tx tT h₀ L p ⟨⟨[c]⟩⟩ sT l0 s0 (q,l1)) none x s:=by
 refine Lv.run X R 'a' C ?_
 intro ad tk s1 R1 K1 S1
 rw [paf_pl] at R1
 exact ⟨rfl,fT tk,vs,n,R1,hv.keep K1,K0.trans K1,S0.trans S1⟩
end
theorem c_eq {a b : Nat} {t u : Tok} (r : Bool) (h : decide (a = b) = r) :
  Con w T as (.call (.builtin "str.__eq__") ⟨[.str ⟨⟨[a]⟩⟩ t,.str ⟨⟨[b]⟩⟩ u],[]⟩) cs (xP fun _=>.bool r) D U:=con_eq r (by
 rw [← h]
 by_cases q : a = b <;> simp [q])
theorem pa_turn {u : 'f'} {tx : Str} {tT : Tok} {L p : Addr} {c : Nat} {plT sT : Tok} {vs : List Value} {n : Nat} {l : List (Ro × List Nat)} (pl : Pl)
  (X : 'r') (R : Rep h₀ [L,p] [paf4 w.params u tx tT p (plS pl) plT ⟨⟨[c]⟩⟩ sT,lst vs n] s.heap) (hv : PartsAre w.params [L,p] s.heap vs l) (hl : l.length ≤ 900) (hh : 'g') :
  WP w A (execs (sBody (sNth body755 2)) (env755 L)) (PaEnd w u tx tT h₀ L p ⟨⟨[c]⟩⟩ sT l s (pstep pl c)) E s:=by
 rw [tw_execs]
 cases pl with
 | hash =>
  by_cases h : c = 10
  ·rw [show pstep .hash c = (.non,[]) from by simp [pstep,h]]
   exact pa_none _ X R hv hh (pt_h1 w.params u tx tT p L plT c sT vs n) (fun _ _=>all_cons (fun _ _=>c_eq true (by simp [h])) all_nil)
  ·rw [show pstep .hash c = (.hash,[]) from by simp [pstep,h]]
   exact pa_none _ X R hv hh (pt_h0 w.params u tx tT p L plT c sT vs n) (fun _ _=>all_cons (fun _ _=>c_eq false (by simp [h])) all_nil)
 | esc =>
  exact pa_one .kept [c] X R hv hl hh (pt_e w.params u tx tT p L plT c sT vs n) 'e' fun ad0 tk0 vs1 n1 s1 R1 hv1 K1 S1 =>
   pa_finP _ X R1 hv1 K1 S1 (pt_e0 w.params u tx tT p L plT c sT vs n vs1 n1 ad0 tk0) (fun _ _=>all_nil)
 | ed =>
  by_cases h : c ∈ [34,92]
  ·rw [show pstep .ed c = (.dq,[(.within,[]),(.within,[c])]) from by simp only [pstep,h,if_true]]
   exact pa_one .within [] X R hv hl hh (pt_d1 w.params u tx tT p L plT c sT vs n) (fun _ _=>all_cons (fun _ _=>con_in1 true (by simpa using h)) all_nil) fun ad0 tk0 vs1 n1 s1 R1 hv1 K1 S1 =>
    pa_two .within [c] X R1 hv1 (by simp; omega) K1 S1 (pt_d10 w.params u tx tT p L plT c sT vs n vs1 n1 ad0 tk0) fun ad1 tk1 vs2 n2 s2 R2 hv2 K2 S2 =>
     pa_finP _ X R2 (by simpa using hv2) K2 S2 (pt_d11 w.params u tx tT p L plT c sT vs n vs1 vs2 n1 n2 ad0 tk0 ad1 tk1) (fun _ _=>all_nil)
  ·rw [show pstep .ed c = (.dq,[(.within,[92]),(.within,[c])]) from by simp only [pstep,h,if_false]]
   exact pa_one .within [92] X R hv hl hh (pt_d0 w.params u tx tT p L plT c sT vs n) (fun _ _=>all_cons (fun _ _=>con_in1 false (by simpa using h)) all_nil) fun ad0 tk0 vs1 n1 s1 R1 hv1 K1 S1 =>
    pa_two .within [c] X R1 hv1 (by simp; omega) K1 S1 (pt_d00 w.params u tx tT p L plT c sT vs n vs1 n1 ad0 tk0) fun ad1 tk1 vs2 n2 s2 R2 hv2 K2 S2 =>
     pa_finP _ X R2 (by simpa using hv2) K2 S2 (pt_d01 w.params u tx tT p L plT c sT vs n vs1 vs2 n1 n2 ad0 tk0 ad1 tk1) (fun _ _=>all_nil)
 | dq =>
  by_cases h : c = 92
  ·rw [show pstep .dq c = (.ed,[]) from by simp only [pstep,h,if_true]]
   exact pa_none _ X R hv hh (pt_qe w.params u tx tT p L plT c sT vs n) (fun _ _=>all_cons (fun _ _=>c_eq true (by simp [h])) all_nil)
  ·by_cases h2 : c = 34
   ·rw [show pstep .dq c = (.non,[]) from by simp only [pstep,h,h2,if_true,if_false]; rfl]
    exact pa_none _ X R hv hh (pt_qq w.params u tx tT p L plT c sT vs n) (fun _ _=>all_cons (fun _ _=>c_eq false (by simp [h])) (all_cons (fun _ _=>c_eq true (by simp [h2])) all_nil))
   ·rw [show pstep .dq c = (.dq,[(.within,[c])]) from by simp only [pstep,h,h2,if_false]]
    exact pa_one .within [c] X R hv hl hh (pt_qo w.params u tx tT p L plT c sT vs n) (fun _ _=>all_cons (fun _ _=>c_eq false (by simp [h])) (all_cons (fun _ _=>c_eq false (by simp [h2])) all_nil)) fun ad0 tk0 vs1 n1 s1 R1 hv1 K1 S1 =>
     pa_fin X R1 hv1 K1 S1 rfl (pt_qo0 w.params u tx tT p L plT c sT vs n vs1 n1 ad0 tk0)
 | sq =>
  by_cases h : c = 39
  ·rw [show pstep .sq c = (.non,[]) from by simp only [pstep,h,if_true]]
   exact pa_none _ X R hv hh (pt_sq w.params u tx tT p L plT c sT vs n) (fun _ _=>all_cons (fun _ _=>c_eq true (by simp [h])) all_nil)
  ·rw [show pstep .sq c = (.sq,[(.within,[c])]) from by simp only [pstep,h,if_false]]
   exact pa_one .within [c] X R hv hl hh (pt_so w.params u tx tT p L plT c sT vs n) (fun _ _=>all_cons (fun _ _=>c_eq false (by simp [h])) all_nil) fun ad0 tk0 vs1 n1 s1 R1 hv1 K1 S1 =>
    pa_fin X R1 hv1 K1 S1 rfl (pt_so0 w.params u tx tT p L plT c sT vs n vs1 n1 ad0 tk0)
 | non =>
  by_cases h : c ∈ opsL
  ·rw [show pstep .non c = (.non,[(.run,[c])]) from by simp only [pstep,h,if_true]]
   exact pa_one .run [c] X R hv hl hh (pt_or w.params u tx tT p L plT c sT vs n) (fun _ _=>all_cons (fun _ _=>con_in1 true (decide_eq_true h)) all_nil) fun ad0 tk0 vs1 n1 s1 R1 hv1 K1 S1 =>
    pa_fin X R1 hv1 K1 S1 rfl (pt_or0 w.params u tx tT p L plT c sT vs n vs1 n1 ad0 tk0)
  ·have e1 : ∀ {as : List Addr} {cs : List Obj} {t : Tok} {D U : Nat},Con w (Tf w.params) as (.call (.builtin "str.__contains__") ⟨[.str ⟨⟨opsL⟩⟩ t,.str ⟨⟨[c]⟩⟩ sT],[]⟩) cs xF D U:=con_in1 false (decide_eq_false h)
   by_cases h2 : c ∈ whtL
   ·have e2 : ∀ {as : List Addr} {cs : List Obj} {t : Tok} {D U : Nat},Con w (Tf w.params) as (.call (.builtin "str.__contains__") ⟨[.str ⟨⟨whtL⟩⟩ t,.str ⟨⟨[c]⟩⟩ sT],[]⟩) cs xT D U:=con_in1 true (decide_eq_true h2)
    by_cases h3 : c = 35
    ·rw [show pstep .non c = (.hash,[(.white,[c])]) from by rw [h3]; rfl]
     exact pa_one .white [c] X R hv hl hh (pt_oh w.params u tx tT p L plT c sT vs n) (fun _ _=>all_cons (fun _ _=>e1) (all_cons (fun _ _=>e2) all_nil)) fun ad0 tk0 vs1 n1 s1 R1 hv1 K1 S1 =>
      pa_finP _ X R1 hv1 K1 S1 (pt_oh0 w.params u tx tT p L plT c sT vs n vs1 n1 ad0 tk0) (fun _ _=>all_cons (fun _ _=>c_eq true (by simp [h3])) all_nil)
    ·rw [show pstep .non c = (.non,[(.white,[c])]) from by simp only [pstep,h,h2,h3,if_true,if_false]]
     exact pa_one .white [c] X R hv hl hh (pt_ow w.params u tx tT p L plT c sT vs n) (fun _ _=>all_cons (fun _ _=>e1) (all_cons (fun _ _=>e2) all_nil)) fun ad0 tk0 vs1 n1 s1 R1 hv1 K1 S1 =>
      pa_finP _ X R1 hv1 K1 S1 (pt_ow0 w.params u tx tT p L plT c sT vs n vs1 n1 ad0 tk0) (fun _ _=>all_cons (fun _ _=>c_eq false (by simp [h3])) all_nil)
   ·have e2 : ∀ {as : List Addr} {cs : List Obj} {t : Tok} {D U : Nat},Con w (Tf w.params) as (.call (.builtin "str.__contains__") ⟨[.str ⟨⟨whtL⟩⟩ t,.str ⟨⟨[c]⟩⟩ sT],[]⟩) cs xF D U:=con_in1 false (decide_eq_false h2)
    by_cases h3 : c = 92
    ·rw [show pstep .non c = (.esc,[]) from by rw [h3]; rfl]
     subst h3
     exact pa_none _ X R hv hh (pt_oe w.params u tx tT p L plT 92 sT vs n) (fun _ _=>all_cons (fun _ _=>e1) (all_cons (fun _ _=>e2) (all_cons (fun _ _=>c_eq true rfl) all_nil)))
    ·by_cases h4 : c ∈ [39,34]
     ·have go : ∀ q : Pl,plS q = ⟨⟨[c]⟩⟩->WP w A (zEX (sBody (sNth body755 2)) (env755 L)) (PaEnd w u tx tT h₀ L p ⟨⟨[c]⟩⟩ sT l s (q,[(.within,[])])) E s:=fun q hq =>
       pa_one .within [] X R hv hl hh (pt_oq w.params u tx tT p L plT c sT vs n) (fun _ _=>all_cons (fun _ _=>e1) (all_cons (fun _ _=>e2) (all_cons (fun _ _=>c_eq false (by simp [h3])) (all_cons (fun _ _=>con_in1 true (by simpa using h4)) all_nil)))) fun ad0 tk0 vs1 n1 s1 R1 hv1 K1 S1 =>
        pa_finP (fun _=>sT) X R1 hv1 K1 S1 (by rw [hq]; exact pt_oq0 w.params u tx tT p L plT c sT vs n vs1 n1 ad0 tk0) (fun _ _=>all_nil)
      by_cases h5 : c = 39
      ·rw [show pstep .non c = (.sq,[(.within,[])]) from by rw [h5]; rfl]
       exact go .sq (by rw [h5]; rfl)
      ·have h6 : c = 34:=by simpa [h5] using h4
       rw [show pstep .non c = (.dq,[(.within,[])]) from by rw [h6]; rfl]
       exact go .dq (by rw [h6]; rfl)
     ·rw [show pstep .non c = (.non,[(.bare,[c])]) from by simp only [pstep,h,h2,h3,h4,if_false]]
      exact pa_one .bare [c] X R hv hl hh (pt_ob w.params u tx tT p L plT c sT vs n) (fun _ _=>all_cons (fun _ _=>e1) (all_cons (fun _ _=>e2) (all_cons (fun _ _=>c_eq false (by simp [h3])) (all_cons (fun _ _=>con_in1 false (by simpa using h4)) all_nil)))) fun ad0 tk0 vs1 n1 s1 R1 hv1 K1 S1 =>
       pa_fin X R1 hv1 K1 S1 rfl (pt_ob0 w.params u tx tT p L plT c sT vs n vs1 n1 ad0 tk0)
variable {w : World} {A : Around} {h₀ : Heap} {s : Shared} {R : Result->Shared->Prop} {E : Value->Shared->Prop} {as : List Addr} {cs : List Obj}
noncomputable abbrev y92:=xElts (sRet (body755.drop 3))
section
variable (P : Params) (u : Nat->Tok) (tx : Str) (tT : Tok) (p L : Addr) (pl : Str) (plT : Tok) (c : Nat) (sT : Tok) (it v : Value) (env : Env) (x : Value)
theorem paP3 : Lf P (Tf P) [L] [paf3 P u tx tT p pl plT] [] (zEV (eNth y92 0) (env755 L)) 0 zve (fun ad tk=>[(paf3 P u tx tT p pl plT)]) (fun ad tk=>(.val (.ref p))):=.mk' 5 1 (by kernel_rfl)
theorem paN3 : Lf P (Tf P) [L] [paf3 P u tx tT p pl plT] [] (zEV (eNth (xArgs (eNth y92 1)) 0) (env755 L)) 0 zve (fun ad tk=>[(paf3 P u tx tT p pl plT)]) (fun ad tk=>(.val (.str pl plT))):=.mk' 5 1 (by kernel_rfl)
theorem paP4 : Lf P (Tf P) [L] [paf4 P u tx tT p pl plT ⟨⟨[c]⟩⟩ sT] [] (zEV (eNth y92 0) (env755 L)) 0 zve (fun ad tk=>[(paf4 P u tx tT p pl plT ⟨⟨[c]⟩⟩ sT)]) (fun ad tk=>(.val (.ref p))):=.mk' 5 1 (by kernel_rfl)
theorem paN4 : Lf P (Tf P) [L] [paf4 P u tx tT p pl plT ⟨⟨[c]⟩⟩ sT] [] (zEV (eNth (xArgs (eNth y92 1)) 0) (env755 L)) 0 zve (fun ad tk=>[(paf4 P u tx tT p pl plT ⟨⟨[c]⟩⟩ sT)]) (fun ad tk=>(.val (.str pl plT))):=.mk' 5 1 (by kernel_rfl)
theorem pa_split : body755 = body755.take 2 ++ (sNth body755 2 :: body755.drop 3):=by kernel_rfl!
theorem pa_for : sNth body755 2 = .For (fTgt y74) (fIter y74) y26 (sElse y74) (sPos y74):=by kernel_rfl!
theorem pa_else : sElse (sNth body755 2) = []:=by kernel_rfl!
theorem pa_let : letOwnedTupleGo (fTgt y74) it v = pure ():=by kernel_rfl!
theorem pa_fold : foldedSetIterable (fIter y74) env x = pure x:=by kernel_rfl!
theorem tw_assign (e : Expr) (env : Env) (v : Value) : assign e env v = Fast.tw17772580674575903948 e env v:=by rw [Fast.te17772580674575903948]
theorem Lf.part { α : Type } { w : World } { as la : List Addr } { cs cl : List Obj } { xs : List Ext } { t : Sem α } { evs : 'k'->'q'->List Ev } { cs' : 'k'->'q'->List Obj } { e : 'k'->'q'->RE α }
  (L : Lf w.params 'c' as cs xs t 0 evs cs' e) {A : Around} {h₀ : Heap} {s : Shared} {Q : α->Shared->Prop} {E : Value->Shared->Prop} (X : 'r') (R : Rep h₀ (as ++ la) (cs ++ cl) s.heap) (hl : cs.length = as.length) (hh : 'g')
  (hk : ∀ ad tk,(cs' ad tk).length = as.length) (C : ∀ ad tk,∀ y ∈ evs ad tk,EvP w 'c' as A ad y)
  (h : ∀ ad tk s',Rep h₀ (as ++ la) (cs' ad tk ++ cl) s'.heap->Kept as s.heap s'.heap->Same s s'->EndP w A E Q (e ad tk) s') : WP w A t Q E s:=by
 have R1 : Rep (hideAll s.heap as) as cs s.heap:=by
  have:=R.hideRest
  rw [← hl,List.take_left] at this
  exact this
 refine L.sound (X.hide R) R1 hh (fun ad tk=>hk ad tk) C ?_
 intro ad tk s' R' S'
 have R2 : Rep (hideAll s.heap as) as (cs' ad tk) s'.heap:=by simpa using R'
 have:=R.back0 (hk ad tk) R2
 rw [← hl,List.drop_left] at this
 exact h ad tk s' this (fun b o n q=>R2.keep b o (hideAll_get _ q n)) S'
theorem Rep.extBut {h₀ h h' : Heap} {it : Addr} (R : Rep h₀ as cs h) (k : ∀ b o,b ≠ it->h.get? b = some o->h'.get? b = some o) (h1 : it ∉ as) (h2 : h₀.get? it = none) : Rep h₀ as cs h' :=
 ⟨R.len,R.nd,fun m a o e1 e2=>k a o (fun q=>h1 (q ▸ List.mem_of_getElem? e1)) (R.cell m a o e1 e2),R.fresh,fun b o q=>k b o (fun e=>by rw [e,h2] at q; cases q) (R.keep b o q)⟩
theorem PartsAre.weak {P : Params} {as as' : List Addr} {h : Heap} {vs : List Value} {l : List (Ro × List Nat)} (p : PartsAre P as h vs l) (k : ∀ b ∈ as',b ∈ as ∨ ∃ o,h.get? b = some o ∧ o.cls ≠ .type "tuple") : PartsAre P as' h vs l:=by
 induction p with
 | nil=>exact .nil
 | cons q _ ih =>
  obtain ⟨a,t1,t2,h1,h2,hn,h3⟩:=q
  refine .cons ⟨a,t1,t2,h1,fun q=>?_,hn,h3⟩ ih
  rcases k a q with q | ⟨o,q1,q2⟩
  ·exact h2 q
  ·rw [h3] at q1; cases q1; exact q2 rfl
noncomputable def prun (pl : Pl) : List Nat->Pl × List (Ro × List Nat)
 | []=>(pl,[])
 | c :: r=>((prun (pstep pl c).1 r).1,(pstep pl c).2 ++ (prun (pstep pl c).1 r).2)
theorem pstep_len (pl : Pl) (c : Nat) : (pstep pl c).2.length ≤ 2:=by
 cases pl <;> simp only [pstep] <;> repeat' split
 all_goals simp
noncomputable def PaF (P : Params) (u : Nat->Tok) (tx : Str) (tT : Tok) (p : Addr) (pl : Str) (plT : Tok) (fr : Obj) : Prop:=fr = paf3 P u tx tT p pl plT ∨ ∃ c sT,fr = paf4 P u tx tT p pl plT ⟨⟨[c]⟩⟩ sT
theorem pa_asg {u : 'f'} {tx : Str} {tT : Tok} {L p : Addr} {pl : Str} {plT : Tok} {fr o : Obj} (c : Nat) (sT : Tok) {Q : Unit->Shared->Prop} (hf : PaF w.params u tx tT p pl plT fr)
  (X : 'r') (R : Rep h₀ [L,p] [fr,o] s.heap) (hh : 'g')
  (h : ∀ u' s',Rep h₀ [L,p] [paf4 w.params u' tx tT p pl plT ⟨⟨[c]⟩⟩ sT,o] s'.heap->Kept [L,p] s.heap s'.heap->Same s s'->Q () s') : WP w A (assign (fTgt (sNth body755 2)) (env755 L) (.str ⟨⟨[c]⟩⟩ sT)) Q E s:=by
 rw [tw_assign]
 rcases hf with rfl | ⟨c0,s0,rfl⟩
 ·refine (paS3 w.params u tx tT p L pl plT c sT).part (la:=[p]) (cl:=[o]) X R rfl hh 'a' 'e' ?_
  intro ad tk s' R' K S
  rw [paf_sn] at R'
  exact h _ s' R' (fun b o n e=>K b o (fun q=>n (by simp at q; simp [q])) e) S
 ·refine (paS4 w.params u tx tT p L pl plT c0 s0 c sT).part (la:=[p]) (cl:=[o]) X R rfl hh 'a' 'e' ?_
  intro ad tk s' R' K S
  rw [paf_sg] at R'
  exact h _ s' R' (fun b o n e=>K b o (fun q=>n (by simp at q; simp [q])) e) S
theorem pa_names {u : 'f'} {tx : Str} {tT : Tok} {L p : Addr} {pl : Str} {plT : Tok} {fr : Obj} (hf : PaF w.params u tx tT p pl plT fr) :
  Lf w.params 'c' [L] [fr] [] (zEV (eNth (xElts (sRet (body755.drop 3))) 0) (env755 L)) 0 (fun _ _=>[]) (fun _ _=>[fr]) (fun _ _=>.val (.ref p)) ∧
  Lf w.params 'c' [L] [fr] [] (zEV (eNth (xArgs (eNth (xElts (sRet (body755.drop 3))) 1)) 0) (env755 L)) 0 (fun _ _=>[]) (fun _ _=>[fr]) (fun _ _=>.val (.str pl plT)):=by
 rcases hf with rfl | ⟨c0,s0,rfl⟩
 ·exact ⟨paP3 w.params u tx tT p L pl plT,paN3 w.params u tx tT p L pl plT⟩
 ·exact ⟨paP4 w.params u tx tT p L pl plT c0 s0,paN4 w.params u tx tT p L pl plT c0 s0⟩
theorem size_none (h : Heap) : h.get? h.objs.size = none:=by
 cases e : h.get? h.objs.size with
 | none=>rfl
 | some o=>exact absurd (Heap.lt_size e) (Nat.lt_irrefl _)
noncomputable def itTy (x : Str) : String:=match x.cps.all (· < 128) with
 | true=>"str_ascii_iterator"
 | false=>"str_iterator"
theorem str_iter {x : Str} {t : Tok} {Q : Value->Shared->Prop} {E : Value->Shared->Prop}
  (h : ∀ it s',s'.heap.IsStrIter it (itTy x) x t 0->(∀ b o,s.heap.get? b = some o->s'.heap.get? b = some o)->s.heap.get? it = none->Same s s'->Q (.ref it) s') : WP w A (pyIter (.str x t)) Q E s:=by
 have no : s.heap.get? s.heap.objs.size = none:=size_none s.heap
 cases ha : x.cps.all (· < 128) with
 | true =>
  refine wpAny_pyIter_ascii ha (h _ _ ?_ (fun b o q=>Heap.get?_push_of_some _ q) no ⟨rfl,rfl,rfl⟩)
  exact ⟨_,Heap.get?_push_size _ rfl,by simp only [itTy,ha],rfl⟩
 | false =>
  refine wpAny_pyIter_wide ha (h _ _ ?_ (fun b o q=>Heap.get?_push_of_some _ q) no ⟨rfl,rfl,rfl⟩)
  exact ⟨_,Heap.get?_push_size _ rfl,by simp only [itTy,ha],rfl⟩
theorem str_next {x : Str} {t : Tok} {it : Addr} {i c : Nat} {Q : Option Value->Shared->Prop} (hit : s.heap.IsStrIter it (itTy x) x t i) (hx : x.cps[i]? = some c)
  (h : ∀ cT s',s'.heap.IsStrIter it (itTy x) x t (i + 1)->(∀ b o,b ≠ it->s.heap.get? b = some o->s'.heap.get? b = some o)->Same s s'->Q (some (.str ⟨⟨[c]⟩⟩ cT)) s') : WP w A (pyNext (.ref it)) Q E s:=by
 cases ha : x.cps.all (· < 128) with
 | true =>
  have e : itTy x = "str_ascii_iterator":=by simp only [itTy,ha]
  rw [e] at hit h
  exact wpAny_pyNext_ascii_item hit hx fun h' h1 h2=>h _ _ h1 h2.extBut ⟨rfl,rfl,rfl⟩
 | false =>
  have e : itTy x = "str_iterator":=by simp only [itTy,ha]
  rw [e] at hit h
  exact wpAny_pyNext_wide_item hit hx fun h' h1 h2=>h _ _ h1 h2.extBut ⟨rfl,rfl,rfl⟩
theorem str_done {x : Str} {t : Tok} {it : Addr} {i : Nat} {Q : Option Value->Shared->Prop} (hh : 'g') (hit : s.heap.IsStrIter it (itTy x) x t i) (hx : x.cps[i]? = none)
  (h : ∀ s',(∀ b o,b ≠ it->s.heap.get? b = some o->s'.heap.get? b = some o)->Same s s'->Q none s') : WP w A (pyNext (.ref it)) Q E s:=by
 cases ha : x.cps.all (· < 128) with
 | true =>
  have e : itTy x = "str_ascii_iterator":=by simp only [itTy,ha]
  rw [e] at hit
  exact wpAny_pyNext_ascii_end hh hit hx fun h' h1=>h _ h1 ⟨rfl,rfl,rfl⟩
 | false =>
  have e : itTy x = "str_iterator":=by simp only [itTy,ha]
  rw [e] at hit
  exact wpAny_pyNext_wide_end hh hit hx fun h' h1=>h _ h1 ⟨rfl,rfl,rfl⟩
structure PaI (w : World) (tx : Str) (tT : Tok) (L p it : Addr) (h₀ : Heap) (s₀ : Shared) (n : Nat) (s : Shared) : Prop where
 all : ∃ u pl plT fr l vs k post i,n = post.length + 1 ∧ tx.cps.toList.drop i = post ∧ (l ++ (prun pl post).2,(prun pl post).1) = ((prun .non tx.cps.toList).2,(prun .non tx.cps.toList).1) ∧ l.length ≤ 2 * i ∧ i ≤ tx.cps.toList.length ∧
  PaF w.params u tx tT p (plS pl) plT fr ∧ Rep h₀ [L,p] [fr,lst vs k] s.heap ∧ PartsAre w.params [L,p] s.heap vs l ∧ s.heap.IsStrIter it (itTy tx) tx tT i
 itn : it ∉ [L,p]
 it0 : h₀.get? it = none
 sm : Same s₀ s
theorem iter_keep {h h' : Heap} {it : Addr} {ty : String} {x : Str} {t : Tok} {i : Nat} (y : h.IsStrIter it ty x t i) (k : Kept as h h') (n : it ∉ as) : h'.IsStrIter it ty x t i :=
 let ⟨o,ho,r⟩:=y; ⟨o,k _ _ n ho,r⟩
theorem pa_loop {tx : Str} {tT : Tok} {L p it : Addr} {s₀ s : Shared} (hlen : tx.cps.toList.length ≤ 400) (hh : 'g') (X : 'r')
  (H : ∀ u plT fr vs k s',PaF w.params u tx tT p (plS (prun .non tx.cps.toList).1) plT fr->Rep h₀ [L,p] [fr,lst vs k] s'.heap->PartsAre w.params [L,p] s'.heap vs (prun .non tx.cps.toList).2->Same s₀ s'->R (.ok .next) s')
  (I : PaI w tx tT L p it h₀ s₀ (tx.cps.toList.length + 1) s) :
  CA w A (.forLoop (fTgt (sNth body755 2)) (.ref it) (sBody (sNth body755 2)) (sElse (sNth body755 2)) (env755 L)) R s:=by
 refine codeAny_forLoop (PaI w tx tT L p it h₀ s₀) ?_ _ I (pa_let _)
 rintro n s1 ⟨⟨u,pl,plT,fr,l,vs,k,post,i,rfl,hp,he,hl,hi,hf,R1,hv,hit⟩,n1,n2,S1⟩
 cases post with
 | nil =>
  have hx : tx.cps[i]? = none:=by
   have:=List.drop_eq_nil_iff.mp hp
   rw [Array.getElem?_eq_none]
   simpa using this
  refine str_done hh hit hx fun s2 K2 S2=>?_
  dsimp only
  rw [pa_else]
  refine wpAny_execs_nil ?_
  simp only [prun,List.append_nil,Prod.mk.injEq] at he
  obtain ⟨e1,e2⟩:=he
  refine H u plT fr vs k s2 (e2 ▸ hf) (R1.extBut K2 n1 n2) ?_ (S1.trans S2)
  rw [← e1]
  have:=(hv.weak (as':=[L,p,it]) (by
   intro b hb
   simp only [List.mem_cons,List.not_mem_nil,or_false] at hb
   rcases hb with rfl | rfl | rfl
   ·exact .inl (.head _)
   ·exact .inl (.tail _ (.head _))
   ·obtain ⟨o,q1,q2,_⟩:=hit
    exact .inr ⟨o,q1,by rw [q2]; unfold itTy; split <;> decide⟩)).keep (h':=s2.heap) (fun b o q e=>K2 b o (fun x=>q (by simp [x])) e)
  exact this.weak fun b hb=>.inl (by simp at hb ⊢; rcases hb with rfl | rfl <;> simp)
 | cons c post =>
  have hi' : i < tx.cps.toList.length:=by
   refine Nat.lt_of_not_le fun q=>?_
   rw [List.drop_eq_nil_of_le q] at hp; cases hp
  rw [List.drop_eq_getElem_cons hi'] at hp
  simp only [List.cons.injEq] at hp
  obtain ⟨hc,hp⟩:=hp
  have hx : tx.cps[i]? = some c:=by
   rw [← Array.getElem?_toList,List.getElem?_eq_getElem hi',hc]
  refine str_next hit hx fun cT s2 hit2 K2 S2=>?_
  dsimp only
  have R2:=R1.extBut K2 n1 n2
  have hv2 : PartsAre w.params [L,p] s2.heap vs l:=by
   have:=(hv.weak (as':=[L,p,it]) (by
    intro b hb
    simp only [List.mem_cons,List.not_mem_nil,or_false] at hb
    rcases hb with rfl | rfl | rfl
    ·exact .inl (.head _)
    ·exact .inl (.tail _ (.head _))
    ·obtain ⟨o,q1,q2,_⟩:=hit
     exact .inr ⟨o,q1,by rw [q2]; unfold itTy; split <;> decide⟩)).keep (h':=s2.heap) (fun b o q e=>K2 b o (fun x=>q (by simp [x])) e)
   exact this.weak fun b hb=>.inl (by simp at hb ⊢; rcases hb with rfl | rfl <;> simp)
  refine pa_asg c cT hf X R2 hh fun u' s3 R3 K3 S3=>?_
  refine wpAny_mono (pa_turn pl X R3 (hv2.keep K3) (by omega) hh) (fun f s4 h4=>?_) fun _ _ q=>q
  obtain ⟨rfl,plT',vs',k',R4,hv4,K4,S4⟩:=h4
  refine ⟨post.length + 1,by simp,⟨⟨u',(pstep pl c).1,plT',_,l ++ (pstep pl c).2,vs',k',post,i + 1,rfl,hp,?_,?_,hi',.inr ⟨c,cT,rfl⟩,R4,hv4,?_⟩,n1,n2,((S1.trans S2).trans S3).trans S4⟩⟩
  ·rw [← he]; simp only [prun,List.append_assoc]
  ·have:=pstep_len pl c
   simp; omega
  ·exact iter_keep (iter_keep hit2 K3 n1) K4 n1
end
variable {w : World} {A : Around} {h₀ : Heap} {s : Shared} {E : Value->Shared->Prop}
noncomputable def paT : Expr:=sRet (body755.drop 3)
noncomputable def paG : Expr:=eNth (xElts paT) 1
noncomputable def paD : Expr:=xBase (cFn paG)
noncomputable def kN (i : Nat) : Expr:=(((xKeys paD).getD i none).getD (.Constant .none 0 default))
theorem pa_ret_shape : body755.drop 3 = [.Return (some (.Tuple [eNth (xElts paT) 0,.Call (.Attribute (.Dict (xKeys paD) (xVals paD) (xPos paD)) (Str.ofString "get") (xPos (cFn paG))) [eNth (xArgs paG) 0,.Constant (.str ⟨⟨[]⟩⟩) (xKd (eNth (xArgs paG) 1)) (xPos (eNth (xArgs paG) 1))] [] (xPos paG)] (xKd paT) (xPos paT))) (sRetP (body755.drop 3))]:=by kernel_rfl!
theorem pa_keys : xKeys paD = [some (.Constant (.str s!"'") (xKd (kN 0)) (xPos (kN 0))),some (.Constant (.str s!"\"") (xKd (kN 1)) (xPos (kN 1))),some (.Constant (.str s!"\\") (xKd (kN 2)) (xPos (kN 2))),some (.Constant (.str s!"\"\\") (xKd (kN 3)) (xPos (kN 3)))]:=by kernel_rfl!
theorem pa_vals : xVals paD = [.Constant (.str msgQ) (xKd (eNth (xVals paD) 0)) (xPos (eNth (xVals paD) 0)),.Constant (.str msgQ) (xKd (eNth (xVals paD) 1)) (xPos (eNth (xVals paD) 1)),.Constant (.str msgE) (xKd (eNth (xVals paD) 2)) (xPos (eNth (xVals paD) 2)),.Constant (.str msgE) (xKd (eNth (xVals paD) 3)) (xPos (eNth (xVals paD) 3))]:=by kernel_rfl!
theorem pa_star {env : Env} {l : List Expr} : starEach (eNth (xElts paT) 0 :: l) env = (false,eval (eNth (xElts paT) 0) env) :: starEach l env:=by kernel_rfl!
theorem pa_star1 {env : Env} {f : Expr} {a : List Expr} {k : List Keyword} {q : Pos} {l : List Expr} : starEach (.Call f a k q :: l) env = (false,eval (.Call f a k q) env) :: starEach l env:=rfl
theorem pa_star2 {env : Env} {p : Pos} {c : Const} {k : Nat} {q : Pos} : backTo p (starEach [eNth (xArgs paG) 0,.Constant c k q] env) = [(false,eval (eNth (xArgs paG) 0) env),(false,eval (.Constant c k q) env)]:=by kernel_rfl!
theorem pa_all : (xKeys paD).all (·.isSome) = true:=by kernel_rfl!
theorem pa_lens : (xKeys paD).length = (xVals paD).length:=by kernel_rfl!
theorem pa_len4 : (xKeys paD).length = 4:=by kernel_rfl!
theorem pa_nn : xKeys paD ≠ []:=fun q=>by have:=pa_len4; rw [q] at this; cases this
theorem pa_le : (xKeys paD).length ≤ 15:=by rw [pa_len4]; decide
theorem pa_line : ((xPos (cFn paG)).endLine == (xPos paG).line) = true:=by kernel_rfl!
theorem pa_base (env : Env) (ks : List (Option Expr)) (vs : List Expr) (p : Pos) (n : Str) : attributeBase (.Dict ks vs p) n env (eval (.Dict ks vs p) env) = eval (.Dict ks vs p) env:=by rfl
noncomputable def refS : Pl->Str
 | .sq=>msgQ
 | .dq=>msgQ
 | .esc=>msgE
 | .ed=>msgE
 | _=>⟨⟨[]⟩⟩
theorem pa_name0 {u : 'f'} {tx : Str} {tT : Tok} {L p : Addr} {pl : Str} {plT : Tok} {fr : Obj} (hf : PaF w.params u tx tT p pl plT fr) :
  Lf w.params 'c' [L] [fr] [] (eval (eNth (xElts paT) 0) (env755 L)) 0 (fun _ _=>[]) (fun _ _=>[fr]) (fun _ _=>.val (.ref p)):=by
 rw [tw_eval]; exact (pa_names hf).1
theorem pa_name1 {u : 'f'} {tx : Str} {tT : Tok} {L p : Addr} {pl : Str} {plT : Tok} {fr : Obj} (hf : PaF w.params u tx tT p pl plT fr) :
  Lf w.params 'c' [L] [fr] [] (eval (eNth (xArgs paG) 0) (env755 L)) 0 (fun _ _=>[]) (fun _ _=>[fr]) (fun _ _=>.val (.str pl plT)):=by
 rw [tw_eval]; exact (pa_names hf).2
noncomputable def Keep (h h' : Heap) : Prop:=∀ b o,h.get? b = some o->h'.get? b = some o
theorem pa_ret {u : 'f'} {tx : Str} {tT : Tok} {L p : Addr} {plT : Tok} {fr : Obj} {vs : List Value} {k : Nat} {Q : Flow->Shared->Prop} (pl : Pl) (hf : PaF w.params u tx tT p (plS pl) plT fr)
  (X : 'r') (R : Rep h₀ [L,p] [fr,lst vs k] s.heap) (hh : 'g')
  (h : ∀ z t s',Keep s.heap s'.heap->s.heap.get? z = none->s'.heap.get? z = some (tpO [.ref p,.str (refS pl) t])->Same s s'->Q (.ret (.ref z)) s') : WP w A (execs (body755.drop 3) (env755 L)) Q E s:=by
 rw [pa_ret_shape]
 refine wpAny_execs_cons ?_
 refine wpAny_Return_some ?_
 refine PySem.wpAny_Tuple ?_
 refine spliced_more ?_ pa_star
 refine (pa_name0 hf).part (la:=[p]) (cl:=[lst vs k]) X R rfl hh 'a' 'e' ?_
 intro ad tk s1 R1 K1 S1
 have Ks1 : Keep s.heap s1.heap:=fun b o e=>by
  by_cases q : b = L
  ·subst q
   have:=R.cell 0 b _ rfl rfl
   rw [e] at this; cases this
   exact R1.cell 0 b _ rfl rfl
  ·exact K1 b o (by simpa using q) e
 show WP w A (spliced (backTo (xPos paT) (starEach [.Call _ _ _ _] (env755 L)))) _ E s1
 rw [show backTo (xPos paT) (starEach [.Call _ _ _ _] (env755 L)) = [(false,eval (.Call _ _ _ _) (env755 L))] from rfl]
 refine Calls.spliced_cons ?_
 refine wpAny_Call_method2_late ?_ ?_ ?_ ?_
 exact pa_base _ _ _ _ _
 exact pa_line
 exact pa_star2
 refine wpAny_Dict_walk (knd:=strKind pw w) ?_ ?_ ?_ ?_ ?_
 exact pa_all
 exact pa_lens
 exact pa_nn
 exact pa_le
 rw [pa_keys,pa_vals]
 refine pairTrees_cons_walk (wpAny_Constant_str (wpAny_Constant_str ?_))
 refine pairTrees_cons_walk (wpAny_Constant_str (wpAny_Constant_str ?_))
 refine pairTrees_cons_walk (wpAny_Constant_str (wpAny_Constant_str ?_))
 refine pairTrees_cons_walk (wpAny_Constant_str (wpAny_Constant_str ?_))
 refine pairTrees_nil_walk ?_
 refine ⟨[(⟨⟨[nat_lit 39]⟩⟩,_),(⟨⟨[nat_lit 34]⟩⟩,_),(⟨⟨[nat_lit 92]⟩⟩,_),(⟨⟨[nat_lit 34,nat_lit 92]⟩⟩,_)],⟨strKind_is _ _ _ _,rfl,strKind_is _ _ _ _,rfl,strKind_is _ _ _ _,rfl,strKind_is _ _ _ _,rfl,trivial⟩,Heap.DictOf.new _,fun h' hm hs=>?_⟩
 have ne : ∀ b o,s1.heap.get? b = some o->b ≠ s1.heap.objs.size:=fun b o e q=>absurd (Heap.lt_size e) (by rw [q]; exact Nat.lt_irrefl _)
 have k2 : Keep s1.heap h':=fun b o e=>hs.extBut b o (ne b o e) (Heap.get?_push_of_some _ e)
 have R2 : Rep h₀ [L,p] [fr,lst vs k] h':=R1.keeps k2
 have hds : (s1.heap.objs.size == sysModules) = false:=by
  obtain ⟨y,hy⟩:=R2.above (w:=w) X (.head _ : L ∈ [L,p])
  have hL:=Heap.lt_size (R1.cell 0 L _ rfl rfl)
  have : sysModules < 700:=by decide
  refine beq_eq_false_iff_ne.mpr fun q=>?_
  have a : sysModules < s1.heap.objs.size:=Nat.lt_trans this (Nat.lt_of_le_of_lt (Nat.le_add_left 700 y) (hy ▸ hL))
  rw [q] at a
  exact Nat.lt_irrefl _ a
 refine ⟨"dict","dict.get",F.plainAttrs_dict,F.slot_dict_get,F.type_dict_get,Heap.DictOf.typeIs hm,(Heap.DictOf.mapOf hm).noDict,wpAny_dict_get2 (knd:=strKind pw w) hds ?_⟩
 refine (pa_name1 hf).part (la:=[p]) (cl:=[lst vs k]) X R2 rfl hh 'a' 'e' ?_
 intro ad2 tk2 s2 R3 K3 S3
 show WP w A (eval (.Constant _ _ _) (env755 L)) _ E s2
 refine wpAny_Constant_str ?_
 have hL : s1.heap.objs.size ∉ [L]:=by
  simp only [List.mem_singleton]
  exact fun q=>ne L _ (R1.cell 0 L _ rfl rfl) q.symm
 have Ks2 : Keep h' s2.heap:=fun b o e=>by
  by_cases q : b = L
  ·subst q
   have:=R2.cell 0 b _ rfl rfl
   rw [e] at this; cases this
   exact R3.cell 0 b _ rfl rfl
  ·exact K3 b o (by simpa using q) e
 refine ⟨plS pl,_,strKind_is _ _ _ _,(Heap.DictOf.keep hm Ks2).mapOf,spliced_none (env:=env755 L) (pos:=xPos paT) ⟨?_,?_⟩⟩
 ·show 2 ≤ sizeLine
  decide +kernel
 ·have e : ∀ (f : Option Value) (t : Tok),(∃ t',f.getD (.str ⟨⟨[]⟩⟩ t) = .str (refS pl) t')->∀ z s',Keep s.heap s'.heap->s.heap.get? z = none->s'.heap.get? z = some (tpO [.ref p,f.getD (.str ⟨⟨[]⟩⟩ t)])->Same s s'->Q (.ret (.ref z)) s':=by
   rintro f t ⟨t',e⟩ z s' a1 a2 a3 a4
   rw [e] at a3
   exact h z t' s' a1 a2 a3 a4
  have KK : Keep s.heap s2.heap:=fun b o q=>Ks2 b o (k2 b o (Ks1 b o q))
  refine e _ _ ?_ _ _ (fun b o q=>Heap.get?_push_of_some _ (KK b o q)) ?_ (Heap.get?_push_size _ rfl) ((S1.trans ⟨rfl,rfl,rfl⟩).trans (S3.trans ⟨rfl,rfl,rfl⟩))
  ·cases pl <;> exact ⟨_,rfl⟩
  ·cases q : s.heap.get? s2.heap.objs.size with
   | none=>rfl
   | some o=>exact absurd (Heap.lt_size (KK _ _ q)) (Nat.lt_irrefl _)
variable {w : World} {A : Around} {s : Shared} {R : Result->Shared->Prop}
noncomputable def uP (a b c : Tok) : Nat->Tok:=fun n=>match n with
 | 0=>a
 | 1=>b
 | _=>c
theorem pa_fr0 (P : Params) (tx : Str) (tT : Tok) (k : 'f') (p : Addr) (t0 : Tok) (t1 : Tok) (t2 : Tok) : sn (sn (pa_fr P tx tT k) (en P a455 t0 (.ref p))) (en P a456 t2 (.str a181 t1)) = paf3 P (uP (k 0) t0 t2) tx tT p ⟨⟨[]⟩⟩ t1:=by kernel_rfl!
theorem pa_iter (P : Params) (u : 'f') (tx : Str) (tT : Tok) (p : Addr) (L : Addr) (pl : Str) (plT : Tok) : Lf P (Tf P) [L] [paf3 P u tx tT p pl plT] [] (eval (fIter y74) (env755 L)) 0 (fun _ _=>[]) (fun _ _=>[paf3 P u tx tT p pl plT]) (fun _ _=>.val (.str tx tT)):=by
 rw [tw_eval]; exact paI P u tx tT p L pl plT
theorem pa_code (tx : Str) (tT : Tok) (hlen : tx.cps.toList.length ≤ 400) (hd : A.depth < recursionLimit) (hh : 'g') (X : TopIn 'c' s.heap)
  (H : ∀ z p t vs k s',Keep s.heap s'.heap->s.heap.get? z = none->s.heap.get? p = none->NTop w.params p->s'.heap.get? z = some (tpO [.ref p,.str (refS (prun .non tx.cps.toList).1) t])->s'.heap.get? p = some (lst vs k)->PartsAre w.params [] s'.heap vs (prun .non tx.cps.toList).2->Same s s'->R (.ok (.ret (.ref z))) s') :
  CA w A (.call (.ref 755) ⟨[.str tx tT],[]⟩) R s:=by
 refine pa_call tx tT hd hh X (rep_nil s.heap) ?_
 intro L k s1 R1 S1
 rw [pa_split]
 refine wp_app ?_
 rw [tw_execs]
 refine (pa0 w.params tx tT L k).run X R1 hh 'a' 'e' ?_
 intro ad tk s2 R2 K2 S2
 rw [pa_fr0] at R2
 generalize hp : ad 0 = p at R2
 have R2' : Rep s.heap [L,p] [paf3 w.params (uP (k 0) (tk 0) (tk 2)) tx tT p ⟨⟨[]⟩⟩ (tk 1),lst [] 0] s2.heap:=by
  have : (List.range 1).map ad = [p]:=by rw [← hp]; rfl
  rw [this] at R2
  exact R2
 show WP w (A.deeper (env755 L)) (execs (sNth body755 2 :: body755.drop 3) (env755 L)) _ _ s2
 refine wpAny_execs_cons ?_
 rw [pa_for]
 refine wpAny_For ?_ (pa_fold _)
 refine (pa_iter w.params _ tx tT p L _ (tk 1)).part (la:=[p]) (cl:=[lst [] 0]) X R2' rfl hh 'a' 'e' ?_
 intro ad3 tk3 s3 R3 K3 S3
 show WP w (A.deeper (env755 L)) (pyIter (.str tx tT)) _ _ s3
 refine str_iter fun it s4 hit K4 n4 S4=>?_
 have R4:=R3.keeps K4
 refine pa_loop (s₀:=s2) hlen hh X ?_ ⟨⟨_,.non,tk 1,_,[],[],0,tx.cps.toList,0,rfl,rfl,rfl,Nat.zero_le _,Nat.zero_le _,.inl rfl,R4,.nil,hit⟩,?_,?_,S3.trans S4⟩
 ·intro u plT fr vs k5 s5 hf R5 hv S5
  dsimp only
  refine pa_ret _ hf X R5 hh fun z t s6 K6 n6 hz S6=>?_
  refine H z p t vs k5 s6 (fun b o e=>K6 b o (R5.keep b o e)) ?_ (R5.fresh p (.tail _ (.head _))) (R5.ntop X (.tail _ (.head _))) hz (K6 _ _ (R5.cell 1 p _ rfl rfl)) ?_ (S1.trans (S2.trans (S5.trans S6)))
  ·cases e : s.heap.get? z with
   | none=>rfl
   | some o=>rw [R5.keep z o e] at n6; cases n6
  ·exact (hv.weak (as':=[]) (fun b q=>by cases q)).keep (fun b o _ e=>K6 b o e)
 ·intro q
  have:=R3.has q
  obtain ⟨o,ho⟩:=this
  rw [ho] at n4; cases n4
 ·cases e : s.heap.get? it with
  | none=>rfl
  | some o=>rw [R3.keep it o e] at n4; cases n4
end
section
open PySem PySem.W PySem.W.X PyProof.Rows
variable {w : World}
section
variable (P : Params) (u : Nat->Tok) (pp q L : Addr) (la : Str) (laT : Tok) (ro : Str) (rT : Tok) (sg : Str) (sT : Tok) (g : Str) (gT : Tok) (k : Nat->Tok) (t : Addr) (ro1 : Str) (r1T : Tok) (sg1 : Str) (s1T : Tok) (y : Str) (yT : Tok) (z : Str) (vs : List Value) (n : Nat) (ad : Nat->Addr) (tk : Nat->Tok) (vs1 : List Value) (n1 : Nat) (ad0 : Nat->Addr) (tk0 : Nat->Tok)
noncomputable def lxf3 : Obj:=frm [en P a455 (u 0) (.ref pp),en P a458 (u 1) (.ref q),zE P a459 (u 2) la laT] 3
noncomputable def lxf5 : Obj:=frm [en P a455 (u 0) (.ref pp),en P a458 (u 1) (.ref q),zE P a459 (u 2) la laT,zE P a460 (u 3) ro rT,zE P a457 (u 4) sg sT] 5
noncomputable def lxf6 : Obj:=frm [en P a455 (u 0) (.ref pp),en P a458 (u 1) (.ref q),zE P a459 (u 2) la laT,zE P a460 (u 3) ro rT,zE P a457 (u 4) sg sT,zE P a461 (u 5) g gT] 6
theorem lxr_b : Lf P (Tf P) [] [] [] (zBA fd762 ⟨[.ref pp],[]⟩) 0 zve (fun ad tk=>[]) (fun ad tk=>(.val [(a455,(.ref pp))])):=.mk' 3 0 (by kernel_rfl)
theorem lxr_e : Lf P (Tf P) [] [] [] (zNE fd762 762 [(a455,(.ref pp))]) 1 zve (fun ad tk=>[(zD zt98 [en P a455 (tk 0) (.ref pp)] 1)]) (fun ad tk=>(.val (env762 (ad 0)))):=.mk' 8 257 (by kernel_rfl)
noncomputable def lxr_fr : Obj:=(zD zt98 [en P a455 (tk 0) (.ref pp)] 1)
theorem lxr_call (pp : Addr) : CallT w [] [] (lxr_fr w.params pp) env762 body762 762 ⟨[.ref pp],[]⟩:=callT _ _ (top762 w.params) rfl rfl co762 ge762 rfl (cr762 w.params) (lxr_b w.params pp) (lxr_e w.params pp)
theorem lxr0 : Lf P (Tf P) [L] [lxr_fr P pp k] [] (zEX (body762.take 2) (env762 L)) 1 zve (fun ad tk=>[(sn (sn (lxr_fr P pp k) (en P a458 (tk 0) (.ref (ad 0)))) (zE P a459 (tk 2) s!"white" (tk 1))),(zW zt13)]) zvn:=.mk' 22 16843009 (by kernel_rfl)
noncomputable abbrev y44:=sNth body762 2
theorem lxrI : Lf P (Tf P) [L] [lxf3 P u pp q la laT] [] (zEV (fIter y44) (env762 L)) 0 zve (fun ad tk=>[(lxf3 P u pp q la laT)]) (fun ad tk=>(.val (.ref pp))):=.mk' 5 1 (by kernel_rfl)
theorem lxrA3 : Lf P (Tf P) [L,t] [lxf3 P u pp q la laT,tpO [.str ro1 r1T,.str sg1 s1T]] [] (Fast.tw17772580674575903948 (fTgt y44) (env762 L) (.ref t)) 0 zve (fun ad tk=>[(sn (sn (lxf3 P u pp q la laT) (zE P a460 (tk 0) ro1 r1T)) (zE P a457 (tk 1) sg1 s1T)),(tpO [.str ro1 r1T,.str sg1 s1T])]) (fun ad tk=>(.val ())):=by revert P; refine Lf.rw1 63 (zd 999 0x1010101050303020313130303030203131303030302031313031312020202) ?_ ?_ <;> kernel_rfl
theorem lxrA6 : Lf P (Tf P) [L,t] [lxf6 P u pp q la laT ro rT sg sT g gT,tpO [.str ro1 r1T,.str sg1 s1T]] [] (Fast.tw17772580674575903948 (fTgt y44) (env762 L) (.ref t)) 0 zve (fun ad tk=>[(sv (sv 'p' 3 (.str ro1 r1T)) 4 (.str sg1 s1T)),(tpO [.str ro1 r1T,.str sg1 s1T])]) (fun ad tk=>(.val ())):=by revert P; refine Lf.rw1 63 (zd 999 0x1010101050303020313130303030203131303030302031313031312020202) ?_ ?_ <;> kernel_rfl
noncomputable abbrev y83 (p0 : Nat->Tok) : List Value:=[(.str s!"white" (p0 0)),(.str s!"run" (p0 1))]
theorem lxrG5_t : Lf P (Tf P) [L] [lxf5 P u pp q la laT ro rT sg sT] [y10] (zEX [sNth (sBody y44) 0] (env762 L)) 0 (fun ad tk=>[⟨(zB zb15 [(.ref (ad 0)),(.str ro rT)]),1,[(lxf5 P u pp q la laT ro rT sg sT),(zQ zt13 (y83 tk))],0,0,y10⟩]) (fun ad tk=>[(sn (lxf5 P u pp q la laT ro rT sg sT) (zE P a461 (tk 10) ro rT))]) zvn:=.mk' 23 282583061627393 (by kernel_rfl)
theorem lxrG5_f : Lf P (Tf P) [L] [lxf5 P u pp q la laT ro rT sg sT] [(xC fun f=>.bool false)] (zEX [sNth (sBody y44) 0] (env762 L)) 0 (fun ad tk=>[⟨(zB zb15 [(.ref (ad 0)),(.str ro rT)]),1,[(lxf5 P u pp q la laT ro rT sg sT),(zQ zt13 (y83 tk))],0,0,(xC fun f=>.bool false)⟩]) (fun ad tk=>[(sn (lxf5 P u pp q la laT ro rT sg sT) (zE P a461 (tk 11) s!"word" (tk 10)))]) zvn:=.mk' 22 1108084916737 (by kernel_rfl)
theorem lxrG6_t : Lf P (Tf P) [L] [lxf6 P u pp q la laT ro rT sg sT g gT] [y10] (zEX [sNth (sBody y44) 0] (env762 L)) 0 (fun ad tk=>[⟨(zB zb15 [(.ref (ad 0)),(.str ro rT)]),1,['p',(zQ zt13 (y83 tk))],0,0,y10⟩]) (fun ad tk=>[(sv 'p' 5 (.str ro rT))]) zvn:=.mk' 23 282583061627393 (by kernel_rfl)
theorem lxrG6_f : Lf P (Tf P) [L] [lxf6 P u pp q la laT ro rT sg sT g gT] [(xC fun f=>.bool false)] (zEX [sNth (sBody y44) 0] (env762 L)) 0 (fun ad tk=>[⟨(zB zb15 [(.ref (ad 0)),(.str ro rT)]),1,['p',(zQ zt13 (y83 tk))],0,0,(xC fun f=>.bool false)⟩]) (fun ad tk=>[(sv 'p' 5 (.str s!"word" (tk 10)))]) zvn:=.mk' 22 1108084916737 (by kernel_rfl)
noncomputable abbrev y94 (p0 : Str) (p1 : Tok) (p2 : Nat->Tok):=zB zb9 [(.str p0 p1),(.str s!"white" (p2 0))]
theorem lxrW : Lf P (Tf P) [L] [lxf6 P u pp q la laT ro rT sg sT g gT] [xF,xF] (zEX ((sBody y44).drop 1) (env762 L)) 0 (fun ad tk=>[(zX (y94 g gT tk) xF),(zX (zB zb9 [(.str g gT),(.str s!"white" (tk 9))]) xF)]) (fun ad tk=>[(sv 'p' 2 (.str g gT))]) zvn:=by revert P; refine Lf.rw1 27 282583061626625 ?_ ?_ <;> kernel_rfl
noncomputable def lxrJ_q : Option (RR Flow):=run denF ⟨pw,P⟩ (Tf P) [L,q] ad tk 47 1444419440733410688867218499122793032311250222849 [xT,xT,(y69 y yT),(y6 z)] [lxf6 P u pp q la laT ro rT sg sT g gT,lst vs n] 0 0 none (.base (zEX ((sBody y44).drop 1) (env762 L)))
theorem lxrJ : Lf P (Tf P) [L,q] [lxf6 P u pp q la laT ro rT sg sT g gT,lst vs n] [xT,xT,(y69 y yT),(y6 z)] (zEX ((sBody y44).drop 1) (env762 L)) 0 (fun ad tk=>[(zX (y94 g gT tk) xT),(zX (zB zb5 [(.str g gT),(.str la laT)]) xT),⟨(zB zb16 [(.ref q),(.int (.negSucc 0) (tk 18))]),0,['p',(lst vs n)],0,0,(y69 y yT)⟩,(zX (zB zb8 [(.str y yT),(.str sg sT)]) (y6 z))]) (fun ad tk=>['p',(lst vs n)]) (fun ad tk=>(.cut (zB zb17 [(.ref q),(.int (.negSucc 0) (tk 36)),(.str z (tk 27))]) 0 none (ttOf (lxrJ_q P u pp q L la laT ro rT sg sT g gT y yT z vs n ad tk)))):=by revert P; refine Lf.rw1 47 1444419440733410688867218499122793032311250222849 ?_ ?_ <;> kernel_rfl
theorem lxrJ0 : LfT P (Tf P) [L,q] [lxf6 P u pp q la laT ro rT sg sT g gT,lst vs1 n1] [] (ttOf (lxrJ_q P u pp q L la laT ro rT sg sT g gT y yT z vs n ad0 tk0) 'm') 0 zve (fun ad tk=>[(sv 'p' 2 (.str g gT)),(lst vs1 n1)]) zvn:=by revert P; refine LfT.rw1 13 65793 ?_ ?_ <;> kernel_rfl
noncomputable def lxrN_q : Option (RR Flow):=run denF ⟨pw,P⟩ (Tf P) [L,q] ad tk 36 5131529479283739933805438472158977 [xT,xF,xT] [lxf6 P u pp q la laT ro rT sg sT g gT,lst vs n] 0 0 none (.base (zEX ((sBody y44).drop 1) (env762 L)))
theorem lxrN : Lf P (Tf P) [L,q] [lxf6 P u pp q la laT ro rT sg sT g gT,lst vs n] [xT,xF,xT] (zEX ((sBody y44).drop 1) (env762 L)) 0 (fun ad tk=>[(zX (y94 g gT tk) xT),(zX (zB zb5 [(.str g gT),(.str la laT)]) xF),(zX (zB zb9 [(.str g gT),(.str s!"white" (tk 17))]) xT)]) (fun ad tk=>['p',(lst vs n)]) (fun ad tk=>(.cut (zB zb14 [(.ref q),(.str sg sT)]) 0 none (ttOf (lxrN_q P u pp q L la laT ro rT sg sT g gT vs n ad tk)))):=by revert P; refine Lf.rw1 36 5131529479283739933805438472158977 ?_ ?_ <;> kernel_rfl
theorem lxrN0 : LfT P (Tf P) [L,q] [lxf6 P u pp q la laT ro rT sg sT g gT,lst vs1 n1] [] (ttOf (lxrN_q P u pp q L la laT ro rT sg sT g gT vs n ad0 tk0) 'm') 0 zve (fun ad tk=>[(sv 'p' 2 (.str g gT)),(lst vs1 n1)]) zvn:=by revert P; refine LfT.rw1 14 65793 ?_ ?_ <;> kernel_rfl
theorem lxrR3 : Lf P (Tf P) [L] [lxf3 P u pp q la laT] [] (zEX (body762.drop 3) (env762 L)) 0 zve (fun ad tk=>[(lxf3 P u pp q la laT)]) (fun ad tk=>(.val (.ret (.ref q)))):=.mk' 6 1 (by kernel_rfl)
theorem lxrR6 : Lf P (Tf P) [L] [lxf6 P u pp q la laT ro rT sg sT g gT] [] (zEX (body762.drop 3) (env762 L)) 0 zve (fun ad tk=>['p']) (fun ad tk=>(.val (.ret (.ref q)))):=.mk' 6 1 (by kernel_rfl)
end
end
section
open PySem PySem.W PySem.W.X PyProof.Rows PySem.Builtin PySem.Builtin.Str PySem.Builtin.Int
variable {w : World} {A : Around} {s : Shared} {R : Result->Shared->Prop} {as : List Addr} {cs : List Obj} {D U : Nat}
theorem con_lin {z : Addr} (m : Nat) {x y v : Str} {t u e : Tok} (b : Bool) (hz : as[m]? = some z) (hc : cs[m]? = some (lst [.str x t,.str y u] 0)) (h : ([x,y].any (· == v)) = b) :
  Con w 'c' as (.call (.builtin "list.__contains__") ⟨[.ref z,.str v e],[]⟩) cs (xC fun _=>.bool b) D U:=by
 intro A h₀ s hD hU hh X R
 have hg:=R.cell m z _ hz hc
 refine codeAny_call_builtin F.slot_list_contains.plain F.entry_list_contains (F.slot_list_contains.check _ _ _ _ _ _ _ _ ⟨_,hg,rfl⟩ (F.args_list_contains_2 _ _) ?_)
 refine MeetsSeq.list_contains z #[.str x t,.str y u] 0 (.str v e) (fun q=>match q with | .str a _=>a == v | _=>false) ?_ pw w A _ s ⟨hg,?_⟩
 ·intro q hq
  simp only [List.mem_toArray,List.mem_cons,List.not_mem_nil,or_false] at hq
  rcases hq with rfl | rfl
  ·exact eqGives_str _ _ _ _
  ·exact eqGives_str _ _ _ _
 ·have e : ((#[.str x t,.str y u] : Array Value).any fun q=>match q with | .str a _=>a == v | _=>false) = b:=by rw [← h]; simp
  rw [e]
  exact told_now (r:=fun _=>.bool b) 0 _ rfl R
theorem last_item {vs : List Value} {y : Value} : (⟨vs ++ [y]⟩ : Array Value)[((-1 : Int) + ((⟨vs ++ [y]⟩ : Array Value).size : Int)).toNat]? = some y:=by
 have : ((-1 : Int) + ((⟨vs ++ [y]⟩ : Array Value).size : Int)).toNat = vs.length:=by
  show ((-1 : Int) + (((vs ++ [y]).length : Nat) : Int)).toNat = _
  simp
  omega
 rw [this]
 simp
theorem con_getlast {z : Addr} (m : Nat) {vs : List Value} {y : Value} {n : Nat} {t : Tok} (hz : as[m]? = some z) (hc : cs[m]? = some (lst (vs ++ [y]) n)) :
  Con w 'c' as (.call (.builtin "list.__getitem__") ⟨[.ref z,.int (.negSucc 0) t],[]⟩) cs (xC fun _=>y) D U:=by
 intro A h₀ s hD hU hh X R
 have hg:=R.cell m z _ hz hc
 refine codeAny_call_builtin slot_list_getitem.plain entry_list_getitem (slot_list_getitem.check _ _ _ _ _ _ _ _ ⟨_,hg,rfl⟩ (args_list_getitem _ _) ?_)
 generalize hk : Int.negSucc 0 = k
 show wpAny _ _ (Builtin.List.listSubscript? (.int k t) >>= _) _ _ s
 refine wpAny_bind (wpAny_listSubscript_int (fitsIndex_neg (by rw [← hk]; decide) (by rw [← hk]; decide)) ?_)
 subst hk
 show wpAny _ _ ((Builtin.List.listItems (.ref z) >>= fun xs=>pure ((seqIndex? (Int.negSucc 0) xs.size).bind fun i=>xs[i]?.map (i,·))) >>= _) _ _ s
 refine wpAny_bind (wpAny_bind ?_)
 show wpAny _ _ (seqItems? (.ref z) >>= _) _ _ s
 refine wpAny_bind (wpAny_seqItems hg rfl (wpAny_pure (wpAny_pure ?_)))
 rw [seqIndex_neg (k:=Int.negSucc 0) (by decide) (by show -(((vs ++ [y]).length : Nat) : Int) ≤ _; simp; omega)]
 have:=last_item (vs:=vs) (y:=y)
 simp only [Option.bind_some]
 rw [show (Int.negSucc 0 + ((⟨vs ++ [y]⟩ : Array Value).size : Int)).toNat = ((-1 : Int) + ((⟨vs ++ [y]⟩ : Array Value).size : Int)).toNat from rfl,this]
 simp only [Option.map_some]
 first
  | exact wpAny_bind (wpAny_pure (wpAny_pure (told_now (r:=fun _=>y) 0 _ rfl R)))
  | exact wpAny_pure (told_now (r:=fun _=>y) 0 _ rfl R)
theorem lst_setlast {vs : List Value} {y v : Value} {n : Nat} : Obj.mapSeq (·.setIfInBounds vs.length v) (lst (vs ++ [y]) n) = lst (vs ++ [v]) n:=by
 show (⟨_,_,.seq (Array.setIfInBounds ⟨vs ++ [y]⟩ vs.length v) _,_⟩ : Obj) = _
 have e : Array.setIfInBounds (⟨vs ++ [y]⟩ : Array Value) vs.length v = ⟨vs ++ [v]⟩:=by
  apply Array.ext'
  simp
 rw [e]
 have : (((⟨vs ++ [v]⟩ : Array Value)).size == ((⟨vs ++ [y]⟩ : Array Value)).size) = true:=by simp
 simp only [this,e]
 rfl
theorem setlast_code {q : Addr} {v y : Value} {vs : List Value} {n : Nat} {t : Tok} (hp : s.heap.get? q = some (lst (vs ++ [y]) n))
  (H : R 'm' { s with heap:=s.heap.update q (Obj.mapSeq (·.setIfInBounds vs.length v)) }) : CA w A (.call (.builtin "list.__setitem__") ⟨[.ref q,.int (.negSucc 0) t,v],[]⟩) R s:=by
 refine codeAny_call_builtin slot_list_setitem.plain entry_list_setitem (slot_list_setitem.check _ _ _ _ _ _ _ _ ⟨_,hp,rfl⟩ (args_list_setitem _ _ _) ?_)
 generalize hk : Int.negSucc 0 = k
 show wpAny _ _ (Builtin.List.listSubscript? (.int k t) >>= _) _ _ s
 refine wpAny_bind (wpAny_listSubscript_int (fitsIndex_neg (by rw [← hk]; decide) (by rw [← hk]; decide)) ?_)
 subst hk
 show wpAny _ _ ((Builtin.List.listItems (.ref q) >>= fun xs=>pure ((seqIndex? (Int.negSucc 0) xs.size).bind fun i=>xs[i]?.map (i,·))) >>= _) _ _ s
 refine wpAny_bind (wpAny_bind ?_)
 show wpAny _ _ (seqItems? (.ref q) >>= _) _ _ s
 refine wpAny_bind (wpAny_seqItems hp rfl (wpAny_pure (wpAny_pure ?_)))
 rw [seqIndex_neg (k:=Int.negSucc 0) (by decide) (by show -(((vs ++ [y]).length : Nat) : Int) ≤ _; simp; omega)]
 have hl:=last_item (vs:=vs) (y:=y)
 have hi : (Int.negSucc 0 + ((⟨vs ++ [y]⟩ : Array Value).size : Int)).toNat = vs.length:=by
  show ((-1 : Int) + (((vs ++ [y]).length : Nat) : Int)).toNat = _
  simp
  omega
 have hl2 : (⟨vs ++ [y]⟩ : Array Value)[vs.length]? = some y:=by simp
 simp only [Option.bind_some,hi,hl2,Option.map_some]
 show wpAny _ _ (setSeqItemAt q vs.length v >>= _) _ _ s
 refine wpAny_bind (wpAny_setSeqItemAt hp rfl ?_)
 first
  | exact wpAny_bind (wpAny_pure (wpAny_pure H))
  | exact wpAny_pure H
variable {w : World} {A : Around} {s : Shared} {E : Value->Shared->Prop} {as : List Addr} {cs : List Obj} {T : BT}
theorem TopIn.now {h₀ h : Heap} (X : TopIn T h₀) (R : Rep h₀ as cs h) : TopIn T h:=fun a o e1 e2=>R.keep a o (X a o e1 e2)
theorem two_alone {P : Params} {h : Heap} {L t : Addr} {o1 o2 : Obj} (X : TopIn (Tf P) h) (h1 : h.get? L = some o1) (h2 : h.get? t = some o2) (n1 : NTop P L) (n2 : NTop P t) (ne : L ≠ t) : TopIn (Tf P) (hideAll h [L,t]) ∧ Rep (hideAll h [L,t]) [L,t] [o1,o2] h:=by
 refine ⟨fun a o e1 e2=>hideAll_get _ (X a o e1 e2) (fun q=>?_),⟨rfl,by simp [ne],?_,fun b hb=>hideAll_none _ hb,fun b o q=>of_hideAll _ q⟩⟩
 ·simp only [List.mem_cons,List.not_mem_nil,or_false] at q
  rcases q with rfl | rfl
  ·exact n1 o e1 e2
  ·exact n2 o e1 e2
 ·intro m b o e1 e2
  match m,e1,e2 with
  | 0,e1,e2=>simp at e1 e2; subst e1 e2; exact h1
  | 1,e1,e2=>simp at e1 e2; subst e1 e2; exact h2
  | m + 2,e1,e2=>simp at e1
theorem Rep.head {h₀ h h' : Heap} {L : Addr} {la : List Addr} {o o' : Obj} {cl : List Obj} (R : Rep h₀ (L :: la) (o :: cl) h) (h1 : h'.get? L = some o') (k : ∀ b o,b ≠ L->h.get? b = some o->h'.get? b = some o) : Rep h₀ (L :: la) (o' :: cl) h':=by
 have hn : L ∉ la:=(List.nodup_cons.mp R.nd).1
 refine ⟨by simpa using R.len,R.nd,?_,R.fresh,fun b o q=>k b o (fun e=>?_) (R.keep b o q)⟩
 ·intro m a x e1 e2
  cases m with
  | zero=>simp at e1 e2; subst e1 e2; exact h1
  | succ m =>
   have e1' : la[m]? = some a:=by simpa using e1
   exact k a x (fun e=>hn (e ▸ List.mem_of_getElem? e1')) (R.cell (m + 1) a x e1 (by simpa using e2))
 ·rw [e,R.fresh L (.head _)] at q; cases q
theorem lst_iter {pp : Addr} {vs : List Value} {k : Nat} {Q : Value->Shared->Prop} (hl : s.heap.get? pp = some (lst vs k))
  (h : ∀ it s',s'.heap.IsListIter it pp 0->(∀ b o,s.heap.get? b = some o->s'.heap.get? b = some o)->s.heap.get? it = none->Same s s'->Q (.ref it) s') : WP w A (pyIter (.ref pp)) Q E s :=
 wpAny_pyIter_list ⟨_,hl,rfl,_,rfl⟩ (h _ _ ⟨_,Heap.get?_push_size _ rfl,rfl,rfl⟩ (fun b o q=>Heap.get?_push_of_some _ q) (size_none _) ⟨rfl,rfl,rfl⟩)
theorem lst_next {pp it : Addr} {vs : List Value} {x : Value} {k i : Nat} {Q : Option Value->Shared->Prop} (hit : s.heap.IsListIter it pp i) (hl : s.heap.get? pp = some (lst vs k)) (hx : vs[i]? = some x)
  (h : ∀ s',s'.heap.IsListIter it pp (i + 1)->(∀ b o,b ≠ it->s.heap.get? b = some o->s'.heap.get? b = some o)->Same s s'->Q (some x) s') : WP w A (pyNext (.ref it)) Q E s :=
 wpAny_pyNext_list_item hit ⟨_,hl,rfl,_,rfl⟩ (by simpa using hx) fun h' h1 h2=>h _ h1 h2.extBut ⟨rfl,rfl,rfl⟩
theorem lst_done {pp it : Addr} {vs : List Value} {k i : Nat} {Q : Option Value->Shared->Prop} (hh : 'g') (hit : s.heap.IsListIter it pp i) (hl : s.heap.get? pp = some (lst vs k)) (hx : vs[i]? = none)
  (h : ∀ s',(∀ b o,b ≠ it->s.heap.get? b = some o->s'.heap.get? b = some o)->Same s s'->Q none s') : WP w A (pyNext (.ref it)) Q E s :=
 wpAny_pyNext_list_end hh hit ⟨_,hl,rfl,_,rfl⟩ (by simpa using hx) fun h' h1=>h _ h1 ⟨rfl,rfl,rfl⟩
inductive Gr where
 | white | run | word
noncomputable def grp : Ro->Gr
 | .white=>.white
 | .run=>.run
 | _=>.word
noncomputable def grS : Gr->Str
 | .white=>⟨⟨[nat_lit 119,nat_lit 104,nat_lit 105,nat_lit 116,nat_lit 101]⟩⟩
 | .run=>⟨⟨[nat_lit 114,nat_lit 117,nat_lit 110]⟩⟩
 | .word=>⟨⟨[nat_lit 119,nat_lit 111,nat_lit 114,nat_lit 100]⟩⟩
noncomputable def gsame : Gr->Gr->Bool
 | .white,.white=>true
 | .run,.run=>true
 | .word,.word=>true
 | _,_=>false
noncomputable def addLast : List (List Nat)->List Nat->List (List Nat)
 | [],_=>[]
 | [t],z=>[t ++ z]
 | t :: u :: r,z=>t :: addLast (u :: r) z
theorem addLast_snoc (z y : List Nat) : ∀ ts : List (List Nat),addLast (ts ++ [y]) z = ts ++ [y ++ z]
 | []=>rfl
 | [t]=>rfl
 | t :: u :: r=>by
  have:=addLast_snoc z y (u :: r)
  simp only [List.cons_append] at this
  simp only [List.cons_append,addLast,this]
noncomputable def lstep (last : Gr) (ts : List (List Nat)) (q : Ro × List Nat) : List (List Nat):=match grp q.1 with
 | .white=>ts
 | g=>match gsame g last with
  | true=>addLast ts q.2
  | false=>ts ++ [q.2]
noncomputable def lrun : Gr->List (List Nat)->List (Ro × List Nat)->List (List Nat)
 | _,ts,[]=>ts
 | last,ts,q :: r=>lrun (grp q.1) (lstep last ts q) r
theorem strsAre_unsnoc {ts : List Str} {t : Str} : ∀ {vs : List Value},StrsAre vs (ts ++ [t])->∃ vs0 T,vs = vs0 ++ [.str t T] ∧ StrsAre vs0 ts:=by
 induction ts with
 | nil =>
  intro vs h
  cases h with
  | cons y u h2=>cases h2; exact ⟨[],u,rfl,.nil⟩
 | cons a ts ih =>
  intro vs h
  cases h with
  | cons y u h2 =>
   obtain ⟨vs0,T,rfl,h3⟩:=ih h2
   exact ⟨_,T,rfl,.cons a u h3⟩
noncomputable def LxF (P : Params) (u : Nat->Tok) (pp q : Addr) (la : Str) (laT : Tok) (fr : Obj) : Prop:=fr = lxf3 P u pp q la laT ∨ ∃ ro rT sg sT g gT,fr = lxf6 P u pp q la laT ro rT sg sT g gT
section
variable (P : Params) (u : Nat->Tok) (pp q : Addr) (k : Nat->Tok) (t0 t1 t2 : Tok) (la : Str) (laT : Tok) (ro ro1 : Str) (rT r1T : Tok) (sg sg1 : Str) (sT s1T t : Tok) (g : Str) (gT : Tok)
theorem lxr_fr0 : sn (sn (lxr_fr P pp k) (en P a458 t0 (.ref q))) (en P a459 t2 (.str la t1)) = lxf3 P (uP (k 0) t0 t2) pp q la t1:=by kernel_rfl!
theorem lxf_a3 (P : Params) (u : 'f') (pp : Addr) (q : Addr) (la : Str) (laT : Tok) (ro : Str) (rT : Tok) (sg : Str) (sT : Tok) (t1 : Tok) (t2 : Tok) : sn (sn (lxf3 P u pp q la laT) (en P a460 t1 (.str ro rT))) (en P a457 t2 (.str sg sT)) = lxf5 P (uN (uN u 3 t1) 4 t2) pp q la laT ro rT sg sT:=by kernel_rfl!
theorem lxf_a6 : sv (sv 'p' 3 (.str ro1 r1T)) 4 (.str sg1 s1T) = lxf6 P u pp q la laT ro1 r1T sg1 s1T g gT:=by kernel_rfl!
theorem lxf_g5 : sn (lxf5 P u pp q la laT ro rT sg sT) (en P a461 t (.str g gT)) = lxf6 P (uN u 5 t) pp q la laT ro rT sg sT g gT:=by kernel_rfl!
theorem lxf_g6 (P : Params) (u : 'f') (pp : Addr) (q : Addr) (la : Str) (laT : Tok) (ro : Str) (rT : Tok) (sg : Str) (sT : Tok) (g : Str) (g1 : Str) (gT : Tok) (t : Tok) : sv 'p' 5 (.str g1 t) = lxf6 P u pp q la laT ro rT sg sT g1 t:=by kernel_rfl!
theorem lxf_l6 (P : Params) (u : 'f') (pp : Addr) (q : Addr) (la : Str) (laT : Tok) (ro : Str) (rT : Tok) (sg : Str) (sT : Tok) (g : Str) (gT : Tok) (z : Str) (t : Tok) : sv 'p' 2 (.str z t) = lxf6 P u pp q z t ro rT sg sT g gT:=by kernel_rfl!
end
section
variable {w : World} {pp q L t : Addr} {A : Around} {h₀ : Heap} {s : Shared} {la : Gr}
theorem lx_asg {u : 'f'} {laT : Tok} {fr o : Obj} {ro : Ro} {z : List Nat} {t1 t2 : Tok} {Q : Unit->Shared->Prop} (hf : LxF w.params u pp q (grS la) laT fr) (X : 'r') (R : Rep h₀ [L,q] [fr,o] s.heap)
  (ht : h₀.get? t = some (tpO [.str (roS ro) t1,.str ⟨⟨z⟩⟩ t2])) (hn : NTop w.params t) (hh : 'g')
  (h : ∀ u' fr' s',(fr' = lxf5 w.params u' pp q (grS la) laT (roS ro) t1 ⟨⟨z⟩⟩ t2 ∨ ∃ g gT,fr' = lxf6 w.params u' pp q (grS la) laT (roS ro) t1 ⟨⟨z⟩⟩ t2 g gT)->Rep h₀ [L,q] [fr',o] s'.heap->Kept [L] s.heap s'.heap->Same s s'->Q () s') :
  WP w A (assign (fTgt (sNth body762 2)) (env762 L) (.ref t)) Q E s:=by
 rw [tw_assign]
 have hL : NTop w.params L:=R.ntop X (.head _)
 have gL:=R.cell 0 L _ rfl rfl
 have gt:=R.keep _ _ ht
 have ne : L ≠ t:=fun e=>by rw [← e,R.fresh L (.head _)] at ht; cases ht
 obtain ⟨X2,R2⟩:=two_alone (X.now R) gL gt hL hn ne
 have fin : ∀ (fr' : Obj) (s' : Shared),Rep (hideAll s.heap [L,t]) [L,t] [fr',tpO [.str (roS ro) t1,.str ⟨⟨z⟩⟩ t2]] s'.heap->Rep h₀ [L,q] [fr',o] s'.heap ∧ Kept [L] s.heap s'.heap:=by
  intro fr' s' R'
  have k : ∀ b ob,b ≠ L->s.heap.get? b = some ob->s'.heap.get? b = some ob:=fun b ob nb e=>by
   by_cases q : b = t
   ·subst q
    rw [gt] at e; cases e
    exact R'.cell 1 _ _ rfl rfl
   ·exact R'.keep b ob (hideAll_get _ e (by simp [nb,q]))
  exact ⟨R.head (R'.cell 0 L _ rfl rfl) k,fun b ob n e=>k b ob (by simpa using n) e⟩
 rcases hf with rfl | ⟨ro0,r0,sg0,s0,g,gT,rfl⟩
 ·refine (lxrA3 w.params u pp q L _ laT t (roS ro) t1 ⟨⟨z⟩⟩ t2).sound X2 R2 hh 'a' 'e' ?_
  intro ad tk s' R' S'
  obtain ⟨f1,f2⟩:=fin _ s' R'
  rw [lxf_a3] at f1
  exact h _ _ s' (.inl rfl) f1 f2 S'
 ·refine (lxrA6 w.params u pp q L _ laT ro0 r0 sg0 s0 g gT t (roS ro) t1 ⟨⟨z⟩⟩ t2).sound X2 R2 hh 'a' 'e' ?_
  intro ad tk s' R' S'
  obtain ⟨f1,f2⟩:=fin _ s' R'
  rw [lxf_a6] at f1
  exact h _ _ s' (.inr ⟨g,gT,rfl⟩) f1 f2 S'
theorem lx_grp {u : 'f'} {laT : Tok} {fr o : Obj} {ro : Ro} {sg : Str} {t1 t2 : Tok} {Q : Flow->Shared->Prop} (hf : fr = lxf5 w.params u pp q (grS la) laT (roS ro) t1 sg t2 ∨ ∃ g gT,fr = lxf6 w.params u pp q (grS la) laT (roS ro) t1 sg t2 g gT) (X : 'r') (R : Rep h₀ [L,q] [fr,o] s.heap) (hh : 'g')
  (h : ∀ u' gT s',Rep h₀ [L,q] [lxf6 w.params u' pp q (grS la) laT (roS ro) t1 sg t2 (grS (grp ro)) gT,o] s'.heap->Kept [L] s.heap s'.heap->Same s s'->Q .next s') :
  WP w A (execs [sNth (sBody (sNth body762 2)) 0] (env762 L)) Q E s:=by
 rw [tw_execs]
 have key : ([grS .white,grS .run].any (· == roS ro)) = (match grp ro with | .word=>false | _=>true):=by cases ro <;> decide
 rcases hf with rfl | ⟨g,gT,rfl⟩
 ·cases hg : grp ro with
  | word =>
   rw [hg] at key
   refine (lxrG5_f w.params u pp q L _ laT (roS ro) t1 sg t2).part (la:=[q]) (cl:=[o]) X R rfl hh 'a' (fun _ _=>all_cons (con_lin 1 false rfl rfl key) all_nil) ?_
   intro ad tk s' R' K S
   rw [lxf_g5] at R'
   exact h _ _ s' (by rw [hg]; exact R') K S
  | white =>
   rw [hg] at key
   have e : roS ro = grS .white:=by cases ro <;> first | rfl | cases hg
   refine (lxrG5_t w.params u pp q L _ laT (roS ro) t1 sg t2).part (la:=[q]) (cl:=[o]) X R rfl hh 'a' (fun _ _=>all_cons (con_lin 1 true rfl rfl key) all_nil) ?_
   intro ad tk s' R' K S
   rw [lxf_g5] at R'
   exact h _ _ s' (by rw [hg,← e]; exact R') K S
  | run =>
   rw [hg] at key
   have e : roS ro = grS .run:=by cases ro <;> first | rfl | cases hg
   refine (lxrG5_t w.params u pp q L _ laT (roS ro) t1 sg t2).part (la:=[q]) (cl:=[o]) X R rfl hh 'a' (fun _ _=>all_cons (con_lin 1 true rfl rfl key) all_nil) ?_
   intro ad tk s' R' K S
   rw [lxf_g5] at R'
   exact h _ _ s' (by rw [hg,← e]; exact R') K S
 ·cases hg : grp ro with
  | word =>
   rw [hg] at key
   refine (lxrG6_f w.params u pp q L _ laT (roS ro) t1 sg t2 g gT).part (la:=[q]) (cl:=[o]) X R rfl hh 'a' (fun _ _=>all_cons (con_lin 1 false rfl rfl key) all_nil) ?_
   intro ad tk s' R' K S
   rw [lxf_g6] at R'
   exact h _ _ s' (by rw [hg]; exact R') K S
  | white =>
   rw [hg] at key
   have e : roS ro = grS .white:=by cases ro <;> first | rfl | cases hg
   refine (lxrG6_t w.params u pp q L _ laT (roS ro) t1 sg t2 g gT).part (la:=[q]) (cl:=[o]) X R rfl hh 'a' (fun _ _=>all_cons (con_lin 1 true rfl rfl key) all_nil) ?_
   intro ad tk s' R' K S
   rw [lxf_g6] at R'
   exact h _ _ s' (by rw [hg,← e]; exact R') K S
  | run =>
   rw [hg] at key
   have e : roS ro = grS .run:=by cases ro <;> first | rfl | cases hg
   refine (lxrG6_t w.params u pp q L _ laT (roS ro) t1 sg t2 g gT).part (la:=[q]) (cl:=[o]) X R rfl hh 'a' (fun _ _=>all_cons (con_lin 1 true rfl rfl key) all_nil) ?_
   intro ad tk s' R' K S
   rw [lxf_g6] at R'
   exact h _ _ s' (by rw [hg,← e]; exact R') K S
end
variable {E : Value->Shared->Prop}
section
variable {w : World} {pp q L t : Addr} {A : Around} {h₀ : Heap} {s : Shared} {la : Gr}
theorem lx_rest {u : 'f'} {laT : Tok} {ro : Ro} {z : List Nat} {t1 t2 gT : Tok} {vs : List Value} {ts : List (List Nat)} {n : Nat} {Q : Flow->Shared->Prop} (X : 'r')
  (R : Rep h₀ [L,q] [lxf6 w.params u pp q (grS la) laT (roS ro) t1 ⟨⟨z⟩⟩ t2 (grS (grp ro)) gT,lst vs n] s.heap) (hh : 'g') (hv : StrsAre vs (ts.map mkS)) (hl : ts.length ≤ 900) (hne : gsame (grp ro) la = true->grp ro ≠ .white->ts ≠ []) (hsz : ∀ y ∈ ts,(y ++ z).length ≤ 1001)
  (h : ∀ fr vs' n' s',LxF w.params u pp q (grS (grp ro)) gT fr->Rep h₀ [L,q] [fr,lst vs' n'] s'.heap->StrsAre vs' ((lstep la ts (ro,z)).map mkS)->Kept [L,q] s.heap s'.heap->Same s s'->Q .next s') :
  WP w A (execs ((sBody (sNth body762 2)).drop 1) (env762 L)) Q E s:=by
 rw [tw_execs]
 have fin : ∀ (fr : Obj),LxF w.params u pp q (grS (grp ro)) gT (lxf6 w.params u pp q (grS (grp ro)) gT (roS ro) t1 ⟨⟨z⟩⟩ t2 (grS (grp ro)) gT):=fun fr=>.inr ⟨_,_,_,_,_,_,rfl⟩
 by_cases hw : grp ro = .white
 ·have hg : grS (grp ro) = grS .white:=by rw [hw]
  refine (lxrW w.params u pp q L _ laT (roS ro) t1 ⟨⟨z⟩⟩ t2 (grS (grp ro)) gT).part (la:=[q]) (cl:=[lst vs n]) X R rfl hh (fun _ _=>rfl) (fun _ _=>all_cons (fun _ _=>con_ne false (by rw [hg]; decide)) (all_cons (fun _ _=>con_ne false (by rw [hg]; decide)) all_nil)) ?_
  intro ad tk s' R' K S
  rw [lxf_l6] at R'
  refine h _ vs n s' (fin default) R' ?_ (fun b o nb e=>K b o (fun x=>nb (by simp at x; simp [x])) e) S
  have : lstep la ts (ro,z) = ts:=by unfold lstep; simp only [hw]
  rw [this]; exact hv
 ·have hn : ((grS (grp ro)).cps.toList != (grS .white).cps.toList) = true:=by
   cases hg : grp ro <;> first | exact absurd hg hw | decide
  cases hs : gsame (grp ro) la with
  | true =>
   have hla : grS (grp ro) = grS la:=by
    cases hg : grp ro <;> cases la <;> first | rfl | (rw [hg] at hs; cases hs)
   obtain ⟨ts0,y,rfl⟩ : ∃ ts0 y,ts = ts0 ++ [y]:=by
    have:=hne hs hw
    exact ⟨ts.dropLast,ts.getLast this,(List.dropLast_concat_getLast this).symm⟩
   rw [List.map_append] at hv
   obtain ⟨vs0,yT,rfl,hv0⟩:=strsAre_unsnoc hv
   have hy : (mkS y ++ (⟨⟨z⟩⟩ : Str)) = mkS (y ++ z):=str_snoc y z
   have hys:=hsz y (by simp)
   have hS : (1002 : Nat) ≤ sizeLine:=by decide +kernel
   have cadd : ∀ {as : List Addr} {cs : List Obj} {D U : Nat},Con w (Tf w.params) as (.call (.builtin "str.__add__") ⟨[.str (mkS y) yT,.str ⟨⟨z⟩⟩ t2],[]⟩) cs (xP fun f=>.str (mkS (y ++ z)) (f 0)) D U:=by
    intro as cs D U
    have:=con_add (w:=w) (T:=Tf w.params) (as:=as) (cs:=cs) (x:=mkS y) (y:=⟨⟨z⟩⟩) (t:=yT) (u:=t2) (D:=D) (U:=U) (by rw [hy]; show (y ++ z).length ≤ _; omega)
    rw [hy] at this
    exact this
   refine (lxrJ w.params u pp q L _ laT (roS ro) t1 ⟨⟨z⟩⟩ t2 (grS (grp ro)) gT (mkS y) yT (mkS (y ++ z)) (vs0 ++ [.str (mkS y) yT]) n).run X R hh 'a'
    (fun _ _=>all_cons (fun _ _=>con_ne true hn) (all_cons (fun _ _=>con_eq true (by rw [hla]; simp)) (all_cons (con_getlast 1 rfl rfl) (all_cons (fun _ _=>cadd) all_nil)))) ?_
   intro ad tk s1 R1 K1 S1 A' d1 d2 d3 d4 d5
   have R1' : Rep h₀ [L,q] _ s1.heap:=R1
   refine setlast_code (R1'.cell 1 q _ rfl rfl) ?_
   have R2:=R1'.update (m:=1) (a:=q) (o:=lst (vs0 ++ [.str (mkS y) yT]) n) (f:=Obj.mapSeq (·.setIfInBounds vs0.length (.str (mkS (y ++ z)) (tk 27)))) rfl rfl rfl
   rw [lst_setlast] at R2
   have K2 : Kept [L,q] s1.heap (s1.heap.update q (Obj.mapSeq (·.setIfInBounds vs0.length (.str (mkS (y ++ z)) (tk 27))))):=fun b o nb e=>(Heap.get?_update_ne _ _ _ _ (fun x=>nb (by simp [x]))).trans e
   refine (lxrJ0 w.params u pp q L _ laT (roS ro) t1 ⟨⟨z⟩⟩ t2 (grS (grp ro)) gT (mkS y) yT (mkS (y ++ z)) _ n (vs0 ++ [Value.str (mkS (y ++ z)) (tk 27)]) n ad tk).run (h₀:=h₀) (s:={ s1 with heap:=_ }) X (by exact R2) 'a' 'e' ?_
   intro ad2 tk2 s3 R3 K3 S3
   rw [lxf_l6] at R3
   refine h _ _ _ s3 (fin default) R3 ?_ (K1.trans (K2.trans K3)) (S1.trans (show Same s1 s3 from S3))
   have e : lstep la (ts0 ++ [y]) (ro,z) = ts0 ++ [y ++ z]:=by
    unfold lstep
    cases hg : grp ro with
    | white=>exact absurd hg hw
    | run=>simp only [hg] at hs; simp only [hg,hs,addLast_snoc]
    | word=>simp only [hg] at hs; simp only [hg,hs,addLast_snoc]
   rw [e,List.map_append]
   exact strsAre_snoc hv0 _ _
  | false =>
   have hla : ((grS (grp ro)).cps.toList == (grS la).cps.toList) = false:=by
    cases hg : grp ro <;> cases la <;> first | decide | (rw [hg] at hs; cases hs)
   refine (lxrN w.params u pp q L _ laT (roS ro) t1 ⟨⟨z⟩⟩ t2 (grS (grp ro)) gT vs n).run X R hh 'a'
    (fun _ _=>all_cons (fun _ _=>con_ne true hn) (all_cons (fun _ _=>con_eq false hla) (all_cons (fun _ _=>con_ne true hn) all_nil))) ?_
   intro ad tk s1 R1 K1 S1 A' d1 d2 d3 d4 d5
   have R1' : Rep h₀ [L,q] _ s1.heap:=R1
   have hvl:=strsAre_len hv
   simp at hvl
   refine append_code (R1'.cell 1 q _ rfl rfl) (by omega) ?_
   have R2:=R1'.update (m:=1) (a:=q) (o:=lst vs n) (f:=Obj.mapSeq (·.push (.str ⟨⟨z⟩⟩ t2))) rfl rfl rfl
   rw [lst_push] at R2
   have K2 : Kept [L,q] s1.heap (s1.heap.update q (Obj.mapSeq (·.push (.str ⟨⟨z⟩⟩ t2)))):=fun b o nb e=>(Heap.get?_update_ne _ _ _ _ (fun x=>nb (by simp [x]))).trans e
   refine (lxrN0 w.params u pp q L _ laT (roS ro) t1 ⟨⟨z⟩⟩ t2 (grS (grp ro)) gT vs n (vs ++ [Value.str ⟨⟨z⟩⟩ t2]) (n + 1) ad tk).run (h₀:=h₀) (s:={ s1 with heap:=_ }) X (by exact R2) 'a' 'e' ?_
   intro ad2 tk2 s3 R3 K3 S3
   rw [lxf_l6] at R3
   refine h _ _ _ s3 (fin default) R3 ?_ (K1.trans (K2.trans K3)) (S1.trans (show Same s1 s3 from S3))
   have e : lstep la ts (ro,z) = ts ++ [z]:=by
    unfold lstep
    cases hg : grp ro with
    | white=>exact absurd hg hw
    | run=>simp only [hg] at hs; simp only [hg,hs]
    | word=>simp only [hg] at hs; simp only [hg,hs]
   rw [e,List.map_append]
   exact strsAre_snoc hv _ _
end
variable {w : World} {A : Around} {h₀ : Heap} {s : Shared} {R : Result->Shared->Prop} {E : Value->Shared->Prop} {as : List Addr}
theorem PartsAre.at {P : Params} {h : Heap} {vs : List Value} {l : List (Ro × List Nat)} (p : PartsAre P as h vs l) : ∀ {i : Nat} {q : Ro × List Nat},l[i]? = some q->∃ v,vs[i]? = some v ∧ PartAt P as h v q:=by
 induction p with
 | nil=>intro i q h; simp at h
 | cons hv _ ih =>
  intro i q h
  cases i with
  | zero=>simp at h; subst h; exact ⟨_,rfl,hv⟩
  | succ i=>exact ih (by simpa using h)
section
variable (env : Env) (x : Value) (P : Params) (u : Nat->Tok) (pp q L : Addr) (la : Str) (laT : Tok)
theorem lx_for : sNth body762 2 = .For (fTgt y44) (fIter y44) (sBody y44) (sElse y44) (sPos y44):=by kernel_rfl!
theorem lx_split : body762 = body762.take 2 ++ (sNth body762 2 :: body762.drop 3):=by kernel_rfl!
theorem lx_else : sElse (sNth body762 2) = []:=by kernel_rfl!
theorem lx_tgt : fTgt y44 = .Tuple (xElts (fTgt y44)) (xKd (fTgt y44)) (xPos (fTgt y44)):=by kernel_rfl!
theorem lx_fold : foldedSetIterable (fIter y44) env x = pure x:=by kernel_rfl!
theorem lx_body : sBody y44 = [sNth (sBody y44) 0] ++ (sBody y44).drop 1:=by kernel_rfl!
theorem lx_own {it l t : Addr} {i : Nat} {Q : Unit->Shared->Prop} (hit : s.heap.IsListIter it l i) (h : Q () s) : WP w A (letOwnedTupleGo (fTgt (sNth body762 2)) (.ref it) (.ref t)) Q E s:=by
 rw [lx_tgt]
 exact wpAny_letOwnedTupleGo_listiter hit h
theorem gsame_eq {a b : Gr} (h : gsame a b = true) : a = b:=by cases a <;> cases b <;> first | rfl | cases h
theorem addLast_len (z : List Nat) : ∀ ts : List (List Nat),(addLast ts z).length = ts.length
 | []=>rfl
 | [t]=>rfl
 | t :: u :: r=>by
  have:=addLast_len z (u :: r)
  simp only [addLast,List.length_cons] at this ⊢
  omega
theorem addLast_mem (z : List Nat) : ∀ (ts : List (List Nat)) (y : List Nat),y ∈ addLast ts z->y ∈ ts ∨ ∃ x ∈ ts,y = x ++ z
 | [],y,h=>by cases h
 | [t],y,h=>by
  simp only [addLast,List.mem_singleton] at h
  exact .inr ⟨t,.head _,h⟩
 | t :: u :: r,y,h=>by
  simp only [addLast,List.mem_cons] at h
  rcases h with rfl | h
  ·exact .inl (.head _)
  ·rcases addLast_mem z (u :: r) y (by simpa [List.mem_cons] using h) with h | ⟨x,h1,h2⟩
   ·exact .inl (.tail _ h)
   ·exact .inr ⟨x,.tail _ h1,h2⟩
theorem lstep_ok {la : Gr} {ts : List (List Nat)} {q : Ro × List Nat} {i : Nat} (h1 : ts.length ≤ i) (h2 : ∀ y ∈ ts,y.length ≤ i) (h3 : la ≠ .white->ts ≠ []) (hq : q.2.length ≤ 1) :
  (lstep la ts q).length ≤ i + 1 ∧ (∀ y ∈ lstep la ts q,y.length ≤ i + 1) ∧ (grp q.1 ≠ .white->lstep la ts q ≠ []):=by
 have add : gsame (grp q.1) la = true->grp q.1 ≠ .white->(addLast ts q.2).length ≤ i + 1 ∧ (∀ y ∈ addLast ts q.2,y.length ≤ i + 1) ∧ addLast ts q.2 ≠ []:=by
  intro hs hw
  refine ⟨by rw [addLast_len]; omega,?_,?_⟩
  ·intro y hy
   rcases addLast_mem _ _ _ hy with hy | ⟨x,hx,rfl⟩
   ·have:=h2 y hy; omega
   ·have:=h2 x hx
    simp; omega
  ·intro e
   have hl:=addLast_len q.2 ts
   rw [e] at hl
   exact h3 (by rw [← gsame_eq hs]; exact hw) (List.length_eq_zero_iff.mp hl.symm)
 have app : (ts ++ [q.2]).length ≤ i + 1 ∧ (∀ y ∈ ts ++ [q.2],y.length ≤ i + 1) ∧ ts ++ [q.2] ≠ []:=by
  refine ⟨by simp; omega,?_,by simp⟩
  intro y hy
  rcases List.mem_append.mp hy with hy | hy
  ·have:=h2 y hy; omega
  ·simp only [List.mem_singleton] at hy
   subst hy; omega
 cases hg : grp q.1 with
 | white =>
  have e : lstep la ts q = ts:=by unfold lstep; simp only [hg]
  rw [e]
  exact ⟨by omega,fun y hy=>by have:=h2 y hy; omega,fun h=>absurd rfl h⟩
 | run =>
  rw [hg] at add
  cases hs : gsame .run la with
  | true =>
   have e : lstep la ts q = addLast ts q.2:=by unfold lstep; simp only [hg,hs]
   rw [e]
   obtain ⟨a,b,c⟩:=add hs (by nofun); exact ⟨a,b,fun _=>c⟩
  | false =>
   have e : lstep la ts q = ts ++ [q.2]:=by unfold lstep; simp only [hg,hs]
   rw [e]
   exact ⟨app.1,app.2.1,fun _=>app.2.2⟩
 | word =>
  rw [hg] at add
  cases hs : gsame .word la with
  | true =>
   have e : lstep la ts q = addLast ts q.2:=by unfold lstep; simp only [hg,hs]
   rw [e]
   obtain ⟨a,b,c⟩:=add hs (by nofun); exact ⟨a,b,fun _=>c⟩
  | false =>
   have e : lstep la ts q = ts ++ [q.2]:=by unfold lstep; simp only [hg,hs]
   rw [e]
   exact ⟨app.1,app.2.1,fun _=>app.2.2⟩
structure LxI (w : World) (l : List (Ro × List Nat)) (L pp q it : Addr) (h₀ : Heap) (s₀ : Shared) (n : Nat) (s : Shared) : Prop where
 all : ∃ u la laT fr ts vs k rest i,n = rest.length + 1 ∧ l.drop i = rest ∧ lrun la ts rest = lrun .white [] l ∧ ts.length ≤ i ∧ (∀ y ∈ ts,y.length ≤ i) ∧ (la ≠ .white->ts ≠ []) ∧ i ≤ l.length ∧
  LxF w.params u pp q (grS la) laT fr ∧ Rep h₀ [L,q] [fr,lst vs k] s.heap ∧ StrsAre vs (ts.map mkS) ∧ s.heap.IsListIter it pp i
 itn : it ∉ [L,q]
 it0 : h₀.get? it = none
 sm : Same s₀ s
theorem lit_keep {h h' : Heap} {it pp : Addr} {i : Nat} (y : h.IsListIter it pp i) (k : Kept as h h') (n : it ∉ as) : h'.IsListIter it pp i :=
 let ⟨o,ho,r⟩:=y; ⟨o,k _ _ n ho,r⟩
theorem lx_loop {l : List (Ro × List Nat)} {L pp q it : Addr} {ps : List Value} {kp : Nat} {s₀ s : Shared} (hp : h₀.get? pp = some (lst ps kp)) (hps : PartsAre w.params [] h₀ ps l) (hll : l.length ≤ 900) (hsg : ∀ x ∈ l,x.2.length ≤ 1) (hh : 'g') (X : 'r')
  (H : ∀ u la laT fr vs k s',LxF w.params u pp q (grS la) laT fr->Rep h₀ [L,q] [fr,lst vs k] s'.heap->StrsAre vs ((lrun .white [] l).map mkS)->Same s₀ s'->R (.ok .next) s')
  (I : LxI w l L pp q it h₀ s₀ (l.length + 1) s) :
  CA w A (.forLoop (fTgt (sNth body762 2)) (.ref it) (sBody (sNth body762 2)) (sElse (sNth body762 2)) (env762 L)) R s:=by
 refine codeAny_forLoop_any (LxI w l L pp q it h₀ s₀) ?_ _ I
 rintro n s1 ⟨⟨u,la,laT,fr,ts,vs,k,rest,i,rfl,hd,he,h1,h2,h3,hi,hf,R1,hv,hit⟩,n1,n2,S1⟩
 have hp1:=R1.keep _ _ hp
 cases rest with
 | nil =>
  have hx : l[i]? = none:=by rw [List.getElem?_eq_none_iff]; exact List.drop_eq_nil_iff.mp hd
  have hx' : ps[i]? = none:=by rw [List.getElem?_eq_none_iff,hps.len]; exact List.drop_eq_nil_iff.mp hd
  refine lst_done hh hit hp1 hx' fun s2 K2 S2=>?_
  dsimp only
  rw [lx_else]
  refine wpAny_execs_nil ?_
  simp only [lrun] at he
  exact H u la laT fr vs k s2 hf (R1.extBut K2 n1 n2) (he ▸ hv) (S1.trans S2)
 | cons x rest =>
  have hi' : i < l.length:=by
   refine Nat.lt_of_not_le fun q=>?_
   rw [List.drop_eq_nil_of_le q] at hd; cases hd
  rw [List.drop_eq_getElem_cons hi'] at hd
  simp only [List.cons.injEq] at hd
  obtain ⟨hc,hd⟩:=hd
  have hx : l[i]? = some x:=by rw [List.getElem?_eq_getElem hi',hc]
  obtain ⟨v,hxv,a,t1,t2,rfl,_,hnt,ga⟩:=hps.at hx
  obtain ⟨ro,z⟩:=x
  refine lst_next hit hp1 hxv fun s2 hit2 K2 S2=>?_
  dsimp only
  refine lx_own hit2 ?_
  have R2:=R1.extBut K2 n1 n2
  refine lx_asg hf X R2 ga hnt hh fun u3 fr3 s3 hf3 R3 K3 S3=>?_
  rw [lx_body]
  refine wp_app ?_
  refine lx_grp hf3 X R3 hh fun u4 gT s4 R4 K4 S4=>?_
  dsimp only
  have hz : z.length ≤ 1:=hsg (ro,z) (List.mem_of_getElem? hx)
  refine lx_rest X R4 hh hv (by omega) (fun hs hw=>h3 (by rw [← gsame_eq hs]; exact hw)) (fun y hy=>by have:=h2 y hy; simp; omega) fun fr5 vs5 k5 s5 hf5 R5 hv5 K5 S5=>?_
  have nL : it ∉ [L]:=fun q=>n1 (by simp at q; simp [q])
  obtain ⟨o1,o2,o3⟩:=lstep_ok (q:=(ro,z)) h1 h2 h3 hz
  refine ⟨rest.length + 1,by simp,⟨⟨u4,grp ro,gT,fr5,lstep la ts (ro,z),vs5,k5,rest,i + 1,rfl,hd,?_,o1,o2,o3,hi',hf5,R5,hv5,?_⟩,n1,n2,(((S1.trans S2).trans S3).trans S4).trans S5⟩⟩
  ·rw [← he]; simp only [lrun]
  ·exact lit_keep (lit_keep (lit_keep hit2 K3 nL) K4 nL) K5 n1
theorem lx_iter : Lf P (Tf P) [L] [lxf3 P u pp q la laT] [] (eval (fIter y44) (env762 L)) 0 (fun _ _=>[]) (fun _ _=>[lxf3 P u pp q la laT]) (fun _ _=>.val (.ref pp)):=by
 rw [tw_eval]; exact lxrI P u pp q L la laT
theorem lx_ret { w : World } { u : Nat->Tok } { pp q L : Addr } { la : Str } { laT : Tok } { fr : Obj } (hf : LxF w.params u pp q la laT fr) : Lf w.params 'c' [L] [fr] [] (zEX (body762.drop 3) (env762 L)) 0 (fun _ _=>[]) (fun _ _=>[fr]) (fun _ _=>.val (.ret (.ref q))):=by
 rcases hf with rfl | ⟨ro,rT,sg,sT,g,gT,rfl⟩
 ·exact lxrR3 w.params u pp q L la laT
 ·exact lxrR6 w.params u pp q L la laT ro rT sg sT g gT
theorem lx_code {pp : Addr} {ps : List Value} {kp : Nat} {l : List (Ro × List Nat)} (hp : s.heap.get? pp = some (lst ps kp)) (hps : PartsAre w.params [] s.heap ps l) (hll : l.length ≤ 900) (hsg : ∀ x ∈ l,x.2.length ≤ 1)
  (hd : A.depth < recursionLimit) (hh : 'g') (X : TopIn 'c' s.heap)
  (H : ∀ z ws m s',Keep s.heap s'.heap->s.heap.get? z = none->s'.heap.get? z = some (lst ws m)->StrsAre ws ((lrun .white [] l).map mkS)->Same s s'->R (.ok (.ret (.ref z))) s') :
  CA w A (.call (.ref 762) ⟨[.ref pp],[]⟩) R s:=by
 refine lxr_call pp hd hh X (rep_nil s.heap) ?_
 intro L k s1 R1 S1
 rw [lx_split]
 refine wp_app ?_
 rw [tw_execs]
 refine (lxr0 w.params pp L k).run X R1 hh 'a' 'e' ?_
 intro ad tk s2 R2 K2 S2
 rw [lxr_fr0] at R2
 generalize hq : ad 0 = q at R2
 have R2' : Rep s.heap [L,q] [lxf3 w.params (uP (k 0) (tk 0) (tk 2)) pp q (grS .white) (tk 1),lst [] 0] s2.heap:=by
  have : (List.range 1).map ad = [q]:=by rw [← hq]; rfl
  rw [this] at R2
  exact R2
 show WP w (A.deeper (env762 L)) (execs (sNth body762 2 :: body762.drop 3) (env762 L)) _ _ s2
 refine wpAny_execs_cons ?_
 rw [lx_for]
 refine wpAny_For ?_ (lx_fold _)
 refine (lx_iter w.params _ pp q L _ (tk 1)).part (la:=[q]) (cl:=[lst [] 0]) X R2' rfl hh 'a' 'e' ?_
 intro ad3 tk3 s3 R3 K3 S3
 show WP w (A.deeper (env762 L)) (pyIter (.ref pp)) _ _ s3
 refine lst_iter (R3.keep _ _ hp) fun it s4 hit K4 n4 S4=>?_
 have R4:=R3.keeps K4
 refine lx_loop (s₀:=s2) hp hps hll hsg hh X ?_ ⟨⟨_,.white,tk 1,_,[],[],0,l,0,rfl,rfl,rfl,Nat.zero_le _,(fun _ h=>by cases h),(fun h=>absurd rfl h),Nat.zero_le _,.inl rfl,R4,.nil,hit⟩,?_,?_,S3.trans S4⟩
 ·intro u la laT fr vs k5 s5 hf R5 hv S5
  dsimp only
  rw [tw_execs]
  refine (lx_ret hf).part (la:=[q]) (cl:=[lst vs k5]) X R5 rfl hh 'a' 'e' ?_
  intro ad6 tk6 s6 R6 K6 S6
  exact H q vs k5 s6 R6.keep (R6.fresh q (.tail _ (.head _))) (R6.cell 1 q _ rfl rfl) hv (S1.trans (S2.trans (S5.trans S6)))
 ·intro x
  obtain ⟨o,ho⟩:=R3.has x
  rw [ho] at n4; cases n4
 ·cases e : s.heap.get? it with
  | none=>rfl
  | some o=>rw [R3.keep it o e] at n4; cases n4
end
end
section
open PySem PySem.W PySem.W.X PyProof.Rows
variable {w : World}
section
variable (P : Params) (u : Nat->Tok) (pp q L : Addr) (bg : Bool) (ro : Str) (rT : Tok) (sg : Str) (sT : Tok) (op : Bool) (k : Nat->Tok) (t : Addr) (ro1 : Str) (r1T : Tok) (sg1 : Str) (s1T : Tok) (y : Str) (yT : Tok) (z1 z2 z3 : Str) (vs : List Value) (n : Nat) (vs1 : List Value) (n1 : Nat) (ad0 : Nat->Addr) (tk0 : Nat->Tok) (ad : Nat->Addr) (tk : Nat->Tok)
noncomputable def spf3 : Obj:=frm [en P a455 (u 0) (.ref pp),en P a462 (u 1) (.ref q),en P a463 (u 2) (.bool bg)] 3
noncomputable def spf5 : Obj:=frm [en P a455 (u 0) (.ref pp),en P a462 (u 1) (.ref q),en P a463 (u 2) (.bool bg),zE P a460 (u 3) ro rT,zE P a457 (u 4) sg sT] 5
noncomputable def spf6 : Obj:=frm [en P a455 (u 0) (.ref pp),en P a462 (u 1) (.ref q),en P a463 (u 2) (.bool bg),zE P a460 (u 3) ro rT,zE P a457 (u 4) sg sT,en P a464 (u 5) (.bool op)] 6
noncomputable def spB : List Stmt:=sBody (sNth body769 2)
noncomputable def spI1 : Stmt:=sNth spB 1
noncomputable def spI2 : Stmt:=sNth (sElse spI1) 0
noncomputable def spI3 : Stmt:=sNth (sBody spI2) 0
theorem spr_b : Lf P (Tf P) [] [] [] (zBA fd769 ⟨[.ref pp],[]⟩) 0 zve (fun ad tk=>[]) (fun ad tk=>(.val [(a455,(.ref pp))])):=.mk' 3 0 (by kernel_rfl)
theorem spr_e : Lf P (Tf P) [] [] [] (zNE fd769 769 [(a455,(.ref pp))]) 1 zve (fun ad tk=>[(zD zt98 [en P a455 (tk 0) (.ref pp)] 1)]) (fun ad tk=>(.val (env769 (ad 0)))):=.mk' 8 257 (by kernel_rfl)
noncomputable def spr_fr : Obj:=(zD zt98 [en P a455 (tk 0) (.ref pp)] 1)
theorem spr_call (pp : Addr) : CallT w [] [] (spr_fr w.params pp) env769 body769 769 ⟨[.ref pp],[]⟩:=callT _ _ (top769 w.params) rfl rfl co769 ge769 rfl (cr769 w.params) (spr_b w.params pp) (spr_e w.params pp)
theorem spr0 : Lf P (Tf P) [L] [spr_fr P pp k] [] (zEX (body769.take 2) (env769 L)) 1 zve (fun ad tk=>[(sn (sn (spr_fr P pp k) (en P a462 (tk 0) (.ref (ad 0)))) (en P a463 (tk 1) (.bool false))),(zW zt13)]) zvn:=.mk' 21 16843009 (by kernel_rfl)
noncomputable abbrev y63:=sNth body769 2
theorem sprI : Lf P (Tf P) [L] [spf3 P u pp q bg] [] (zEV (fIter y63) (env769 L)) 0 zve (fun ad tk=>[(spf3 P u pp q bg)]) (fun ad tk=>(.val (.ref pp))):=.mk' 5 1 (by kernel_rfl)
theorem sprA3 : Lf P (Tf P) [L,t] [spf3 P u pp q bg,tpO [.str ro1 r1T,.str sg1 s1T]] [] (Fast.tw17772580674575903948 (fTgt y63) (env769 L) (.ref t)) 0 zve (fun ad tk=>[(sn (sn (spf3 P u pp q bg) (zE P a460 (tk 0) ro1 r1T)) (zE P a457 (tk 1) sg1 s1T)),(tpO [.str ro1 r1T,.str sg1 s1T])]) (fun ad tk=>(.val ())):=by revert P; refine Lf.rw1 63 (zd 999 0x1010101050303020313130303030203131303030302031313031312020202) ?_ ?_ <;> kernel_rfl
theorem sprA6 : Lf P (Tf P) [L,t] [spf6 P u pp q bg ro rT sg sT op,tpO [.str ro1 r1T,.str sg1 s1T]] [] (Fast.tw17772580674575903948 (fTgt y63) (env769 L) (.ref t)) 0 zve (fun ad tk=>[(sv (sv 'n' 3 (.str ro1 r1T)) 4 (.str sg1 s1T)),(tpO [.str ro1 r1T,.str sg1 s1T])]) (fun ad tk=>(.val ())):=by revert P; refine Lf.rw1 63 (zd 999 0x1010101050303020313130303030203131303030302031313031312020202) ?_ ?_ <;> kernel_rfl
noncomputable abbrev y88 (p0 : Str) (p1 : Tok) (p2 : Nat->Tok):=zB zb9 [(.str p0 p1),(.str a181 (p2 0))]
theorem sprO5_e : Lf P (Tf P) [L] [spf5 P u pp q bg ro rT sg sT] [xF] (zEX [sNth spB 0] (env769 L)) 0 (fun ad tk=>[(zX (y88 sg sT tk) xF)]) (fun ad tk=>[(sn (spf5 P u pp q bg ro rT sg sT) (en P a464 (tk 9) (.bool false)))]) zvn:=by revert P; refine Lf.rw1 18 16908033 ?_ ?_ <;> kernel_rfl
theorem sprO5_t : Lf P (Tf P) [L] [spf5 P u pp q bg ro rT sg sT] [xT,xT] (zEX [sNth spB 0] (env769 L)) 0 (fun ad tk=>[(zX (y88 sg sT tk) xT),(zX (zB zb6 [(.str s!"();<>|&" (tk 9)),(.str sg sT)]) xT)]) (fun ad tk=>[(sn (spf5 P u pp q bg ro rT sg sT) (en P a464 (tk 18) (.bool true)))]) zvn:=by revert P; refine Lf.rw1 23 1108084915969 ?_ ?_ <;> kernel_rfl
theorem sprO5_f : Lf P (Tf P) [L] [spf5 P u pp q bg ro rT sg sT] [xT,xF] (zEX [sNth spB 0] (env769 L)) 0 (fun ad tk=>[(zX (y88 sg sT tk) xT),(zX (zB zb6 [(.str s!"();<>|&" (tk 9)),(.str sg sT)]) xF)]) (fun ad tk=>[(sn (spf5 P u pp q bg ro rT sg sT) (en P a464 (tk 18) (.bool false)))]) zvn:=by revert P; refine Lf.rw1 23 1108084915969 ?_ ?_ <;> kernel_rfl
theorem sprO6_e : Lf P (Tf P) [L] [spf6 P u pp q bg ro rT sg sT op] [xF] (zEX [sNth spB 0] (env769 L)) 0 (fun ad tk=>[(zX (y88 sg sT tk) xF)]) (fun ad tk=>[(sv 'n' 5 (.bool false))]) zvn:=by revert P; refine Lf.rw1 18 16908033 ?_ ?_ <;> kernel_rfl
theorem sprO6_t : Lf P (Tf P) [L] [spf6 P u pp q bg ro rT sg sT op] [xT,xT] (zEX [sNth spB 0] (env769 L)) 0 (fun ad tk=>[(zX (y88 sg sT tk) xT),(zX (zB zb6 [(.str s!"();<>|&" (tk 9)),(.str sg sT)]) xT)]) (fun ad tk=>[(sv 'n' 5 (.bool true))]) zvn:=by revert P; refine Lf.rw1 23 1108084915969 ?_ ?_ <;> kernel_rfl
theorem sprO6_f : Lf P (Tf P) [L] [spf6 P u pp q bg ro rT sg sT op] [xT,xF] (zEX [sNth spB 0] (env769 L)) 0 (fun ad tk=>[(zX (y88 sg sT tk) xT),(zX (zB zb6 [(.str s!"();<>|&" (tk 9)),(.str sg sT)]) xF)]) (fun ad tk=>[(sv 'n' 5 (.bool false))]) zvn:=by revert P; refine Lf.rw1 23 1108084915969 ?_ ?_ <;> kernel_rfl
theorem sprT1_t : Lf P (Tf P) [L] [spf6 P u pp q bg ro rT sg sT op] [xT] (zIT (sTest spI1) (env769 L) (zEV (sTest spI1) (env769 L))) 0 (fun ad tk=>[(zX (zB zb5 [(.str ro rT),(.str s!"run" (tk 0))]) xT)]) (fun ad tk=>['n']) (fun ad tk=>(.val true)):=by revert P; refine Lf.rw1 9 65281 ?_ ?_ <;> kernel_rfl
theorem sprT2_t : Lf P (Tf P) [L] [spf6 P u pp q bg ro rT sg sT op] [xT] (zIT (sTest spI2) (env769 L) (zEV (sTest spI2) (env769 L))) 0 (fun ad tk=>[(zX (y94 ro rT tk) xT)]) (fun ad tk=>['n']) (fun ad tk=>(.val true)):=by revert P; refine Lf.rw1 9 65281 ?_ ?_ <;> kernel_rfl
theorem sprT3_t : Lf P (Tf P) [L] [spf6 P u pp q true ro rT sg sT op] [] (zIT (sTest spI3) (env769 L) (zEV (sTest spI3) (env769 L))) 0 zve (fun ad tk=>[(spf6 P u pp q true ro rT sg sT op)]) (fun ad tk=>(.val false)):=.mk' 6 1 (by kernel_rfl)
theorem sprT1_f : Lf P (Tf P) [L] [spf6 P u pp q bg ro rT sg sT op] [xF] (zIT (sTest spI1) (env769 L) (zEV (sTest spI1) (env769 L))) 0 (fun ad tk=>[(zX (zB zb5 [(.str ro rT),(.str s!"run" (tk 0))]) xF)]) (fun ad tk=>['n']) (fun ad tk=>(.val false)):=by revert P; refine Lf.rw1 9 65281 ?_ ?_ <;> kernel_rfl
theorem sprT2_f : Lf P (Tf P) [L] [spf6 P u pp q bg ro rT sg sT op] [xF] (zIT (sTest spI2) (env769 L) (zEV (sTest spI2) (env769 L))) 0 (fun ad tk=>[(zX (y94 ro rT tk) xF)]) (fun ad tk=>['n']) (fun ad tk=>(.val false)):=by revert P; refine Lf.rw1 9 65281 ?_ ?_ <;> kernel_rfl
theorem sprT3_f : Lf P (Tf P) [L] [spf6 P u pp q false ro rT sg sT op] [] (zIT (sTest spI3) (env769 L) (zEV (sTest spI3) (env769 L))) 0 zve (fun ad tk=>[(spf6 P u pp q false ro rT sg sT op)]) (fun ad tk=>(.val true)):=.mk' 6 1 (by kernel_rfl)
noncomputable def sprR_q : Option (RR Flow):=run denF ⟨pw,P⟩ (Tf P) [L,q] ad tk 15 71214277243044353 [] [spf6 P u pp q bg ro rT sg sT op,lst vs n] 0 0 none (.base (zEX (sBody spI1) (env769 L)))
theorem sprR : Lf P (Tf P) [L,q] [spf6 P u pp q bg ro rT sg sT op,lst vs n] [] (zEX (sBody spI1) (env769 L)) 0 zve (fun ad tk=>['n',(lst vs n)]) (fun ad tk=>(.cut (zB zb14 [(.ref q),(.str sg sT)]) 0 none (ttOf (sprR_q P u pp q L bg ro rT sg sT op vs n ad tk)))):=.mk' 15 71214277243044353 (by kernel_rfl)
theorem sprR0 : LfT P (Tf P) [L,q] [spf6 P u pp q bg ro rT sg sT op,lst vs1 n1] [] (ttOf (sprR_q P u pp q L bg ro rT sg sT op vs n ad0 tk0) 'm') 0 zve (fun ad tk=>['n',(lst vs1 n1)]) zvn:=.mk' 4 0 (by kernel_rfl)
noncomputable def sprE_q : Option (RR Flow):=run denF ⟨pw,P⟩ (Tf P) [L,q] ad tk 14 278185065447937 [] [spf6 P u pp q bg ro rT sg sT op,lst vs n] 0 0 none (.base (zEX (sBody spI3) (env769 L)))
theorem sprE : Lf P (Tf P) [L,q] [spf6 P u pp q bg ro rT sg sT op,lst vs n] [] (zEX (sBody spI3) (env769 L)) 0 zve (fun ad tk=>['n',(lst vs n)]) (fun ad tk=>(.cut (zB zb14 [(.ref q),(.str a181 (tk 0))]) 0 none (ttOf (sprE_q P u pp q L bg ro rT sg sT op vs n ad tk)))):=.mk' 14 278185065447937 (by kernel_rfl)
theorem sprE0 : LfT P (Tf P) [L,q] [spf6 P u pp q bg ro rT sg sT op,lst vs1 n1] [] (ttOf (sprE_q P u pp q L bg ro rT sg sT op vs n ad0 tk0) 'm') 0 zve (fun ad tk=>['n',(lst vs1 n1)]) zvn:=.mk' 4 0 (by kernel_rfl)
noncomputable def sprJf_q : Option (RR Flow):=run denF ⟨pw,P⟩ (Tf P) [L,q] ad tk 47 5642263440364885503387572206857898785433976833 [(y69 y yT),(y6 z1),(y6 z2),(y6 z3)] [spf6 P u pp q bg ro rT sg sT false,lst vs n] 0 0 none (.base (zEX ((sBody spI2).drop 1) (env769 L)))
theorem sprJf : Lf P (Tf P) [L,q] [spf6 P u pp q bg ro rT sg sT false,lst vs n] [(y69 y yT),(y6 z1),(y6 z2),(y6 z3)] (zEX ((sBody spI2).drop 1) (env769 L)) 0 (fun ad tk=>[⟨(zB zb16 [(.ref q),(.int (.negSucc 0) (tk 1))]),0,[(spf6 P u pp q bg ro rT sg sT false),(lst vs n)],0,0,(y69 y yT)⟩,(zX (zB zb8 [(.str y yT),(.str a181 (tk 10))]) (y6 z1)),(zX (zB zb8 [(.str z1 (tk 11)),(.str sg sT)]) (y6 z2)),(zX (zB zb8 [(.str z2 (tk 19)),(.str a181 (tk 27))]) (y6 z3))]) (fun ad tk=>[(spf6 P u pp q bg ro rT sg sT false),(lst vs n)]) (fun ad tk=>(.cut (zB zb17 [(.ref q),(.int (.negSucc 0) (tk 37)),(.str z3 (tk 28))]) 0 none (ttOf (sprJf_q P u pp q L bg ro rT sg sT y yT z1 z2 z3 vs n ad tk)))):=.mk' 47 5642263440364885503387572206857898785433976833 (by kernel_rfl)
theorem sprJf0 : LfT P (Tf P) [L,q] [spf6 P u pp q bg ro rT sg sT false,lst vs1 n1] [] (ttOf (sprJf_q P u pp q L bg ro rT sg sT y yT z1 z2 z3 vs n ad0 tk0) 'm') 0 zve (fun ad tk=>[(spf6 P u pp q bg ro rT sg sT false),(lst vs1 n1)]) zvn:=.mk' 3 0 (by kernel_rfl)
noncomputable def sprJ_t_q : Option (RR Flow):=run denF ⟨pw,P⟩ (Tf P) [L,q] ad tk 53 (zd 999 0xd0222010f0f01010f010f010f02022201) [(y69 y yT),(y6 z1),(y6 z2),xT,(y6 z3)] [spf6 P u pp q bg ro rT sg sT true,lst vs n] 0 0 none (.base (zEX ((sBody spI2).drop 1) (env769 L)))
theorem sprJ_t : Lf P (Tf P) [L,q] [spf6 P u pp q bg ro rT sg sT true,lst vs n] [(y69 y yT),(y6 z1),(y6 z2),xT,(y6 z3)] (zEX ((sBody spI2).drop 1) (env769 L)) 0 (fun ad tk=>[⟨(zB zb16 [(.ref q),(.int (.negSucc 0) (tk 1))]),0,[(spf6 P u pp q bg ro rT sg sT true),(lst vs n)],0,0,(y69 y yT)⟩,(zX (zB zb8 [(.str y yT),(.str s!" " (tk 10))]) (y6 z1)),(zX (zB zb8 [(.str z1 (tk 11)),(.str sg sT)]) (y6 z2)),(zX (zB zb5 [(.str ro rT),(.str s!"within" (tk 27))]) xT),(zX (zB zb8 [(.str z2 (tk 19)),(.str s!" " (tk 36))]) (y6 z3))]) (fun ad tk=>[(spf6 P u pp q bg ro rT sg sT true),(lst vs n)]) (fun ad tk=>(.cut (zB zb17 [(.ref q),(.int (.negSucc 0) (tk 46)),(.str z3 (tk 37))]) 0 none (ttOf (sprJ_t_q P u pp q L bg ro rT sg sT y yT z1 z2 z3 vs n ad tk)))):=by revert P; refine Lf.rw1 53 (zd 999 0xd0222010f0f01010f010f010f02022201) ?_ ?_ <;> kernel_rfl
theorem sprJ_t0 : LfT P (Tf P) [L,q] [spf6 P u pp q bg ro rT sg sT true,lst vs1 n1] [] (ttOf (sprJ_t_q P u pp q L bg ro rT sg sT y yT z1 z2 z3 vs n ad0 tk0) 'm') 0 zve (fun ad tk=>[(spf6 P u pp q bg ro rT sg sT true),(lst vs1 n1)]) zvn:=by revert P; refine LfT.rw1 3 0 ?_ ?_ <;> kernel_rfl
noncomputable def sprJ_f_q : Option (RR Flow):=run denF ⟨pw,P⟩ (Tf P) [L,q] ad tk 53 (zd 999 0xd0222010f0f01010f010f010f02022201) [(y69 y yT),(y6 z1),(y6 z2),xF,(y6 z3)] [spf6 P u pp q bg ro rT sg sT true,lst vs n] 0 0 none (.base (zEX ((sBody spI2).drop 1) (env769 L)))
theorem sprJ_f : Lf P (Tf P) [L,q] [spf6 P u pp q bg ro rT sg sT true,lst vs n] [(y69 y yT),(y6 z1),(y6 z2),xF,(y6 z3)] (zEX ((sBody spI2).drop 1) (env769 L)) 0 (fun ad tk=>[⟨(zB zb16 [(.ref q),(.int (.negSucc 0) (tk 1))]),0,[(spf6 P u pp q bg ro rT sg sT true),(lst vs n)],0,0,(y69 y yT)⟩,(zX (zB zb8 [(.str y yT),(.str s!" " (tk 10))]) (y6 z1)),(zX (zB zb8 [(.str z1 (tk 11)),(.str sg sT)]) (y6 z2)),(zX (zB zb5 [(.str ro rT),(.str s!"within" (tk 27))]) xF),(zX (zB zb8 [(.str z2 (tk 19)),(.str a181 (tk 36))]) (y6 z3))]) (fun ad tk=>[(spf6 P u pp q bg ro rT sg sT true),(lst vs n)]) (fun ad tk=>(.cut (zB zb17 [(.ref q),(.int (.negSucc 0) (tk 46)),(.str z3 (tk 37))]) 0 none (ttOf (sprJ_f_q P u pp q L bg ro rT sg sT y yT z1 z2 z3 vs n ad tk)))):=by revert P; refine Lf.rw1 53 (zd 999 0xd0222010f0f01010f010f010f02022201) ?_ ?_ <;> kernel_rfl
theorem sprJ_f0 : LfT P (Tf P) [L,q] [spf6 P u pp q bg ro rT sg sT true,lst vs1 n1] [] (ttOf (sprJ_f_q P u pp q L bg ro rT sg sT y yT z1 z2 z3 vs n ad0 tk0) 'm') 0 zve (fun ad tk=>[(spf6 P u pp q bg ro rT sg sT true),(lst vs1 n1)]) zvn:=by revert P; refine LfT.rw1 3 0 ?_ ?_ <;> kernel_rfl
theorem sprB_w : Lf P (Tf P) [L] [spf6 P u pp q bg ro rT sg sT op] [xT] (zEX (spB.drop 2) (env769 L)) 0 (fun ad tk=>[(zX (zB zb5 [(.str ro rT),(.str s!"within" (tk 0))]) xT)]) (fun ad tk=>[(sv 'n' 2 (.bool true))]) zvn:=by revert P; refine Lf.rw1 18 16908033 ?_ ?_ <;> kernel_rfl
theorem sprB_b : Lf P (Tf P) [L] [spf6 P u pp q bg ro rT sg sT op] [xF,xT] (zEX (spB.drop 2) (env769 L)) 0 (fun ad tk=>[(zX (zB zb5 [(.str ro rT),(.str s!"within" (tk 0))]) xF),(zX (zB zb5 [(.str ro rT),(.str s!"bare" (tk 9))]) xT)]) (fun ad tk=>[(sv 'n' 2 (.bool true))]) zvn:=by revert P; refine Lf.rw1 25 1108084915969 ?_ ?_ <;> kernel_rfl
noncomputable abbrev y77 (p0 : Str) (p1 : Tok) (p2 : Nat->Tok):=[(zX (zB zb5 [(.str p0 p1),(.str s!"within" (p2 0))]) xF),(zX (zB zb5 [(.str p0 p1),(.str s!"bare" (p2 9))]) xF),(zX (zB zb5 [(.str p0 p1),(.str s!"kept" (p2 18))]) xT)]
theorem sprB_kt : Lf P (Tf P) [L] [spf6 P u pp q bg ro rT sg sT true] [xF,xF,xT] (zEX (spB.drop 2) (env769 L)) 0 (fun ad tk=>(y77 ro rT tk)) (fun ad tk=>[(sv (spf6 P u pp q bg ro rT sg sT true) 2 (.bool false))]) zvn:=by revert P; refine Lf.rw1 35 18519363526762561281 ?_ ?_ <;> kernel_rfl
theorem sprB_kf : Lf P (Tf P) [L] [spf6 P u pp q bg ro rT sg sT false] [xF,xF,xT] (zEX (spB.drop 2) (env769 L)) 0 (fun ad tk=>(y77 ro rT tk)) (fun ad tk=>[(sv (spf6 P u pp q bg ro rT sg sT false) 2 (.bool true))]) zvn:=by revert P; refine Lf.rw1 35 18519363526762561281 ?_ ?_ <;> kernel_rfl
theorem sprB_o : Lf P (Tf P) [L] [spf6 P u pp q bg ro rT sg sT op] [xF,xF,xF] (zEX (spB.drop 2) (env769 L)) 0 (fun ad tk=>[(zX (zB zb5 [(.str ro rT),(.str s!"within" (tk 0))]) xF),(zX (zB zb5 [(.str ro rT),(.str s!"bare" (tk 9))]) xF),(zX (zB zb5 [(.str ro rT),(.str s!"kept" (tk 18))]) xF)]) (fun ad tk=>[(sv 'n' 2 (.bool false))]) zvn:=by revert P; refine Lf.rw1 32 72619453053009665 ?_ ?_ <;> kernel_rfl
theorem sprX3 : Lf P (Tf P) [L] [spf3 P u pp q bg] [] (zEX (body769.drop 3) (env769 L)) 0 zve (fun ad tk=>[(spf3 P u pp q bg)]) (fun ad tk=>(.val (.ret (.ref q)))):=.mk' 6 1 (by kernel_rfl)
theorem sprX6 : Lf P (Tf P) [L] [spf6 P u pp q bg ro rT sg sT op] [] (zEX (body769.drop 3) (env769 L)) 0 zve (fun ad tk=>['n']) (fun ad tk=>(.val (.ret (.ref q)))):=.mk' 6 1 (by kernel_rfl)
end
end
section
open PySem PySem.W PySem.W.X PyProof.Rows PySem.Builtin PySem.Builtin.Str PySem.Builtin.Int
variable {w : World} {A : Around} {h₀ : Heap} {s : Shared} {E : Value->Shared->Prop} {as : List Addr} {cs : List Obj} {D U : Nat}
noncomputable def iPos : Stmt->Pos
 | .If _ _ _ p=>p
 | _=>default
section
variable (P : Params) (u : Nat->Tok) (pp q : Addr) (k : Nat->Tok) (t0 : Tok) (bg b1 : Bool) (ro ro1 : Str) (rT r1T : Tok) (sg sg1 : Str) (sT t1 t2 s1T t : Tok) (op op1 : Bool)
theorem spB_eq : spB = [sNth spB 0] ++ ([.If (sTest spI1) (sBody spI1) (sElse spI1) (iPos spI1)] ++ spB.drop 2):=by kernel_rfl!
theorem spE1 : sElse spI1 = [.If (sTest spI2) (sBody spI2) (sElse spI2) (iPos spI2)]:=by kernel_rfl!
theorem spE2 : sElse spI2 = []:=by kernel_rfl!
theorem spB2 : sBody spI2 = [.If (sTest spI3) (sBody spI3) (sElse spI3) (iPos spI3)] ++ (sBody spI2).drop 1:=by kernel_rfl!
theorem spE3 : sElse spI3 = []:=by kernel_rfl!
theorem cut_push {L q : Addr} {fr : Obj} {vs : List Value} {n : Nat} {t : Sem Flow} {tt : 'k'->'q'->Result->TT Flow} {v : 'q'->Value} {Q : Flow->Shared->Prop} {E : Value->Shared->Prop}
  (LA : Lf w.params 'c' [L,q] [fr,lst vs n] [] t 0 (fun _ _=>[]) (fun _ _=>[fr,lst vs n]) (fun ad tk=>.cut (.call (.builtin "list.append") ⟨[.ref q,v tk],[]⟩) 0 none (tt ad tk)))
  (LB : ∀ vs' n' ad tk,LfT w.params 'c' [L,q] [fr,lst vs' n'] [] (tt ad tk 'm') 0 (fun _ _=>[]) (fun _ _=>[fr,lst vs' n']) (fun _ _=>.val .next))
  (X : 'r') (R : Rep h₀ [L,q] [fr,lst vs n] s.heap) (hh : 'g') (hv : vs.length ≤ 1000)
  (h : ∀ tk s',Rep h₀ [L,q] [fr,lst (vs ++ [v tk]) (n + 1)] s'.heap->Kept [L,q] s.heap s'.heap->Same s s'->Q .next s') : WP w A t Q E s:=by
 refine LA.run X R hh 'a' 'e' ?_
 intro ad tk s1 R1 K1 S1 A' d1 d2 d3 d4 d5
 have R1' : Rep h₀ [L,q] _ s1.heap:=R1
 refine append_code (R1'.cell 1 q _ rfl rfl) hv ?_
 have R2:=R1'.update (m:=1) (a:=q) (o:=lst vs n) (f:=Obj.mapSeq (·.push (v tk))) rfl rfl rfl
 rw [lst_push] at R2
 have K2 : Kept [L,q] s1.heap (s1.heap.update q (Obj.mapSeq (·.push (v tk)))):=fun b o nb e=>(Heap.get?_update_ne _ _ _ _ (fun x=>nb (by simp [x]))).trans e
 refine (LB (vs ++ [v tk]) (n + 1) ad tk).run (h₀:=h₀) (s:={ s1 with heap:=_ }) X (by exact R2) 'a' 'e' ?_
 intro ad2 tk2 s3 R3 K3 S3
 exact h tk s3 R3 (K1.trans (K2.trans K3)) (S1.trans (show Same s1 s3 from S3))
theorem cut_last {L q : Addr} {fr : Obj} {vs : List Value} {y : Value} {n : Nat} {t : Sem Flow} {xs : List Ext} {evs : 'k'->'q'->List Ev} {tt : 'k'->'q'->Result->TT Flow} {T : 'q'->Tok} {v : 'q'->Value} {Q : Flow->Shared->Prop} {E : Value->Shared->Prop}
  (LA : Lf w.params 'c' [L,q] [fr,lst (vs ++ [y]) n] xs t 0 evs (fun _ _=>[fr,lst (vs ++ [y]) n]) (fun ad tk=>.cut (.call (.builtin "list.__setitem__") ⟨[.ref q,.int (.negSucc 0) (T tk),v tk],[]⟩) 0 none (tt ad tk)))
  (C : ∀ ad tk,∀ y ∈ evs ad tk,EvP w 'c' [L,q] A ad y)
  (LB : ∀ vs' n' ad tk,LfT w.params 'c' [L,q] [fr,lst vs' n'] [] (tt ad tk 'm') 0 (fun _ _=>[]) (fun _ _=>[fr,lst vs' n']) (fun _ _=>.val .next))
  (X : 'r') (R : Rep h₀ [L,q] [fr,lst (vs ++ [y]) n] s.heap) (hh : 'g')
  (h : ∀ tk s',Rep h₀ [L,q] [fr,lst (vs ++ [v tk]) n] s'.heap->Kept [L,q] s.heap s'.heap->Same s s'->Q .next s') : WP w A t Q E s:=by
 refine LA.run X R hh 'a' C ?_
 intro ad tk s1 R1 K1 S1 A' d1 d2 d3 d4 d5
 have R1' : Rep h₀ [L,q] _ s1.heap:=R1
 refine setlast_code (R1'.cell 1 q _ rfl rfl) ?_
 have R2:=R1'.update (m:=1) (a:=q) (o:=lst (vs ++ [y]) n) (f:=Obj.mapSeq (·.setIfInBounds vs.length (v tk))) rfl rfl rfl
 rw [lst_setlast] at R2
 have K2 : Kept [L,q] s1.heap (s1.heap.update q (Obj.mapSeq (·.setIfInBounds vs.length (v tk)))):=fun b o nb e=>(Heap.get?_update_ne _ _ _ _ (fun x=>nb (by simp [x]))).trans e
 refine (LB (vs ++ [v tk]) n ad tk).run (h₀:=h₀) (s:={ s1 with heap:=_ }) X (by exact R2) 'a' 'e' ?_
 intro ad2 tk2 s3 R3 K3 S3
 exact h tk s3 R3 (K1.trans (K2.trans K3)) (S1.trans (show Same s1 s3 from S3))
theorem cadd {t u : Tok} (y z : List Nat) (h : (y ++ z).length ≤ 1001) : Con w 'c' as (.call (.builtin "str.__add__") ⟨[.str (mkS y) t,.str (mkS z) u],[]⟩) cs (xP fun f=>.str (mkS (y ++ z)) (f 0)) D U:=by
 have hS : (1002 : Nat) ≤ sizeLine:=by decide +kernel
 have hy : mkS y ++ mkS z = mkS (y ++ z):=str_snoc y z
 have:=con_add (w:=w) (T:=Tf w.params) (as:=as) (cs:=cs) (x:=mkS y) (y:=mkS z) (t:=t) (u:=u) (D:=D) (U:=U) (by rw [hy]; show (y ++ z).length ≤ _; omega)
 rw [hy] at this
 exact this
noncomputable def isOp (z : List Nat) : Bool:=match z with
 | [c]=>decide (c ∈ opsL)
 | _=>false
noncomputable def preS (o : Bool) : List Nat:=match o with
 | true=>[32]
 | false=>[]
noncomputable def postS (ro : Ro) (o : Bool) : List Nat:=match ro,o with
 | .within,true=>[32]
 | _,_=>[]
noncomputable def begunOf (ro : Ro) (o : Bool) : Bool:=match ro with
 | .within=>true
 | .bare=>true
 | .kept=>!o
 | _=>false
noncomputable def begin1 (bg : Bool) (ts : List (List Nat)) : List (List Nat):=match bg with
 | true=>ts
 | false=>ts ++ [[]]
noncomputable def kstep (bg : Bool) (ts : List (List Nat)) (q : Ro × List Nat) : List (List Nat):=match q.1 with
 | .run=>ts ++ [q.2]
 | .white=>ts
 | ro=>addLast (begin1 bg ts) (preS (isOp q.2) ++ q.2 ++ postS ro (isOp q.2))
noncomputable def krun : Bool->List (List Nat)->List (Ro × List Nat)->List (List Nat)
 | _,ts,[]=>ts
 | bg,ts,q :: r=>krun (begunOf q.1 (isOp q.2)) (kstep bg ts q) r
noncomputable def SpF (P : Params) (u : Nat->Tok) (pp q : Addr) (bg : Bool) (fr : Obj) : Prop:=fr = spf3 P u pp q bg ∨ ∃ ro rT sg sT op,fr = spf6 P u pp q bg ro rT sg sT op
theorem spr_fr0 : sn (sn (spr_fr P pp k) (en P a462 t0 (.ref q))) (en P a463 t1 (.bool false)) = spf3 P (uP (k 0) t0 t1) pp q false:=by kernel_rfl!
theorem spf_a3 : sn (sn (spf3 P u pp q bg) (en P a460 t1 (.str ro rT))) (en P a457 t2 (.str sg sT)) = spf5 P (uN (uN u 3 t1) 4 t2) pp q bg ro rT sg sT:=by kernel_rfl!
theorem spf_a6 : sv (sv 'n' 3 (.str ro1 r1T)) 4 (.str sg1 s1T) = spf6 P u pp q bg ro1 r1T sg1 s1T op:=by kernel_rfl!
theorem spf_o5 : sn (spf5 P u pp q bg ro rT sg sT) (en P a464 t (.bool op)) = spf6 P (uN u 5 t) pp q bg ro rT sg sT op:=by kernel_rfl!
theorem spf_o6 : sv 'n' 5 (.bool op1) = spf6 P u pp q bg ro rT sg sT op1:=by kernel_rfl!
theorem spf_b6 : sv 'n' 2 (.bool b1) = spf6 P u pp q b1 ro rT sg sT op:=by kernel_rfl!
end
section
variable {w : World} {pp q L t : Addr} {A : Around} {h₀ : Heap} {s : Shared} {bg : Bool}
theorem spr_asg {u : 'f'} {fr o : Obj} {ro : Ro} {z : List Nat} {t1 t2 : Tok} {Q : Unit->Shared->Prop} (hf : SpF w.params u pp q bg fr) (X : 'r') (R : Rep h₀ [L,q] [fr,o] s.heap)
  (ht : h₀.get? t = some (tpO [.str (roS ro) t1,.str ⟨⟨z⟩⟩ t2])) (hn : NTop w.params t) (hh : 'g')
  (h : ∀ u' fr' s',(fr' = spf5 w.params u' pp q bg (roS ro) t1 ⟨⟨z⟩⟩ t2 ∨ ∃ op,fr' = spf6 w.params u' pp q bg (roS ro) t1 ⟨⟨z⟩⟩ t2 op)->Rep h₀ [L,q] [fr',o] s'.heap->Kept [L] s.heap s'.heap->Same s s'->Q () s') :
  WP w A (assign (fTgt (sNth body769 2)) (env769 L) (.ref t)) Q E s:=by
 rw [tw_assign]
 have hL : NTop w.params L:=R.ntop X (.head _)
 have gL:=R.cell 0 L _ rfl rfl
 have gt:=R.keep _ _ ht
 have ne : L ≠ t:=fun e=>by rw [← e,R.fresh L (.head _)] at ht; cases ht
 obtain ⟨X2,R2⟩:=two_alone (X.now R) gL gt hL hn ne
 have fin : ∀ (fr' : Obj) (s' : Shared),Rep (hideAll s.heap [L,t]) [L,t] [fr',tpO [.str (roS ro) t1,.str ⟨⟨z⟩⟩ t2]] s'.heap->Rep h₀ [L,q] [fr',o] s'.heap ∧ Kept [L] s.heap s'.heap:=by
  intro fr' s' R'
  have k : ∀ b ob,b ≠ L->s.heap.get? b = some ob->s'.heap.get? b = some ob:=fun b ob nb e=>by
   by_cases q : b = t
   ·subst q
    rw [gt] at e; cases e
    exact R'.cell 1 _ _ rfl rfl
   ·exact R'.keep b ob (hideAll_get _ e (by simp [nb,q]))
  exact ⟨R.head (R'.cell 0 L _ rfl rfl) k,fun b ob n e=>k b ob (by simpa using n) e⟩
 rcases hf with rfl | ⟨ro0,r0,sg0,s0,op,rfl⟩
 ·refine (sprA3 w.params u pp q L bg t (roS ro) t1 ⟨⟨z⟩⟩ t2).sound X2 R2 hh 'a' 'e' ?_
  intro ad tk s' R' S'
  obtain ⟨f1,f2⟩:=fin _ s' R'
  rw [spf_a3] at f1
  exact h _ _ s' (.inl rfl) f1 f2 S'
 ·refine (sprA6 w.params u pp q L bg ro0 r0 sg0 s0 op t (roS ro) t1 ⟨⟨z⟩⟩ t2).sound X2 R2 hh 'a' 'e' ?_
  intro ad tk s' R' S'
  obtain ⟨f1,f2⟩:=fin _ s' R'
  rw [spf_a6] at f1
  exact h _ _ s' (.inr ⟨op,rfl⟩) f1 f2 S'
theorem spr_op {u : 'f'} {fr o : Obj} {ro : Ro} {z : List Nat} {t1 t2 : Tok} {Q : Flow->Shared->Prop} (hz : z.length ≤ 1) (hf : fr = spf5 w.params u pp q bg (roS ro) t1 ⟨⟨z⟩⟩ t2 ∨ ∃ op,fr = spf6 w.params u pp q bg (roS ro) t1 ⟨⟨z⟩⟩ t2 op) (X : 'r') (R : Rep h₀ [L,q] [fr,o] s.heap) (hh : 'g')
  (h : ∀ u' s',Rep h₀ [L,q] [spf6 w.params u' pp q bg (roS ro) t1 ⟨⟨z⟩⟩ t2 (isOp z),o] s'.heap->Kept [L] s.heap s'.heap->Same s s'->Q .next s') :
  WP w A (execs [sNth spB 0] (env769 L)) Q E s:=by
 rw [tw_execs]
 rcases z with _ | ⟨c,_ | ⟨d,z⟩⟩
 ·rcases hf with rfl | ⟨op,rfl⟩
  ·refine (sprO5_e w.params u pp q L bg (roS ro) t1 _ t2).part (la:=[q]) (cl:=[o]) X R rfl hh 'a' (fun _ _=>all_cons (fun _ _=>con_ne false rfl) all_nil) ?_
   intro ad tk s' R' K S
   rw [spf_o5] at R'
   exact h _ s' R' K S
  ·refine (sprO6_e w.params u pp q L bg (roS ro) t1 _ t2 op).part (la:=[q]) (cl:=[o]) X R rfl hh 'a' (fun _ _=>all_cons (fun _ _=>con_ne false rfl) all_nil) ?_
   intro ad tk s' R' K S
   rw [spf_o6] at R'
   exact h _ s' R' K S
 ·have n1 : (((⟨⟨[c]⟩⟩ : Str)).cps.toList != (⟨⟨[]⟩⟩ : Str).cps.toList) = true:=rfl
  cases hc : decide (c ∈ opsL) with
  | true =>
   have e : isOp [c] = true:=hc
   rw [e] at h
   rcases hf with rfl | ⟨op,rfl⟩
   ·refine (sprO5_t w.params u pp q L bg (roS ro) t1 _ t2).part (la:=[q]) (cl:=[o]) X R rfl hh 'a' (fun _ _=>all_cons (fun _ _=>con_ne true n1) (all_cons (fun _ _=>con_in1 true hc) all_nil)) ?_
    intro ad tk s' R' K S
    rw [spf_o5] at R'
    exact h _ s' R' K S
   ·refine (sprO6_t w.params u pp q L bg (roS ro) t1 _ t2 op).part (la:=[q]) (cl:=[o]) X R rfl hh 'a' (fun _ _=>all_cons (fun _ _=>con_ne true n1) (all_cons (fun _ _=>con_in1 true hc) all_nil)) ?_
    intro ad tk s' R' K S
    rw [spf_o6] at R'
    exact h _ s' R' K S
  | false =>
   have e : isOp [c] = false:=hc
   rw [e] at h
   rcases hf with rfl | ⟨op,rfl⟩
   ·refine (sprO5_f w.params u pp q L bg (roS ro) t1 _ t2).part (la:=[q]) (cl:=[o]) X R rfl hh 'a' (fun _ _=>all_cons (fun _ _=>con_ne true n1) (all_cons (fun _ _=>con_in1 false hc) all_nil)) ?_
    intro ad tk s' R' K S
    rw [spf_o5] at R'
    exact h _ s' R' K S
   ·refine (sprO6_f w.params u pp q L bg (roS ro) t1 _ t2 op).part (la:=[q]) (cl:=[o]) X R rfl hh 'a' (fun _ _=>all_cons (fun _ _=>con_ne true n1) (all_cons (fun _ _=>con_in1 false hc) all_nil)) ?_
    intro ad tk s' R' K S
    rw [spf_o6] at R'
    exact h _ s' R' K S
 ·simp at hz
end
variable {E : Value->Shared->Prop}
noncomputable def isRun : Ro->Bool
 | .run=>true
 | _=>false
noncomputable def notWhite : Ro->Bool
 | .white=>false
 | _=>true
section
variable {w : World} {pp q L t : Addr} {A : Around} {h₀ : Heap} {s : Shared} {bg : Bool}
theorem spr_t1 {u : 'f'} {o : Obj} {ro : Ro} {z : Str} {t1 t2 : Tok} {op : Bool} {Q : Bool->Shared->Prop} (X : 'r') (R : Rep h₀ [L,q] [spf6 w.params u pp q bg (roS ro) t1 z t2 op,o] s.heap) (hh : 'g')
  (h : ∀ s',Rep h₀ [L,q] [spf6 w.params u pp q bg (roS ro) t1 z t2 op,o] s'.heap->Kept [L] s.heap s'.heap->Same s s'->Q (isRun ro) s') :
  WP w A (isTrue (sTest spI1) (env769 L) (eval (sTest spI1) (env769 L))) Q E s:=by
 rw [tw_isTrue,tw_eval]
 cases hb : isRun ro with
 | true =>
  rw [hb] at h
  refine (sprT1_t w.params u pp q L bg (roS ro) t1 z t2 op).part (la:=[q]) (cl:=[o]) X R rfl hh (fun _ _=>rfl) (fun _ _=>all_cons (fun _ _=>con_eq true (by cases ro <;> first | decide | cases hb)) all_nil) ?_
  exact fun ad tk s' R' K S=>h s' R' K S
 | false =>
  rw [hb] at h
  refine (sprT1_f w.params u pp q L bg (roS ro) t1 z t2 op).part (la:=[q]) (cl:=[o]) X R rfl hh (fun _ _=>rfl) (fun _ _=>all_cons (fun _ _=>con_eq false (by cases ro <;> first | decide | cases hb)) all_nil) ?_
  exact fun ad tk s' R' K S=>h s' R' K S
theorem spr_t2 {u : 'f'} {o : Obj} {ro : Ro} {z : Str} {t1 t2 : Tok} {op : Bool} {Q : Bool->Shared->Prop} (X : 'r') (R : Rep h₀ [L,q] [spf6 w.params u pp q bg (roS ro) t1 z t2 op,o] s.heap) (hh : 'g')
  (h : ∀ s',Rep h₀ [L,q] [spf6 w.params u pp q bg (roS ro) t1 z t2 op,o] s'.heap->Kept [L] s.heap s'.heap->Same s s'->Q (notWhite ro) s') :
  WP w A (isTrue (sTest spI2) (env769 L) (eval (sTest spI2) (env769 L))) Q E s:=by
 rw [tw_isTrue,tw_eval]
 cases hb : notWhite ro with
 | true =>
  rw [hb] at h
  refine (sprT2_t w.params u pp q L bg (roS ro) t1 z t2 op).part (la:=[q]) (cl:=[o]) X R rfl hh (fun _ _=>rfl) (fun _ _=>all_cons (fun _ _=>con_ne true (by cases ro <;> first | decide | cases hb)) all_nil) ?_
  exact fun ad tk s' R' K S=>h s' R' K S
 | false =>
  rw [hb] at h
  refine (sprT2_f w.params u pp q L bg (roS ro) t1 z t2 op).part (la:=[q]) (cl:=[o]) X R rfl hh (fun _ _=>rfl) (fun _ _=>all_cons (fun _ _=>con_ne false (by cases ro <;> first | decide | cases hb)) all_nil) ?_
  exact fun ad tk s' R' K S=>h s' R' K S
theorem spr_t3 {u : 'f'} {o : Obj} {ro : Str} {z : Str} {t1 t2 : Tok} {op : Bool} {Q : Bool->Shared->Prop} (X : 'r') (R : Rep h₀ [L,q] [spf6 w.params u pp q bg ro t1 z t2 op,o] s.heap) (hh : 'g')
  (h : ∀ s',Rep h₀ [L,q] [spf6 w.params u pp q bg ro t1 z t2 op,o] s'.heap->Kept [L] s.heap s'.heap->Same s s'->Q (!bg) s') :
  WP w A (isTrue (sTest spI3) (env769 L) (eval (sTest spI3) (env769 L))) Q E s:=by
 rw [tw_isTrue,tw_eval]
 cases bg with
 | true =>
  refine (sprT3_t w.params u pp q L ro t1 z t2 op).part (la:=[q]) (cl:=[o]) X R rfl hh 'a' 'e' ?_
  exact fun ad tk s' R' K S=>h s' R' K S
 | false =>
  refine (sprT3_f w.params u pp q L ro t1 z t2 op).part (la:=[q]) (cl:=[o]) X R rfl hh 'a' 'e' ?_
  exact fun ad tk s' R' K S=>h s' R' K S
theorem Kept.two {L q : Addr} {h h' : Heap} (k : Kept [L] h h') : Kept [L,q] h h':=fun b o n e=>k b o (fun x=>n (by simp at x; simp [x])) e
theorem spr_join {u : 'f'} {ro : Ro} {z : List Nat} {t1 t2 : Tok} {vs : List Value} {ts : List (List Nat)} {n : Nat} {Q : Flow->Shared->Prop} (X : 'r') (R : Rep h₀ [L,q] [spf6 w.params u pp q bg (roS ro) t1 ⟨⟨z⟩⟩ t2 (isOp z),lst vs n] s.heap) (hh : 'g')
  (hv : StrsAre vs (ts.map mkS)) (hne : ts ≠ []) (hy : ∀ y ∈ ts,y.length ≤ 900) (hz : z.length ≤ 1)
  (h : ∀ vs' s',Rep h₀ [L,q] [spf6 w.params u pp q bg (roS ro) t1 ⟨⟨z⟩⟩ t2 (isOp z),lst vs' n] s'.heap->StrsAre vs' ((addLast ts (preS (isOp z) ++ z ++ postS ro (isOp z))).map mkS)->Kept [L,q] s.heap s'.heap->Same s s'->Q .next s') :
  WP w A (execs ((sBody spI2).drop 1) (env769 L)) Q E s:=by
 rw [tw_execs]
 obtain ⟨ts0,y,rfl⟩ : ∃ ts0 y,ts = ts0 ++ [y]:=⟨ts.dropLast,ts.getLast hne,(List.dropLast_concat_getLast hne).symm⟩
 rw [List.map_append] at hv
 obtain ⟨vs0,yT,rfl,hv0⟩:=strsAre_unsnoc hv
 have hyl:=hy y (by simp)
 have fin : ∀ (x : List Nat) (T : Tok),x = y ++ (preS (isOp z) ++ z ++ postS ro (isOp z))->StrsAre (vs0 ++ [.str (mkS x) T]) ((addLast (ts0 ++ [y]) (preS (isOp z) ++ z ++ postS ro (isOp z))).map mkS):=by
  rintro x T rfl
  rw [addLast_snoc,List.map_append]
  exact strsAre_snoc hv0 _ _
 have ca : ∀ {as : List Addr} {cs : List Obj} {t u : Tok} {D U : Nat} (a b c : List Nat),a ++ b = c->c.length ≤ 1001->Con w (Tf w.params) as (.call (.builtin "str.__add__") ⟨[.str (mkS a) t,.str (mkS b) u],[]⟩) cs (xP fun f=>.str (mkS c) (f 0)) D U:=fun a b c e hc=>by subst e; exact cadd a b hc
 cases ho : isOp z with
 | false =>
  rw [ho] at R h fin
  obtain ⟨x1,e1⟩ : ∃ x1,y ++ [] = x1:=⟨_,rfl⟩
  obtain ⟨x2,e2⟩ : ∃ x2,x1 ++ z = x2:=⟨_,rfl⟩
  obtain ⟨x3,e3⟩ : ∃ x3,x2 ++ [] = x3:=⟨_,rfl⟩
  have hx : x3 = y ++ (preS false ++ z ++ postS ro false):=by rw [← e3,← e2,← e1]; cases ro <;> simp [preS,postS]
  have b1 : x1.length ≤ 1001:=by rw [← e1]; simp; omega
  have b2 : x2.length ≤ 1001:=by rw [← e2,← e1]; simp; omega
  have b3 : x3.length ≤ 1001:=by rw [← e3,← e2,← e1]; simp; omega
  have LA:=sprJf w.params u pp q L bg (roS ro) t1 ⟨⟨z⟩⟩ t2 (mkS y) yT (mkS x1) (mkS x2) (mkS x3) (vs0 ++ [.str (mkS y) yT]) n
  have LB:=sprJf0 w.params u pp q L bg (roS ro) t1 ⟨⟨z⟩⟩ t2 (mkS y) yT (mkS x1) (mkS x2) (mkS x3) (vs0 ++ [.str (mkS y) yT]) n
  refine cut_last LA ?_ LB X R hh ?_
  ·intro ad tk
   refine all_cons (con_getlast 1 rfl rfl) ?_
   refine all_cons (fun _ _=>ca y [] x1 e1 b1) ?_
   refine all_cons (fun _ _=>ca x1 z x2 e2 b2) ?_
   refine all_cons (fun _ _=>ca x2 [] x3 e3 b3) all_nil
  ·intro tk s' R' K S
   exact h _ s' R' (fin x3 _ hx) K S
 | true =>
  rw [ho] at R h fin
  by_cases hw : ro = .within
  ·subst hw
   obtain ⟨x1,e1⟩ : ∃ x1,y ++ [32] = x1:=⟨_,rfl⟩
   obtain ⟨x2,e2⟩ : ∃ x2,x1 ++ z = x2:=⟨_,rfl⟩
   obtain ⟨x3,e3⟩ : ∃ x3,x2 ++ [32] = x3:=⟨_,rfl⟩
   have hx : x3 = y ++ (preS true ++ z ++ postS .within true):=by rw [← e3,← e2,← e1]; simp [preS,postS]
   have b1 : x1.length ≤ 1001:=by rw [← e1]; simp; omega
   have b2 : x2.length ≤ 1001:=by rw [← e2,← e1]; simp; omega
   have b3 : x3.length ≤ 1001:=by rw [← e3,← e2,← e1]; simp; omega
   have LA:=sprJ_t w.params u pp q L bg (roS .within) t1 ⟨⟨z⟩⟩ t2 (mkS y) yT (mkS x1) (mkS x2) (mkS x3) (vs0 ++ [.str (mkS y) yT]) n
   have LB:=sprJ_t0 w.params u pp q L bg (roS .within) t1 ⟨⟨z⟩⟩ t2 (mkS y) yT (mkS x1) (mkS x2) (mkS x3) (vs0 ++ [.str (mkS y) yT]) n
   refine cut_last LA ?_ LB X R hh ?_
   ·intro ad tk
    refine all_cons (con_getlast 1 rfl rfl) ?_
    refine all_cons (fun _ _=>ca y [32] x1 e1 b1) ?_
    refine all_cons (fun _ _=>ca x1 z x2 e2 b2) ?_
    refine all_cons (fun _ _=>con_eq true rfl) ?_
    refine all_cons (fun _ _=>ca x2 [32] x3 e3 b3) all_nil
   ·intro tk s' R' K S
    exact h _ s' R' (fin x3 _ hx) K S
  ·have hq : ((roS ro).cps.toList == (roS .within).cps.toList) = false:=by cases ro <;> first | decide | exact absurd rfl hw
   obtain ⟨x1,e1⟩ : ∃ x1,y ++ [32] = x1:=⟨_,rfl⟩
   obtain ⟨x2,e2⟩ : ∃ x2,x1 ++ z = x2:=⟨_,rfl⟩
   obtain ⟨x3,e3⟩ : ∃ x3,x2 ++ [] = x3:=⟨_,rfl⟩
   have hx : x3 = y ++ (preS true ++ z ++ postS ro true):=by rw [← e3,← e2,← e1]; cases ro <;> first | exact absurd rfl hw | simp [preS,postS]
   have b1 : x1.length ≤ 1001:=by rw [← e1]; simp; omega
   have b2 : x2.length ≤ 1001:=by rw [← e2,← e1]; simp; omega
   have b3 : x3.length ≤ 1001:=by rw [← e3,← e2,← e1]; simp; omega
   have LA:=sprJ_f w.params u pp q L bg (roS ro) t1 ⟨⟨z⟩⟩ t2 (mkS y) yT (mkS x1) (mkS x2) (mkS x3) (vs0 ++ [.str (mkS y) yT]) n
   have LB:=sprJ_f0 w.params u pp q L bg (roS ro) t1 ⟨⟨z⟩⟩ t2 (mkS y) yT (mkS x1) (mkS x2) (mkS x3) (vs0 ++ [.str (mkS y) yT]) n
   refine cut_last LA ?_ LB X R hh ?_
   ·intro ad tk
    refine all_cons (con_getlast 1 rfl rfl) ?_
    refine all_cons (fun _ _=>ca y [32] x1 e1 b1) ?_
    refine all_cons (fun _ _=>ca x1 z x2 e2 b2) ?_
    refine all_cons (fun _ _=>con_eq false hq) ?_
    refine all_cons (fun _ _=>ca x2 [] x3 e3 b3) all_nil
   ·intro tk s' R' K S
    exact h _ s' R' (fin x3 _ hx) K S
theorem spr_bg {u : 'f'} {o : Obj} {ro : Ro} {z : Str} {t1 t2 : Tok} {op : Bool} {Q : Flow->Shared->Prop} (X : 'r') (R : Rep h₀ [L,q] [spf6 w.params u pp q bg (roS ro) t1 z t2 op,o] s.heap) (hh : 'g')
  (h : ∀ s',Rep h₀ [L,q] [spf6 w.params u pp q (begunOf ro op) (roS ro) t1 z t2 op,o] s'.heap->Kept [L] s.heap s'.heap->Same s s'->Q .next s') :
  WP w A (execs (spB.drop 2) (env769 L)) Q E s:=by
 rw [tw_execs]
 cases ro with
 | within =>
  refine (sprB_w w.params u pp q L bg (roS .within) t1 z t2 op).part (la:=[q]) (cl:=[o]) X R rfl hh 'a' (fun _ _=>all_cons (fun _ _=>con_eq true rfl) all_nil) ?_
  intro ad tk s' R' K S
  rw [spf_b6] at R'
  exact h s' R' K S
 | bare =>
  refine (sprB_b w.params u pp q L bg (roS .bare) t1 z t2 op).part (la:=[q]) (cl:=[o]) X R rfl hh 'a' (fun _ _=>all_cons (fun _ _=>con_eq false rfl) (all_cons (fun _ _=>con_eq true rfl) all_nil)) ?_
  intro ad tk s' R' K S
  rw [spf_b6] at R'
  exact h s' R' K S
 | kept =>
  cases op with
  | true =>
   refine (sprB_kt w.params u pp q L bg (roS .kept) t1 z t2).part (la:=[q]) (cl:=[o]) X R rfl hh 'a' (fun _ _=>all_cons (fun _ _=>con_eq false rfl) (all_cons (fun _ _=>con_eq false rfl) (all_cons (fun _ _=>con_eq true rfl) all_nil))) ?_
   intro ad tk s' R' K S
   rw [spf_b6] at R'
   exact h s' R' K S
  | false =>
   refine (sprB_kf w.params u pp q L bg (roS .kept) t1 z t2).part (la:=[q]) (cl:=[o]) X R rfl hh 'a' (fun _ _=>all_cons (fun _ _=>con_eq false rfl) (all_cons (fun _ _=>con_eq false rfl) (all_cons (fun _ _=>con_eq true rfl) all_nil))) ?_
   intro ad tk s' R' K S
   rw [spf_b6] at R'
   exact h s' R' K S
 | run =>
  refine (sprB_o w.params u pp q L bg (roS .run) t1 z t2 op).part (la:=[q]) (cl:=[o]) X R rfl hh 'a' (fun _ _=>all_cons (fun _ _=>con_eq false rfl) (all_cons (fun _ _=>con_eq false rfl) (all_cons (fun _ _=>con_eq false rfl) all_nil))) ?_
  intro ad tk s' R' K S
  rw [spf_b6] at R'
  exact h s' R' K S
 | white =>
  refine (sprB_o w.params u pp q L bg (roS .white) t1 z t2 op).part (la:=[q]) (cl:=[o]) X R rfl hh 'a' (fun _ _=>all_cons (fun _ _=>con_eq false rfl) (all_cons (fun _ _=>con_eq false rfl) (all_cons (fun _ _=>con_eq false rfl) all_nil))) ?_
  intro ad tk s' R' K S
  rw [spf_b6] at R'
  exact h s' R' K S
end
variable {E : Value->Shared->Prop}
theorem begin1_ok {bg : Bool} {ts : List (List Nat)} {i : Nat} (h1 : ts.length ≤ i) (h2 : ∀ y ∈ ts,y.length ≤ 3 * i) (h3 : bg = true->ts ≠ []) : (begin1 bg ts).length ≤ i + 1 ∧ (∀ y ∈ begin1 bg ts,y.length ≤ 3 * i) ∧ begin1 bg ts ≠ []:=by
 cases bg with
 | true=>exact ⟨by show ts.length ≤ _; omega,h2,h3 rfl⟩
 | false =>
  refine ⟨by show (ts ++ [[]]).length ≤ _; simp; omega,?_,by show ts ++ [[]] ≠ []; simp⟩
  intro y hy
  rcases List.mem_append.mp (show y ∈ ts ++ [[]] from hy) with hy | hy
  ·exact h2 y hy
  ·simp only [List.mem_singleton] at hy
   subst hy; simp
theorem pp_len (o : Bool) (ro : Ro) (z : List Nat) : (preS o ++ z ++ postS ro o).length ≤ z.length + 2:=by
 cases o <;> cases ro <;> simp [preS,postS] <;> omega
theorem kstep_ok {bg : Bool} {ts : List (List Nat)} {q : Ro × List Nat} {i : Nat} (h1 : ts.length ≤ i) (h2 : ∀ y ∈ ts,y.length ≤ 3 * i) (h3 : bg = true->ts ≠ []) (hq : q.2.length ≤ 1) :
  (kstep bg ts q).length ≤ i + 1 ∧ (∀ y ∈ kstep bg ts q,y.length ≤ 3 * (i + 1)) ∧ (begunOf q.1 (isOp q.2) = true->kstep bg ts q ≠ []):=by
 obtain ⟨ro,z⟩:=q
 have hq : z.length ≤ 1:=hq
 obtain ⟨b1,b2,b3⟩:=begin1_ok h1 h2 h3
 have add : ∀ x : List Nat,x.length ≤ 3->(addLast (begin1 bg ts) x).length ≤ i + 1 ∧ (∀ y ∈ addLast (begin1 bg ts) x,y.length ≤ 3 * (i + 1)) ∧ addLast (begin1 bg ts) x ≠ []:=by
  intro x hx
  refine ⟨by rw [addLast_len]; exact b1,?_,?_⟩
  ·intro y hy
   rcases addLast_mem _ _ _ hy with hy | ⟨v,hv,rfl⟩
   ·have:=b2 y hy; omega
   ·have:=b2 v hv
    simp; omega
  ·intro e
   have hl:=addLast_len x (begin1 bg ts)
   rw [e] at hl
   exact b3 (List.length_eq_zero_iff.mp hl.symm)
 have hp : ∀ r,(preS (isOp z) ++ z ++ postS r (isOp z)).length ≤ 3:=fun r=>by have:=pp_len (isOp z) r z; omega
 cases ro with
 | run =>
  refine ⟨by show (ts ++ [z]).length ≤ _; simp; omega,?_,fun _=>by show ts ++ [z] ≠ []; simp⟩
  intro y hy
  rcases List.mem_append.mp (show y ∈ ts ++ [z] from hy) with hy | hy
  ·have:=h2 y hy; omega
  ·simp only [List.mem_singleton] at hy
   subst hy; omega
 | white=>exact ⟨by show ts.length ≤ _; omega,fun y hy=>by have:=h2 y hy; omega,fun h=>by cases h⟩
 | kept=>obtain ⟨a,b,c⟩:=add _ (hp .kept); exact ⟨a,b,fun _=>c⟩
 | within=>obtain ⟨a,b,c⟩:=add _ (hp .within); exact ⟨a,b,fun _=>c⟩
 | bare=>obtain ⟨a,b,c⟩:=add _ (hp .bare); exact ⟨a,b,fun _=>c⟩
section
variable {w : World} {pp q L t : Addr} {A : Around} {h₀ : Heap} {s : Shared} {bg : Bool}
theorem spr_rest {u : 'f'} {ro : Ro} {z : List Nat} {t1 t2 : Tok} {vs : List Value} {ts : List (List Nat)} {n i : Nat} {Q : Flow->Shared->Prop} (X : 'r')
  (R : Rep h₀ [L,q] [spf6 w.params u pp q bg (roS ro) t1 ⟨⟨z⟩⟩ t2 (isOp z),lst vs n] s.heap) (hh : 'g') (hv : StrsAre vs (ts.map mkS)) (h1 : ts.length ≤ i) (h2 : ∀ y ∈ ts,y.length ≤ 3 * i) (h3 : bg = true->ts ≠ []) (hi : i ≤ 300) (hz : z.length ≤ 1)
  (h : ∀ fr vs' n' s',SpF w.params u pp q (begunOf ro (isOp z)) fr->Rep h₀ [L,q] [fr,lst vs' n'] s'.heap->StrsAre vs' ((kstep bg ts (ro,z)).map mkS)->Kept [L,q] s.heap s'.heap->Same s s'->Q .next s') :
  WP w A (execs ([.If (sTest spI1) (sBody spI1) (sElse spI1) (iPos spI1)] ++ spB.drop 2) (env769 L)) Q E s:=by
 refine wp_app ?_
 have hvl : vs.length = ts.length:=by have:=strsAre_len hv; simpa using this
 -- the end
 have fin : ∀ (vs' : List Value) (n' : Nat) (s1 : Shared),Rep h₀ [L,q] [spf6 w.params u pp q bg (roS ro) t1 ⟨⟨z⟩⟩ t2 (isOp z),lst vs' n'] s1.heap->StrsAre vs' ((kstep bg ts (ro,z)).map mkS)->Kept [L,q] s.heap s1.heap->Same s s1->WP w A (execs (spB.drop 2) (env769 L)) Q E s1:=by
  intro vs' n' s1 R1 hv1 K1 S1
  refine spr_bg X R1 hh fun s2 R2 K2 S2=>?_
  exact h _ vs' n' s2 (.inr ⟨_,_,_,_,_,rfl⟩) R2 hv1 (K1.trans K2.two) (S1.trans S2)
 refine wpAny_execs_cons (wpAny_If ?_)
 refine spr_t1 X R hh fun s1 R1 K1 S1=>?_
 cases hr : isRun ro with
 | true =>
  have e : ro = .run:=by cases ro <;> first | rfl | cases hr
  subst e
  simp only [if_true]
  rw [tw_execs]
  refine cut_push (v:=fun _=>.str ⟨⟨z⟩⟩ t2) (sprR w.params u pp q L bg (roS .run) t1 ⟨⟨z⟩⟩ t2 (isOp z) vs n) (fun vs' n' ad tk=>sprR0 w.params u pp q L bg (roS .run) t1 ⟨⟨z⟩⟩ t2 (isOp z) vs n vs' n' ad tk) X R1 hh (by omega) ?_
  intro tk s2 R2 K2 S2
  dsimp only
  refine wpAny_execs_nil ?_
  dsimp only
  refine fin _ _ s2 R2 ?_ (K1.two.trans K2) (S1.trans S2)
  show StrsAre _ ((ts ++ [z]).map mkS)
  rw [List.map_append]
  exact strsAre_snoc hv _ _
 | false =>
  simp only [Bool.false_eq_true,if_false]
  rw [spE1]
  refine wpAny_execs_cons (wpAny_If ?_)
  refine spr_t2 X R1 hh fun s2 R2 K2 S2=>?_
  cases hw : notWhite ro with
  | false =>
   have e : ro = .white:=by cases ro <;> first | rfl | cases hw
   subst e
   simp only [Bool.false_eq_true,if_false]
   rw [spE2]
   refine wpAny_execs_nil ?_
   dsimp only
   refine wpAny_execs_nil ?_
   dsimp only
   refine wpAny_execs_nil ?_
   dsimp only
   exact fin _ _ s2 R2 hv (K1.two.trans K2.two) (S1.trans S2)
  | true =>
   have hk : kstep bg ts (ro,z) = addLast (begin1 bg ts) (preS (isOp z) ++ z ++ postS ro (isOp z)):=by cases ro <;> first | rfl | exact absurd hw (by decide) | exact absurd hr (by decide)
   obtain ⟨b1,b2,b3⟩:=begin1_ok h1 h2 h3
   simp only [if_true]
   rw [spB2]
   refine wp_app ?_
   refine wpAny_execs_cons (wpAny_If ?_)
   refine spr_t3 X R2 hh fun s3 R3 K3 S3=>?_
   have go : ∀ (vs' : List Value) (n' : Nat) (s4 : Shared),Rep h₀ [L,q] [spf6 w.params u pp q bg (roS ro) t1 ⟨⟨z⟩⟩ t2 (isOp z),lst vs' n'] s4.heap->StrsAre vs' ((begin1 bg ts).map mkS)->Kept [L,q] s.heap s4.heap->Same s s4 →
     WP w A (execs ((sBody spI2).drop 1) (env769 L)) (fun f s'=>match f with | .next=>WP w A (execs (spB.drop 2) (env769 L)) Q E s' | f=>Q f s') E s4:=by
    intro vs' n' s4 R4 hv4 K4 S4
    refine spr_join X R4 hh hv4 b3 (fun y hy=>by have:=b2 y hy; omega) hz fun vs5 s5 R5 hv5 K5 S5=>?_
    dsimp only
    exact fin vs5 n' s5 R5 (by rw [hk]; exact hv5) (K4.trans K5) (S4.trans S5)
   have K13 : Kept [L,q] s.heap s3.heap:=(K1.two.trans K2.two).trans K3.two
   have S13 : Same s s3:=(S1.trans S2).trans S3
   cases bg with
   | true =>
    simp only [Bool.not_true,Bool.false_eq_true,if_false]
    rw [spE3]
    refine wpAny_execs_nil ?_
    dsimp only
    refine wpAny_execs_nil ?_
    dsimp only
    refine wpAny_mono (go vs n s3 R3 hv K13 S13) (fun f s' q=>?_) fun _ _ q=>q
    cases f with
    | next=>exact wpAny_execs_nil (wpAny_execs_nil q)
    | _=>exact q
   | false =>
    simp only [Bool.not_false,if_true]
    rw [tw_execs]
    refine cut_push (v:=fun tk=>.str ⟨⟨[]⟩⟩ (tk 0)) (sprE w.params u pp q L false (roS ro) t1 ⟨⟨z⟩⟩ t2 (isOp z) vs n) (fun vs' n' ad tk=>sprE0 w.params u pp q L false (roS ro) t1 ⟨⟨z⟩⟩ t2 (isOp z) vs n vs' n' ad tk) X R3 hh (by omega) ?_
    intro tk s4 R4 K4 S4
    dsimp only
    refine wpAny_execs_nil ?_
    dsimp only
    refine wpAny_mono (go _ _ s4 R4 ?_ (K13.trans K4) (S13.trans S4)) (fun f s' q=>?_) fun _ _ q=>q
    ·show StrsAre _ ((ts ++ [[]]).map mkS)
     rw [List.map_append]
     exact strsAre_snoc hv _ _
    ·cases f with
     | next=>exact wpAny_execs_nil (wpAny_execs_nil q)
     | _=>exact q
end
variable {w : World} {A : Around} {h₀ : Heap} {s : Shared} {R : Result->Shared->Prop} {E : Value->Shared->Prop}
section
variable (env : Env) (x : Value) (P : Params) (u : Nat->Tok) (pp q L : Addr) (bg : Bool)
theorem spr_for : sNth body769 2 = .For (fTgt y63) (fIter y63) spB (sElse y63) (sPos y63):=by kernel_rfl!
theorem spr_split : body769 = body769.take 2 ++ (sNth body769 2 :: body769.drop 3):=by kernel_rfl!
theorem spr_else : sElse (sNth body769 2) = []:=by kernel_rfl!
theorem spr_tgt : fTgt y63 = .Tuple (xElts (fTgt y63)) (xKd (fTgt y63)) (xPos (fTgt y63)):=by kernel_rfl!
theorem spr_fold : foldedSetIterable (fIter y63) env x = pure x:=by kernel_rfl!
theorem spr_own {it l t : Addr} {i : Nat} {Q : Unit->Shared->Prop} (hit : s.heap.IsListIter it l i) (h : Q () s) : WP w A (letOwnedTupleGo (fTgt (sNth body769 2)) (.ref it) (.ref t)) Q E s:=by
 rw [spr_tgt]
 exact wpAny_letOwnedTupleGo_listiter hit h
structure SpI (w : World) (l : List (Ro × List Nat)) (L pp q it : Addr) (h₀ : Heap) (s₀ : Shared) (n : Nat) (s : Shared) : Prop where
 all : ∃ u bg fr ts vs k rest i,n = rest.length + 1 ∧ l.drop i = rest ∧ krun bg ts rest = krun false [] l ∧ ts.length ≤ i ∧ (∀ y ∈ ts,y.length ≤ 3 * i) ∧ (bg = true->ts ≠ []) ∧ i ≤ l.length ∧
  SpF w.params u pp q bg fr ∧ Rep h₀ [L,q] [fr,lst vs k] s.heap ∧ StrsAre vs (ts.map mkS) ∧ s.heap.IsListIter it pp i
 itn : it ∉ [L,q]
 it0 : h₀.get? it = none
 sm : Same s₀ s
theorem spr_loop {l : List (Ro × List Nat)} {L pp q it : Addr} {ps : List Value} {kp : Nat} {s₀ s : Shared} (hp : h₀.get? pp = some (lst ps kp)) (hps : PartsAre w.params [] h₀ ps l) (hll : l.length ≤ 300) (hsg : ∀ x ∈ l,x.2.length ≤ 1) (hh : 'g') (X : 'r')
  (H : ∀ u bg fr vs k s',SpF w.params u pp q bg fr->Rep h₀ [L,q] [fr,lst vs k] s'.heap->StrsAre vs ((krun false [] l).map mkS)->Same s₀ s'->R (.ok .next) s')
  (I : SpI w l L pp q it h₀ s₀ (l.length + 1) s) :
  CA w A (.forLoop (fTgt (sNth body769 2)) (.ref it) spB (sElse (sNth body769 2)) (env769 L)) R s:=by
 refine codeAny_forLoop_any (SpI w l L pp q it h₀ s₀) ?_ _ I
 rintro n s1 ⟨⟨u,bg,fr,ts,vs,k,rest,i,rfl,hd,he,h1,h2,h3,hi,hf,R1,hv,hit⟩,n1,n2,S1⟩
 have hp1:=R1.keep _ _ hp
 cases rest with
 | nil =>
  have hx : l[i]? = none:=by rw [List.getElem?_eq_none_iff]; exact List.drop_eq_nil_iff.mp hd
  have hx' : ps[i]? = none:=by rw [List.getElem?_eq_none_iff,hps.len]; exact List.drop_eq_nil_iff.mp hd
  refine lst_done hh hit hp1 hx' fun s2 K2 S2=>?_
  dsimp only
  rw [spr_else]
  refine wpAny_execs_nil ?_
  simp only [krun] at he
  exact H u bg fr vs k s2 hf (R1.extBut K2 n1 n2) (he ▸ hv) (S1.trans S2)
 | cons x rest =>
  have hi' : i < l.length:=by
   refine Nat.lt_of_not_le fun q=>?_
   rw [List.drop_eq_nil_of_le q] at hd; cases hd
  rw [List.drop_eq_getElem_cons hi'] at hd
  simp only [List.cons.injEq] at hd
  obtain ⟨hc,hd⟩:=hd
  have hx : l[i]? = some x:=by rw [List.getElem?_eq_getElem hi',hc]
  obtain ⟨v,hxv,a,t1,t2,rfl,_,hnt,ga⟩:=hps.at hx
  obtain ⟨ro,z⟩:=x
  refine lst_next hit hp1 hxv fun s2 hit2 K2 S2=>?_
  dsimp only
  refine spr_own hit2 ?_
  have R2:=R1.extBut K2 n1 n2
  refine spr_asg hf X R2 ga hnt hh fun u3 fr3 s3 hf3 R3 K3 S3=>?_
  have hz : z.length ≤ 1:=hsg (ro,z) (List.mem_of_getElem? hx)
  rw [spB_eq]
  refine wp_app ?_
  refine spr_op hz hf3 X R3 hh fun u4 s4 R4 K4 S4=>?_
  dsimp only
  refine spr_rest X R4 hh hv h1 h2 h3 (by omega) hz fun fr5 vs5 k5 s5 hf5 R5 hv5 K5 S5=>?_
  have nL : it ∉ [L]:=fun q=>n1 (by simp at q; simp [q])
  obtain ⟨o1,o2,o3⟩:=kstep_ok (q:=(ro,z)) h1 h2 h3 hz
  refine ⟨rest.length + 1,by simp,⟨⟨u4,begunOf ro (isOp z),fr5,kstep bg ts (ro,z),vs5,k5,rest,i + 1,rfl,hd,?_,o1,o2,o3,hi',hf5,R5,hv5,?_⟩,n1,n2,(((S1.trans S2).trans S3).trans S4).trans S5⟩⟩
  ·rw [← he]; simp only [krun]
  ·exact lit_keep (lit_keep (lit_keep hit2 K3 nL) K4 nL) K5 n1
theorem spr_iter : Lf P (Tf P) [L] [spf3 P u pp q bg] [] (eval (fIter y63) (env769 L)) 0 (fun _ _=>[]) (fun _ _=>[spf3 P u pp q bg]) (fun _ _=>.val (.ref pp)):=by
 rw [tw_eval]; exact sprI P u pp q L bg
theorem spr_ret { w : World } { u : Nat->Tok } { pp q L : Addr } { bg : Bool } { fr : Obj } (hf : SpF w.params u pp q bg fr) : Lf w.params 'c' [L] [fr] [] (zEX (body769.drop 3) (env769 L)) 0 (fun _ _=>[]) (fun _ _=>[fr]) (fun _ _=>.val (.ret (.ref q))):=by
 rcases hf with rfl | ⟨ro,rT,sg,sT,op,rfl⟩
 ·exact sprX3 w.params u pp q L bg
 ·exact sprX6 w.params u pp q L bg ro rT sg sT op
theorem spr_code {pp : Addr} {ps : List Value} {kp : Nat} {l : List (Ro × List Nat)} (hp : s.heap.get? pp = some (lst ps kp)) (hps : PartsAre w.params [] s.heap ps l) (hll : l.length ≤ 300) (hsg : ∀ x ∈ l,x.2.length ≤ 1)
  (hd : A.depth < recursionLimit) (hh : 'g') (X : TopIn 'c' s.heap)
  (H : ∀ z ws m s',Keep s.heap s'.heap->s.heap.get? z = none->s'.heap.get? z = some (lst ws m)->StrsAre ws ((krun false [] l).map mkS)->Same s s'->R (.ok (.ret (.ref z))) s') :
  CA w A (.call (.ref 769) ⟨[.ref pp],[]⟩) R s:=by
 refine spr_call pp hd hh X (rep_nil s.heap) ?_
 intro L k s1 R1 S1
 rw [spr_split]
 refine wp_app ?_
 rw [tw_execs]
 refine (spr0 w.params pp L k).run X R1 hh 'a' 'e' ?_
 intro ad tk s2 R2 K2 S2
 rw [spr_fr0] at R2
 generalize hq : ad 0 = q at R2
 have R2' : Rep s.heap [L,q] [spf3 w.params (uP (k 0) (tk 0) (tk 1)) pp q false,lst [] 0] s2.heap:=by
  have : (List.range 1).map ad = [q]:=by rw [← hq]; rfl
  rw [this] at R2
  exact R2
 show WP w (A.deeper (env769 L)) (execs (sNth body769 2 :: body769.drop 3) (env769 L)) _ _ s2
 refine wpAny_execs_cons ?_
 rw [spr_for]
 refine wpAny_For ?_ (spr_fold _)
 refine (spr_iter w.params _ pp q L false).part (la:=[q]) (cl:=[lst [] 0]) X R2' rfl hh 'a' 'e' ?_
 intro ad3 tk3 s3 R3 K3 S3
 show WP w (A.deeper (env769 L)) (pyIter (.ref pp)) _ _ s3
 refine lst_iter (R3.keep _ _ hp) fun it s4 hit K4 n4 S4=>?_
 have R4:=R3.keeps K4
 refine spr_loop (s₀:=s2) hp hps hll hsg hh X ?_ ⟨⟨_,false,_,[],[],0,l,0,rfl,rfl,rfl,Nat.zero_le _,(fun _ h=>by cases h),(fun h=>by cases h),Nat.zero_le _,.inl rfl,R4,.nil,hit⟩,?_,?_,S3.trans S4⟩
 ·intro u bg fr vs k5 s5 hf R5 hv S5
  dsimp only
  rw [tw_execs]
  refine (spr_ret hf).part (la:=[q]) (cl:=[lst vs k5]) X R5 rfl hh 'a' 'e' ?_
  intro ad6 tk6 s6 R6 K6 S6
  exact H q vs k5 s6 R6.keep (R6.fresh q (.tail _ (.head _))) (R6.cell 1 q _ rfl rfl) hv (S1.trans (S2.trans (S5.trans S6)))
 ·intro x
  obtain ⟨o,ho⟩:=R3.has x
  rw [ho] at n4; cases n4
 ·cases e : s.heap.get? it with
  | none=>rfl
  | some o=>rw [R3.keep it o e] at n4; cases n4
end
end
section
open PySem PySem.W PySem.W.X PyProof.Rows
variable {w : World}
section
variable (P : Params) (x : Int) (xT : Tok) (tk : Nat->Tok) (L : Addr) (k : Nat->Tok) (a j : Int) (c : Nat)
theorem sg_b : Lf P (Tf P) [] [] [] (zBA fd748 ⟨[.int x xT],[]⟩) 0 zve (fun ad tk=>[]) (fun ad tk=>(.val [(a394,(.int x xT))])):=.mk' 3 0 (by kernel_rfl)
theorem sg_e : Lf P (Tf P) [] [] [] (zNE fd748 748 [(a394,(.int x xT))]) 1 zve (fun ad tk=>[(zD zt98 [en P a394 (tk 0) (.int x xT)] 1)]) (fun ad tk=>(.val (env748 (ad 0)))):=.mk' 8 257 (by kernel_rfl)
noncomputable def sg_fr : Obj:=(zD zt98 [en P a394 (tk 0) (.int x xT)] 1)
theorem sg_call (x : Int) (xT : Tok) : CallT w [] [] (sg_fr w.params x xT) env748 body748 748 ⟨[.int x xT],[]⟩:=callT _ _ (top748 w.params) rfl rfl co748 ge748 rfl (cr748 w.params) (sg_b w.params x xT) (sg_e w.params x xT)
noncomputable abbrev y41 (p0 : Int) (p1 : Tok) (p2 : Nat->Tok):=zB zb18 [(.int p0 p1),(zI 16 (p2 0))]
theorem sgw_0 : Lf P (Tf P) [L] [sg_fr P x xT k] [(xP fun f=>.int 0 (f 0))] (zEX body748 (env748 L)) 0 (fun ad tk=>[(zX (y41 x xT tk) (xP fun f=>.int 0 (f 0)))]) (fun ad tk=>[(sn (sg_fr P x xT k) (en P a454 (tk 9) (zI 0 (tk 1))))]) (fun ad tk=>(.val (.ret (.str s!"'" (tk 12))))):=by revert P; refine Lf.rw1 66 174227230360235958836271010504632449498881 ?_ ?_ <;> kernel_rfl
theorem sgw_1 : Lf P (Tf P) [L] [sg_fr P x xT k] [(xP fun f=>.int 1 (f 0))] (zEX body748 (env748 L)) 0 (fun ad tk=>[(zX (y41 x xT tk) (xP fun f=>.int 1 (f 0)))]) (fun ad tk=>[(sn (sg_fr P x xT k) (en P a454 (tk 9) (zI 1 (tk 1))))]) (fun ad tk=>(.val (.ret (.str s!"\"" (tk 13))))):=by revert P; refine Lf.rw1 66 174227230360235958836271010504632449498881 ?_ ?_ <;> kernel_rfl
theorem sgw_2 : Lf P (Tf P) [L] [sg_fr P x xT k] [(xP fun f=>.int 2 (f 0))] (zEX body748 (env748 L)) 0 (fun ad tk=>[(zX (y41 x xT tk) (xP fun f=>.int 2 (f 0)))]) (fun ad tk=>[(sn (sg_fr P x xT k) (en P a454 (tk 9) (zI 2 (tk 1))))]) (fun ad tk=>(.val (.ret (.str s!"\\" (tk 14))))):=by revert P; refine Lf.rw1 66 174227230360235958836271010504632449498881 ?_ ?_ <;> kernel_rfl
theorem sgw_3 : Lf P (Tf P) [L] [sg_fr P x xT k] [(xP fun f=>.int 3 (f 0))] (zEX body748 (env748 L)) 0 (fun ad tk=>[(zX (y41 x xT tk) (xP fun f=>.int 3 (f 0)))]) (fun ad tk=>[(sn (sg_fr P x xT k) (en P a454 (tk 9) (zI 3 (tk 1))))]) (fun ad tk=>(.val (.ret (.str s!" " (tk 15))))):=by revert P; refine Lf.rw1 66 174227230360235958836271010504632449498881 ?_ ?_ <;> kernel_rfl
theorem sgw_4 : Lf P (Tf P) [L] [sg_fr P x xT k] [(xP fun f=>.int 4 (f 0))] (zEX body748 (env748 L)) 0 (fun ad tk=>[(zX (y41 x xT tk) (xP fun f=>.int 4 (f 0)))]) (fun ad tk=>[(sn (sg_fr P x xT k) (en P a454 (tk 9) (zI 4 (tk 1))))]) (fun ad tk=>(.val (.ret (.str a349 (tk 16))))):=by revert P; refine Lf.rw1 66 174227230360235958836271010504632449498881 ?_ ?_ <;> kernel_rfl
theorem sgw_5 : Lf P (Tf P) [L] [sg_fr P x xT k] [(xP fun f=>.int 5 (f 0))] (zEX body748 (env748 L)) 0 (fun ad tk=>[(zX (y41 x xT tk) (xP fun f=>.int 5 (f 0)))]) (fun ad tk=>[(sn (sg_fr P x xT k) (en P a454 (tk 9) (zI 5 (tk 1))))]) (fun ad tk=>(.val (.ret (.str a398 (tk 17))))):=by revert P; refine Lf.rw1 66 174227230360235958836271010504632449498881 ?_ ?_ <;> kernel_rfl
theorem sgw_6 : Lf P (Tf P) [L] [sg_fr P x xT k] [(xP fun f=>.int 6 (f 0))] (zEX body748 (env748 L)) 0 (fun ad tk=>[(zX (y41 x xT tk) (xP fun f=>.int 6 (f 0)))]) (fun ad tk=>[(sn (sg_fr P x xT k) (en P a454 (tk 9) (zI 6 (tk 1))))]) (fun ad tk=>(.val (.ret (.str s!";" (tk 18))))):=by revert P; refine Lf.rw1 66 174227230360235958836271010504632449498881 ?_ ?_ <;> kernel_rfl
theorem sgw_7 : Lf P (Tf P) [L] [sg_fr P x xT k] [(xP fun f=>.int 7 (f 0))] (zEX body748 (env748 L)) 0 (fun ad tk=>[(zX (y41 x xT tk) (xP fun f=>.int 7 (f 0)))]) (fun ad tk=>[(sn (sg_fr P x xT k) (en P a454 (tk 9) (zI 7 (tk 1))))]) (fun ad tk=>(.val (.ret (.str s!"|" (tk 19))))):=by revert P; refine Lf.rw1 66 174227230360235958836271010504632449498881 ?_ ?_ <;> kernel_rfl
theorem sgw_8 : Lf P (Tf P) [L] [sg_fr P x xT k] [(xP fun f=>.int 8 (f 0))] (zEX body748 (env748 L)) 0 (fun ad tk=>[(zX (y41 x xT tk) (xP fun f=>.int 8 (f 0)))]) (fun ad tk=>[(sn (sg_fr P x xT k) (en P a454 (tk 9) (zI 8 (tk 1))))]) (fun ad tk=>(.val (.ret (.str s!"#" (tk 20))))):=by revert P; refine Lf.rw1 66 174227230360235958836271010504632449498881 ?_ ?_ <;> kernel_rfl
theorem sgw_9 : Lf P (Tf P) [L] [sg_fr P x xT k] [(xP fun f=>.int 9 (f 0))] (zEX body748 (env748 L)) 0 (fun ad tk=>[(zX (y41 x xT tk) (xP fun f=>.int 9 (f 0)))]) (fun ad tk=>[(sn (sg_fr P x xT k) (en P a454 (tk 9) (zI 9 (tk 1))))]) (fun ad tk=>(.val (.ret (.str s!"\t" (tk 21))))):=by revert P; refine Lf.rw1 66 174227230360235958836271010504632449498881 ?_ ?_ <;> kernel_rfl
noncomputable abbrev y93 (p0 : Nat):=xP fun f=>.str ⟨⟨[p0]⟩⟩ (f 0)
theorem sgw_10 : Lf P (Tf P) [L] [sg_fr P x xT k] [(xP fun f=>.int 10 (f 0)),(y34 a),(y34 j),(y93 c)] (zEX body748 (env748 L)) 0 (fun ad tk=>[(zX (y41 x xT tk) (xP fun f=>.int 10 (f 0))),(zX (zB zb19 [(.int x xT),(zI 16 (tk 12))]) (y34 a)),(zX (zB zb18 [(.int a (tk 13)),(zI 7 (tk 21))]) (y34 j)),(zX (zB zb3 [(.str s!"();<>|&" (tk 11)),(.int j (tk 22))]) (y93 c))]) (fun ad tk=>[(sn (sg_fr P x xT k) (en P a454 (tk 9) (zI 10 (tk 1))))]) (fun ad tk=>(.val (.ret (.str ⟨⟨[c]⟩⟩ (tk 30))))):=by revert P; refine Lf.rw1 37 309484991446658593365032705 ?_ ?_ <;> kernel_rfl
theorem sgw_11 : Lf P (Tf P) [L] [sg_fr P x xT k] [(xP fun f=>.int 11 (f 0)),(y34 a),(y34 j),(y93 c)] (zEX body748 (env748 L)) 0 (fun ad tk=>[(zX (y41 x xT tk) (xP fun f=>.int 11 (f 0))),(zX (zB zb19 [(.int x xT),(zI 16 (tk 13))]) (y34 a)),(zX (zB zb18 [(.int a (tk 14)),(zI 12 (tk 22))]) (y34 j)),(zX (zB zb3 [(.str s!"b7_~-./*?=éß" (tk 12)),(.int j (tk 23))]) (y93 c))]) (fun ad tk=>[(sn (sg_fr P x xT k) (en P a454 (tk 9) (zI 11 (tk 1))))]) (fun ad tk=>(.val (.ret (.str ⟨⟨[c]⟩⟩ (tk 31))))):=by revert P; refine Lf.rw1 46 5192296550258743698857655128948481 ?_ ?_ <;> kernel_rfl
theorem sgw_12 : Lf P (Tf P) [L] [sg_fr P x xT k] [(xP fun f=>.int 12 (f 0))] (zEX body748 (env748 L)) 0 (fun ad tk=>[(zX (y41 x xT tk) (xP fun f=>.int 12 (f 0)))]) (fun ad tk=>[(sn (sg_fr P x xT k) (en P a454 (tk 9) (zI 12 (tk 1))))]) (fun ad tk=>(.val (.ret (.str a171 (tk 24))))):=by revert P; refine Lf.rw1 66 174227230360235958836271010504632449498881 ?_ ?_ <;> kernel_rfl
theorem sgw_13 : Lf P (Tf P) [L] [sg_fr P x xT k] [(xP fun f=>.int 13 (f 0))] (zEX body748 (env748 L)) 0 (fun ad tk=>[(zX (y41 x xT tk) (xP fun f=>.int 13 (f 0)))]) (fun ad tk=>[(sn (sg_fr P x xT k) (en P a454 (tk 9) (zI 13 (tk 1))))]) (fun ad tk=>(.val (.ret (.str s!"\"" (tk 25))))):=by revert P; refine Lf.rw1 66 174227230360235958836271010504632449498881 ?_ ?_ <;> kernel_rfl
theorem sgw_14 : Lf P (Tf P) [L] [sg_fr P x xT k] [(xP fun f=>.int 14 (f 0))] (zEX body748 (env748 L)) 0 (fun ad tk=>[(zX (y41 x xT tk) (xP fun f=>.int 14 (f 0)))]) (fun ad tk=>[(sn (sg_fr P x xT k) (en P a454 (tk 9) (zI 14 (tk 1))))]) (fun ad tk=>(.val (.ret (.str a181 (tk 26))))):=by revert P; refine Lf.rw1 66 174227230360235958836271010504632449498881 ?_ ?_ <;> kernel_rfl
theorem sgw_15 : Lf P (Tf P) [L] [sg_fr P x xT k] [(xP fun f=>.int 15 (f 0))] (zEX body748 (env748 L)) 0 (fun ad tk=>[(zX (y41 x xT tk) (xP fun f=>.int 15 (f 0)))]) (fun ad tk=>[(sn (sg_fr P x xT k) (en P a454 (tk 9) (zI 15 (tk 1))))]) (fun ad tk=>(.val (.ret (.str a398 (tk 27))))):=by revert P; refine Lf.rw1 66 174227230360235958836271010504632449498881 ?_ ?_ <;> kernel_rfl
end
end
section
open PySem PySem.W PySem.W.X PyProof.Rows PySem.Builtin PySem.Builtin.Str PySem.Builtin.Int
variable {w : World} {as : List Addr} {cs : List Obj} {D U : Nat} {T : BT}
theorem con_imod {a b r : Int} {t u : Tok} (hb : b ≠ 0) (h : a.fmod b = r) : Con w T as (.call (.builtin "int.__mod__") ⟨[.int a t,.int b u],[]⟩) cs (xP fun f=>.int r (f 0)) D U:=by
 subst h
 refine con_gives F.slot_int_mod (fun s=>typeIs_int s a t) F.entry_int_mod (F.args_int_mod_2 _ _) (AutoIntG6.int___mod___int_int_1 a t b u (by simpa using hb)) ?_
 intro h₀ s R
 exact told_at s.toks _ rfl R
theorem con_idiv {a b r : Int} {t u : Tok} (hb : b ≠ 0) (hp : Builtin.divisionGoesByPylong a b = false) (h : a.fdiv b = r) : Con w T as (.call (.builtin "int.__floordiv__") ⟨[.int a t,.int b u],[]⟩) cs (xP fun f=>.int r (f 0)) D U:=by
 subst h
 refine con_gives F.slot_int_floordiv (fun s=>typeIs_int s a t) F.entry_int_floordiv (F.args_int_floordiv_2 _ _) (AutoIntG4.int___floordiv___int_int_1 a t b u (by simpa using hb) (by rw [hp]; decide)) ?_
 intro h₀ s R
 exact told_at s.toks _ rfl R
theorem con_sget {x : Str} {i : Int} {c : Nat} {t u : Tok} (hr : (decide (i < -(2 ^ 63 : Int)) || decide (i ≥ 2 ^ 63)) = false) (h : (seqIndex? i x.length).bind (x.cps[·]?) = some c) : Con w T as (.call (.builtin "str.__getitem__") ⟨[.str x t,.int i u],[]⟩) cs (xP fun f=>.str ⟨⟨[c]⟩⟩ (f 0)) D U:=by
 refine con_gives F.slot_str_getitem (fun s=>typeIs_str s x t) F.entry_str_getitem (F.args_str_getitem_2 _ _) (gives_str_getitem x i t u c hr h) ?_
 intro h₀ s R
 exact ⟨by show 1 ≤ sizeLine; decide +kernel,told_at s.toks _ rfl R⟩
theorem fmod_nat (n m : Nat) : (n : Int).fmod (m : Int) = ((n % m : Nat) : Int):=by
 rw [Int.fmod_eq_emod_of_nonneg _ (by omega)]; rfl
theorem fdiv_nat (n m : Nat) : (n : Int).fdiv (m : Int) = ((n / m : Nat) : Int):=by
 rw [Int.fdiv_eq_ediv_of_nonneg _ (by omega)]; rfl
noncomputable def wdL : List Nat:=[nat_lit 98,nat_lit 55,nat_lit 95,nat_lit 126,nat_lit 45,nat_lit 46,nat_lit 47,nat_lit 42,nat_lit 63,nat_lit 61,nat_lit 233,nat_lit 223]
noncomputable def sgN (n : Nat) : List Nat:=match n % 16 with
 | 0=>[39] | 1=>[34] | 2=>[92] | 3=>[32] | 4=>[10] | 5=>[97] | 6=>[59] | 7=>[124] | 8=>[35] | 9=>[9]
 | 10=>[opsL.getD (n / 16 % 7) 0] | 11=>[wdL.getD (n / 16 % 12) 0] | 12=>[13] | 13=>[34] | 14=>[] | _=>[97]
theorem no16 : ∀ r < 16,¬(r ≠ 0 ∧ r ≠ 1 ∧ r ≠ 2 ∧ r ≠ 3 ∧ r ≠ 4 ∧ r ≠ 5 ∧ r ≠ 6 ∧ r ≠ 7 ∧ r ≠ 8 ∧ r ≠ 9 ∧ r ≠ 12 ∧ r ≠ 13 ∧ r ≠ 14 ∧ r ≠ 15 ∧ r ≠ 10 ∧ r ≠ 11):=by decide
theorem sg_con (n : Nat) (xT : Tok) (hD : D < recursionLimit) : Con w 'c' [] (.call (.ref 748) ⟨[.int (n : Int) xT],[]⟩) [] (xP fun f=>.str (mkS (sgN n)) (f 0)) D U:=by
 intro A h₀ s h1 h2 hh X R
 refine sg_call (n : Int) xT (Nat.lt_of_le_of_lt h1 hD) hh X R ?_
 intro L k s1 R1 S1
 rw [tw_execs]
 have hm : ∀ {r : Nat} {as : List Addr} {cs : List Obj} {u : Tok} {D U : Nat},n % 16 = r->Con w (Tf w.params) as (.call (.builtin "int.__mod__") ⟨[.int (n : Int) xT,.int (.ofNat 16) u],[]⟩) cs (xP fun f=>.int (.ofNat r) (f 0)) D U:=fun h=>con_imod (by decide) (by rw [show (Int.ofNat 16) = ((16 : Nat) : Int) from rfl,fmod_nat,h]; rfl)
 have hk : n % 16 < 16:=Nat.mod_lt _ (by decide)
 generalize hr : n % 16 = r at hk
 by_cases e0 : r = 0
 ·have hs : sgN n = [39]:=by unfold sgN; rw [hr,e0]; rfl
  rw [hs]
  refine (sgw_0 w.params n xT L k).sound X R1 hh 'a' (fun _ _=>all_cons (fun _ _=>hm (hr.trans e0)) all_nil) ?_
  intro ad tk s2 R2 S2
  exact ⟨ad,fun _=>tk 12,rfl,R2.pick [] (by decide) (by simp),S1.trans S2⟩
 by_cases e1 : r = 1
 ·have hs : sgN n = [34]:=by unfold sgN; rw [hr,e1]; rfl
  rw [hs]
  refine (sgw_1 w.params n xT L k).sound X R1 hh 'a' (fun _ _=>all_cons (fun _ _=>hm (hr.trans e1)) all_nil) ?_
  intro ad tk s2 R2 S2
  exact ⟨ad,fun _=>tk 13,rfl,R2.pick [] (by decide) (by simp),S1.trans S2⟩
 by_cases e2 : r = 2
 ·have hs : sgN n = [92]:=by unfold sgN; rw [hr,e2]; rfl
  rw [hs]
  refine (sgw_2 w.params n xT L k).sound X R1 hh 'a' (fun _ _=>all_cons (fun _ _=>hm (hr.trans e2)) all_nil) ?_
  intro ad tk s2 R2 S2
  exact ⟨ad,fun _=>tk 14,rfl,R2.pick [] (by decide) (by simp),S1.trans S2⟩
 by_cases e3 : r = 3
 ·have hs : sgN n = [32]:=by unfold sgN; rw [hr,e3]; rfl
  rw [hs]
  refine (sgw_3 w.params n xT L k).sound X R1 hh 'a' (fun _ _=>all_cons (fun _ _=>hm (hr.trans e3)) all_nil) ?_
  intro ad tk s2 R2 S2
  exact ⟨ad,fun _=>tk 15,rfl,R2.pick [] (by decide) (by simp),S1.trans S2⟩
 by_cases e4 : r = 4
 ·have hs : sgN n = [10]:=by unfold sgN; rw [hr,e4]; rfl
  rw [hs]
  refine (sgw_4 w.params n xT L k).sound X R1 hh 'a' (fun _ _=>all_cons (fun _ _=>hm (hr.trans e4)) all_nil) ?_
  intro ad tk s2 R2 S2
  exact ⟨ad,fun _=>tk 16,rfl,R2.pick [] (by decide) (by simp),S1.trans S2⟩
 by_cases e5 : r = 5
 ·have hs : sgN n = [97]:=by unfold sgN; rw [hr,e5]; rfl
  rw [hs]
  refine (sgw_5 w.params n xT L k).sound X R1 hh 'a' (fun _ _=>all_cons (fun _ _=>hm (hr.trans e5)) all_nil) ?_
  intro ad tk s2 R2 S2
  exact ⟨ad,fun _=>tk 17,rfl,R2.pick [] (by decide) (by simp),S1.trans S2⟩
 by_cases e6 : r = 6
 ·have hs : sgN n = [59]:=by unfold sgN; rw [hr,e6]; rfl
  rw [hs]
  refine (sgw_6 w.params n xT L k).sound X R1 hh 'a' (fun _ _=>all_cons (fun _ _=>hm (hr.trans e6)) all_nil) ?_
  intro ad tk s2 R2 S2
  exact ⟨ad,fun _=>tk 18,rfl,R2.pick [] (by decide) (by simp),S1.trans S2⟩
 by_cases e7 : r = 7
 ·have hs : sgN n = [124]:=by unfold sgN; rw [hr,e7]; rfl
  rw [hs]
  refine (sgw_7 w.params n xT L k).sound X R1 hh 'a' (fun _ _=>all_cons (fun _ _=>hm (hr.trans e7)) all_nil) ?_
  intro ad tk s2 R2 S2
  exact ⟨ad,fun _=>tk 19,rfl,R2.pick [] (by decide) (by simp),S1.trans S2⟩
 by_cases e8 : r = 8
 ·have hs : sgN n = [35]:=by unfold sgN; rw [hr,e8]; rfl
  rw [hs]
  refine (sgw_8 w.params n xT L k).sound X R1 hh 'a' (fun _ _=>all_cons (fun _ _=>hm (hr.trans e8)) all_nil) ?_
  intro ad tk s2 R2 S2
  exact ⟨ad,fun _=>tk 20,rfl,R2.pick [] (by decide) (by simp),S1.trans S2⟩
 by_cases e9 : r = 9
 ·have hs : sgN n = [9]:=by unfold sgN; rw [hr,e9]; rfl
  rw [hs]
  refine (sgw_9 w.params n xT L k).sound X R1 hh 'a' (fun _ _=>all_cons (fun _ _=>hm (hr.trans e9)) all_nil) ?_
  intro ad tk s2 R2 S2
  exact ⟨ad,fun _=>tk 21,rfl,R2.pick [] (by decide) (by simp),S1.trans S2⟩
 by_cases e12 : r = 12
 ·have hs : sgN n = [13]:=by unfold sgN; rw [hr,e12]; rfl
  rw [hs]
  refine (sgw_12 w.params n xT L k).sound X R1 hh 'a' (fun _ _=>all_cons (fun _ _=>hm (hr.trans e12)) all_nil) ?_
  intro ad tk s2 R2 S2
  exact ⟨ad,fun _=>tk 24,rfl,R2.pick [] (by decide) (by simp),S1.trans S2⟩
 by_cases e13 : r = 13
 ·have hs : sgN n = [34]:=by unfold sgN; rw [hr,e13]; rfl
  rw [hs]
  refine (sgw_13 w.params n xT L k).sound X R1 hh 'a' (fun _ _=>all_cons (fun _ _=>hm (hr.trans e13)) all_nil) ?_
  intro ad tk s2 R2 S2
  exact ⟨ad,fun _=>tk 25,rfl,R2.pick [] (by decide) (by simp),S1.trans S2⟩
 by_cases e14 : r = 14
 ·have hs : sgN n = []:=by unfold sgN; rw [hr,e14]; rfl
  rw [hs]
  refine (sgw_14 w.params n xT L k).sound X R1 hh 'a' (fun _ _=>all_cons (fun _ _=>hm (hr.trans e14)) all_nil) ?_
  intro ad tk s2 R2 S2
  exact ⟨ad,fun _=>tk 26,rfl,R2.pick [] (by decide) (by simp),S1.trans S2⟩
 by_cases e15 : r = 15
 ·have hs : sgN n = [97]:=by unfold sgN; rw [hr,e15]; rfl
  rw [hs]
  refine (sgw_15 w.params n xT L k).sound X R1 hh 'a' (fun _ _=>all_cons (fun _ _=>hm (hr.trans e15)) all_nil) ?_
  intro ad tk s2 R2 S2
  exact ⟨ad,fun _=>tk 27,rfl,R2.pick [] (by decide) (by simp),S1.trans S2⟩
 by_cases e10 : r = 10
 ·obtain ⟨j,hj⟩ : ∃ j,n / 16 % 7 = j:=⟨_,rfl⟩
  have hj7 : j < 7:=hj ▸ Nat.mod_lt _ (by decide)
  have hs : sgN n = [opsL.getD j 0]:=by unfold sgN; rw [hr,e10,← hj]; rfl
  rw [hs]
  have hg : ∀ {t u : Tok} {as : List Addr} {cs : List Obj} {D U : Nat},Con w (Tf w.params) as (.call (.builtin "str.__getitem__") ⟨[.str ⟨⟨opsL⟩⟩ t,.int (j : Int) u],[]⟩) cs (xP fun f=>.str ⟨⟨[opsL.getD j 0]⟩⟩ (f 0)) D U:=by
   intro t u as cs D U
   refine con_sget (by simp; omega) ?_
   have : ∀ j < 7,(seqIndex? ((j : Nat) : Int) (⟨⟨opsL⟩⟩ : Str).length).bind ((⟨⟨opsL⟩⟩ : Str).cps[·]?) = some (opsL.getD j 0):=by decide +kernel
   exact this j hj7
  refine (sgw_10 w.params n xT L k ((n / 16 : Nat) : Int) (j : Int) (opsL.getD j 0)).sound X R1 hh (fun _ _=>rfl) (fun _ _=>all_cons (fun _ _=>hm (hr.trans e10)) (all_cons (fun _ _=>con_idiv (by decide) (PyProof.noPylong_small (by decide)) (fdiv_nat n 16)) (all_cons (fun _ _=>con_imod (by decide) (by rw [show (Int.ofNat 7) = ((7 : Nat) : Int) from rfl,fmod_nat,hj])) (all_cons (fun _ _=>hg) all_nil)))) ?_
  intro ad tk s2 R2 S2
  exact ⟨ad,fun _=>tk 30,rfl,R2.pick [] (by decide) (by simp),S1.trans S2⟩
 by_cases e11 : r = 11
 ·obtain ⟨j,hj⟩ : ∃ j,n / 16 % 12 = j:=⟨_,rfl⟩
  have hj7 : j < 12:=hj ▸ Nat.mod_lt _ (by decide)
  have hs : sgN n = [wdL.getD j 0]:=by unfold sgN; rw [hr,e11,← hj]; rfl
  rw [hs]
  have hg : ∀ {t u : Tok} {as : List Addr} {cs : List Obj} {D U : Nat},Con w (Tf w.params) as (.call (.builtin "str.__getitem__") ⟨[.str ⟨⟨wdL⟩⟩ t,.int (j : Int) u],[]⟩) cs (xP fun f=>.str ⟨⟨[wdL.getD j 0]⟩⟩ (f 0)) D U:=by
   intro t u as cs D U
   refine con_sget (by simp; omega) ?_
   have : ∀ j < 12,(seqIndex? ((j : Nat) : Int) (⟨⟨wdL⟩⟩ : Str).length).bind ((⟨⟨wdL⟩⟩ : Str).cps[·]?) = some (wdL.getD j 0):=by decide +kernel
   exact this j hj7
  refine (sgw_11 w.params n xT L k ((n / 16 : Nat) : Int) (j : Int) (wdL.getD j 0)).sound X R1 hh (fun _ _=>rfl) (fun _ _=>all_cons (fun _ _=>hm (hr.trans e11)) (all_cons (fun _ _=>con_idiv (by decide) (PyProof.noPylong_small (by decide)) (fdiv_nat n 16)) (all_cons (fun _ _=>con_imod (by decide) (by rw [show (Int.ofNat 12) = ((12 : Nat) : Int) from rfl,fmod_nat,hj])) (all_cons (fun _ _=>hg) all_nil)))) ?_
  intro ad tk s2 R2 S2
  exact ⟨ad,fun _=>tk 31,rfl,R2.pick [] (by decide) (by simp),S1.trans S2⟩
 exact absurd ⟨e0,e1,e2,e3,e4,e5,e6,e7,e8,e9,e12,e13,e14,e15,e10,e11⟩ (no16 r hk)
end
section
open PySem PySem.W PySem.W.X PyProof.Rows
variable {w : World} {A : Around} {h₀ : Heap} {s : Shared} {R : Result->Shared->Prop}
section
variable (P : Params) (u : Nat->Tok) (tx : Str) (tT : Tok) (p : Nat->Tok) (pt L : Addr) (ad : Nat->Addr) (tk : Nat->Tok) (y : Addr) (vs : List Value) (n : Nat) (z : Str) (ad0 : Nat->Addr) (tk0 : Nat->Tok)
noncomputable def rpf : Obj:=frm [zE P a253 (u 0) tx tT,en P a254 (u 1) (.ref pt)] 2
noncomputable def prV (p : Nat->Tok) : List Value:=[.str s!"(" (p 0),.str s!" ( " (p 1),.str s!")" (p 2),.str s!" ) " (p 3),.str s!";" (p 4),.str s!" ; " (p 5),.str s!"<" (p 6),.str s!" < " (p 7),.str s!">" (p 8),.str s!" > " (p 9),.str s!"|" (p 10),.str s!" | " (p 11),.str s!"&" (p 12),.str s!" & " (p 13)]
noncomputable abbrev y23 (p0 : Nat->Tok) : List Value:=[(.str s!"(" (p0 0)),(.str s!" ( " (p0 1)),(.str s!")" (p0 2)),(.str s!" ) " (p0 3)),(.str s!";" (p0 4)),(.str s!" ; " (p0 5)),(.str s!"<" (p0 6)),(.str s!" < " (p0 7)),(.str s!">" (p0 8)),(.str s!" > " (p0 9)),(.str s!"|" (p0 10)),(.str s!" | " (p0 11)),(.str s!"&" (p0 12)),(.str s!" & " (p0 13))]
theorem rpl_b : Lf P (Tf P) [] [] [] (zBA fd46 ⟨[.str tx tT,.str s!"(" (p 0),.str s!" ( " (p 1),.str s!")" (p 2),.str s!" ) " (p 3),.str s!";" (p 4),.str s!" ; " (p 5),.str s!"<" (p 6),.str s!" < " (p 7),.str s!">" (p 8),.str s!" > " (p 9),.str s!"|" (p 10),.str s!" | " (p 11),.str s!"&" (p 12),.str s!" & " (p 13)],[]⟩) 1 zve (fun ad tk=>[(zQ zt23 (y23 p))]) (fun ad tk=>(.val [(a253,(.str tx tT)),(a254,(.ref (ad 0)))])):=.mk' 4 0 (by kernel_rfl)
theorem rpl_e (P : Params) (tx : Str) (tT : Tok) (p : 'f') (ad0 : Nat->Addr) (tk0 : 'f') : Lf P (Tf P) [(ad0 0)] [(zQ zt23 (y23 p))] [] (zNE fd46 46 [(a253,(.str tx tT)),(a254,(.ref (ad0 0)))]) 1 zve (fun ad tk=>[((zQ zt23 (y23 p))),(zD zt98 [zE P a253 (tk 0) tx tT,en P a254 (tk 1) (.ref (ad0 0))] 2)]) (fun ad tk=>(.val (env46 (ad 0)))):=.mk' 12 33686018 (by kernel_rfl)
noncomputable def rpl_fr (P : Params) (tx : Str) (tT : Tok) (p : Nat->Tok) (ad0 : Nat->Addr) (tk0 : Nat->Tok) (tk : Nat->Tok) : Obj:=(zD zt98 [zE P a253 (tk 0) tx tT,en P a254 (tk 1) (.ref (ad0 0))] 2)
theorem rpl_call (tx : Str) (tT : Tok) (p : 'f') (hD : A.depth < recursionLimit) (hh : 'g') (X : 'r') (Rp : Rep h₀ [] [] s.heap)
  (h : ∀ ad0 tk0 L tk s',Rep h₀ ([(ad0 0)] ++ [L]) ([⟨(.type SL.s2766695959194262286x5),none,(.seq ⟨[(.str ⟨⟨[nat_lit 40]⟩⟩ (p 0)),(.str ⟨⟨[nat_lit 32,nat_lit 40,nat_lit 32]⟩⟩ (p 1)),(.str ⟨⟨[nat_lit 41]⟩⟩ (p 2)),(.str ⟨⟨[nat_lit 32,nat_lit 41,nat_lit 32]⟩⟩ (p 3)),(.str ⟨⟨[nat_lit 59]⟩⟩ (p 4)),(.str ⟨⟨[nat_lit 32,nat_lit 59,nat_lit 32]⟩⟩ (p 5)),(.str ⟨⟨[nat_lit 60]⟩⟩ (p 6)),(.str ⟨⟨[nat_lit 32,nat_lit 60,nat_lit 32]⟩⟩ (p 7)),(.str ⟨⟨[nat_lit 62]⟩⟩ (p 8)),(.str ⟨⟨[nat_lit 32,nat_lit 62,nat_lit 32]⟩⟩ (p 9)),(.str ⟨⟨[nat_lit 124]⟩⟩ (p 10)),(.str ⟨⟨[nat_lit 32,nat_lit 124,nat_lit 32]⟩⟩ (p 11)),(.str ⟨⟨[nat_lit 38]⟩⟩ (p 12)),(.str ⟨⟨[nat_lit 32,nat_lit 38,nat_lit 32]⟩⟩ (p 13))]⟩ 0),⟨[]⟩⟩] ++ [rpl_fr w.params tx tT p ad0 tk0 tk]) s'.heap->Same s s'->WP w (A.deeper (env46 L)) (execs body46 (env46 L)) (fun fl s''=>R (.ok (.ret (retV fl))) s'')
   (fun e s''=>WP w (A.deeper (env46 L)) (leaving (env46 L) e) (fun _ s3=>R (.error e) s3) (fun e' s3=>R (.error e') s3) s'') s') :
  CA w A (.call (.ref 46) ⟨[.str tx tT,.str ⟨⟨[nat_lit 40]⟩⟩ (p 0),.str ⟨⟨[nat_lit 32,nat_lit 40,nat_lit 32]⟩⟩ (p 1),.str ⟨⟨[nat_lit 41]⟩⟩ (p 2),.str ⟨⟨[nat_lit 32,nat_lit 41,nat_lit 32]⟩⟩ (p 3),.str ⟨⟨[nat_lit 59]⟩⟩ (p 4),.str ⟨⟨[nat_lit 32,nat_lit 59,nat_lit 32]⟩⟩ (p 5),.str ⟨⟨[nat_lit 60]⟩⟩ (p 6),.str ⟨⟨[nat_lit 32,nat_lit 60,nat_lit 32]⟩⟩ (p 7),.str ⟨⟨[nat_lit 62]⟩⟩ (p 8),.str ⟨⟨[nat_lit 32,nat_lit 62,nat_lit 32]⟩⟩ (p 9),.str ⟨⟨[nat_lit 124]⟩⟩ (p 10),.str ⟨⟨[nat_lit 32,nat_lit 124,nat_lit 32]⟩⟩ (p 11),.str ⟨⟨[nat_lit 38]⟩⟩ (p 12),.str ⟨⟨[nat_lit 32,nat_lit 38,nat_lit 32]⟩⟩ (p 13)],[]⟩) R s :=
 fn_call2 (k:=1) (fun ad0 tk0=>[⟨(.type SL.s2766695959194262286x5),none,(.seq ⟨[(.str ⟨⟨[nat_lit 40]⟩⟩ (p 0)),(.str ⟨⟨[nat_lit 32,nat_lit 40,nat_lit 32]⟩⟩ (p 1)),(.str ⟨⟨[nat_lit 41]⟩⟩ (p 2)),(.str ⟨⟨[nat_lit 32,nat_lit 41,nat_lit 32]⟩⟩ (p 3)),(.str ⟨⟨[nat_lit 59]⟩⟩ (p 4)),(.str ⟨⟨[nat_lit 32,nat_lit 59,nat_lit 32]⟩⟩ (p 5)),(.str ⟨⟨[nat_lit 60]⟩⟩ (p 6)),(.str ⟨⟨[nat_lit 32,nat_lit 60,nat_lit 32]⟩⟩ (p 7)),(.str ⟨⟨[nat_lit 62]⟩⟩ (p 8)),(.str ⟨⟨[nat_lit 32,nat_lit 62,nat_lit 32]⟩⟩ (p 9)),(.str ⟨⟨[nat_lit 124]⟩⟩ (p 10)),(.str ⟨⟨[nat_lit 32,nat_lit 124,nat_lit 32]⟩⟩ (p 11)),(.str ⟨⟨[nat_lit 38]⟩⟩ (p 12)),(.str ⟨⟨[nat_lit 32,nat_lit 38,nat_lit 32]⟩⟩ (p 13))]⟩ 0),⟨[]⟩⟩]) (fun ad0 tk0=>[(a253,(.str tx tT)),(a254,(.ref (ad0 0)))]) (rpl_fr w.params tx tT p) env46 hD hh X Rp (top46 w.params) rfl rfl co46 ge46 rfl (cr46 w.params) (rpl_b w.params tx tT p) (rpl_e w.params tx tT p) h
noncomputable abbrev y43:=sTest (sNth body46 0)
theorem rplT0 : Lf P (Tf P) [L,pt] [rpf P u tx tT pt,tpO ((prV p).drop 0)] [] (zIT y43 (env46 L) (zEV y43 (env46 L))) 0 zve (fun ad tk=>[(rpf P u tx tT pt),(tpO ((prV p).drop 0))]) (fun ad tk=>(.val true)):=.mk' 19 36894051105962590721 (by kernel_rfl)
noncomputable abbrev y46:=sBody (sNth body46 0)
noncomputable def rplA0_q : Option (RR Flow):=run denF ⟨pw,P⟩ (Tf P) [L,pt] ad tk 35 22040088915853937073310069348355533088883201 [] [rpf P u tx tT pt,tpO ((prV p).drop 0)] 0 0 none (.base (zEX y46 (env46 L)))
theorem rplA0 : Lf P (Tf P) [L,pt] [rpf P u tx tT pt,tpO ((prV p).drop 0)] [] (zEX y46 (env46 L)) 0 zve (fun ad tk=>[(rpf P u tx tT pt),(tpO ((prV p).drop 0))]) (fun ad tk=>(.cut (zB zb20 [(.str tx tT),(.str s!"(" (p 0))]) 0 none (ttOf (rplA0_q P u tx tT p pt L ad tk)))):=.mk' 35 22040088915853937073310069348355533088883201 (by kernel_rfl)
noncomputable abbrev y81 (p0 : Nat->Tok):=[(zI 2 (p0 9)),.none,.none]
theorem rplB0 : LfT P (Tf P) [L,pt,y] [rpf P u tx tT pt,tpO ((prV p).drop 0),lst vs n] [(y38 z)] (ttOf (rplA0_q P u tx tT p pt L ad0 tk0) (.ok (.ret (.ref y)))) 2 (fun ad tk=>[⟨(zB zb21 [(.str s!" ( " (p 1)),(.ref y)]),0,[(rpf P u tx tT pt),(tpO ((prV p).drop 0)),(lst vs n)],0,0,(y38 z)⟩]) (fun ad tk=>[(sv (sv (rpf P u tx tT pt) 0 (.str z (tk 0))) 1 (.ref (ad 1))),(tpO ((prV p).drop 0)),(lst vs n),(zF zt19 (y81 tk)),(zQ zt23 [(.str s!")" (p 2)),(.str s!" ) " (p 3)),(.str s!";" (p 4)),(.str s!" ; " (p 5)),(.str s!"<" (p 6)),(.str s!" < " (p 7)),(.str s!">" (p 8)),(.str s!" > " (p 9)),(.str s!"|" (p 10)),(.str s!" | " (p 11)),(.str s!"&" (p 12)),(.str s!" & " (p 13))])]) zvn:=.mk' 41 341632445551948941238350245478797476351 (by kernel_rfl)
theorem rplT1 : Lf P (Tf P) [L,pt] [rpf P u tx tT pt,tpO ((prV p).drop 2)] [] (zIT y43 (env46 L) (zEV y43 (env46 L))) 0 zve (fun ad tk=>[(rpf P u tx tT pt),(tpO ((prV p).drop 2))]) (fun ad tk=>(.val true)):=.mk' 19 36894051105962590721 (by kernel_rfl)
noncomputable def rplA1_q : Option (RR Flow):=run denF ⟨pw,P⟩ (Tf P) [L,pt] ad tk 35 22040088915853937073310069348355533088883201 [] [rpf P u tx tT pt,tpO ((prV p).drop 2)] 0 0 none (.base (zEX y46 (env46 L)))
theorem rplA1 : Lf P (Tf P) [L,pt] [rpf P u tx tT pt,tpO ((prV p).drop 2)] [] (zEX y46 (env46 L)) 0 zve (fun ad tk=>[(rpf P u tx tT pt),(tpO ((prV p).drop 2))]) (fun ad tk=>(.cut (zB zb20 [(.str tx tT),(.str s!")" (p 2))]) 0 none (ttOf (rplA1_q P u tx tT p pt L ad tk)))):=.mk' 35 22040088915853937073310069348355533088883201 (by kernel_rfl)
theorem rplB1 : LfT P (Tf P) [L,pt,y] [rpf P u tx tT pt,tpO ((prV p).drop 2),lst vs n] [(y38 z)] (ttOf (rplA1_q P u tx tT p pt L ad0 tk0) (.ok (.ret (.ref y)))) 2 (fun ad tk=>[⟨(zB zb21 [(.str s!" ) " (p 3)),(.ref y)]),0,[(rpf P u tx tT pt),(tpO ((prV p).drop 2)),(lst vs n)],0,0,(y38 z)⟩]) (fun ad tk=>[(sv (sv (rpf P u tx tT pt) 0 (.str z (tk 0))) 1 (.ref (ad 1))),(tpO ((prV p).drop 2)),(lst vs n),(zF zt19 (y81 tk)),(zQ zt23 [(.str s!";" (p 4)),(.str s!" ; " (p 5)),(.str s!"<" (p 6)),(.str s!" < " (p 7)),(.str s!">" (p 8)),(.str s!" > " (p 9)),(.str s!"|" (p 10)),(.str s!" | " (p 11)),(.str s!"&" (p 12)),(.str s!" & " (p 13))])]) zvn:=.mk' 41 341632445551948941238350245478797476351 (by kernel_rfl)
theorem rplT2 : Lf P (Tf P) [L,pt] [rpf P u tx tT pt,tpO ((prV p).drop 4)] [] (zIT y43 (env46 L) (zEV y43 (env46 L))) 0 zve (fun ad tk=>[(rpf P u tx tT pt),(tpO ((prV p).drop 4))]) (fun ad tk=>(.val true)):=.mk' 19 36894051105962590721 (by kernel_rfl)
noncomputable def rplA2_q : Option (RR Flow):=run denF ⟨pw,P⟩ (Tf P) [L,pt] ad tk 35 22040088915853937073310069348355533088883201 [] [rpf P u tx tT pt,tpO ((prV p).drop 4)] 0 0 none (.base (zEX y46 (env46 L)))
theorem rplA2 : Lf P (Tf P) [L,pt] [rpf P u tx tT pt,tpO ((prV p).drop 4)] [] (zEX y46 (env46 L)) 0 zve (fun ad tk=>[(rpf P u tx tT pt),(tpO ((prV p).drop 4))]) (fun ad tk=>(.cut (zB zb20 [(.str tx tT),(.str s!";" (p 4))]) 0 none (ttOf (rplA2_q P u tx tT p pt L ad tk)))):=.mk' 35 22040088915853937073310069348355533088883201 (by kernel_rfl)
theorem rplB2 : LfT P (Tf P) [L,pt,y] [rpf P u tx tT pt,tpO ((prV p).drop 4),lst vs n] [(y38 z)] (ttOf (rplA2_q P u tx tT p pt L ad0 tk0) (.ok (.ret (.ref y)))) 2 (fun ad tk=>[⟨(zB zb21 [(.str s!" ; " (p 5)),(.ref y)]),0,[(rpf P u tx tT pt),(tpO ((prV p).drop 4)),(lst vs n)],0,0,(y38 z)⟩]) (fun ad tk=>[(sv (sv (rpf P u tx tT pt) 0 (.str z (tk 0))) 1 (.ref (ad 1))),(tpO ((prV p).drop 4)),(lst vs n),(zF zt19 (y81 tk)),(zQ zt23 [(.str s!"<" (p 6)),(.str s!" < " (p 7)),(.str s!">" (p 8)),(.str s!" > " (p 9)),(.str s!"|" (p 10)),(.str s!" | " (p 11)),(.str s!"&" (p 12)),(.str s!" & " (p 13))])]) zvn:=.mk' 41 341632445551948941238350245478797476351 (by kernel_rfl)
theorem rplT3 : Lf P (Tf P) [L,pt] [rpf P u tx tT pt,tpO ((prV p).drop 6)] [] (zIT y43 (env46 L) (zEV y43 (env46 L))) 0 zve (fun ad tk=>[(rpf P u tx tT pt),(tpO ((prV p).drop 6))]) (fun ad tk=>(.val true)):=.mk' 19 36894051105962590721 (by kernel_rfl)
noncomputable def rplA3_q : Option (RR Flow):=run denF ⟨pw,P⟩ (Tf P) [L,pt] ad tk 35 22040088915853937073310069348355533088883201 [] [rpf P u tx tT pt,tpO ((prV p).drop 6)] 0 0 none (.base (zEX y46 (env46 L)))
theorem rplA3 : Lf P (Tf P) [L,pt] [rpf P u tx tT pt,tpO ((prV p).drop 6)] [] (zEX y46 (env46 L)) 0 zve (fun ad tk=>[(rpf P u tx tT pt),(tpO ((prV p).drop 6))]) (fun ad tk=>(.cut (zB zb20 [(.str tx tT),(.str s!"<" (p 6))]) 0 none (ttOf (rplA3_q P u tx tT p pt L ad tk)))):=.mk' 35 22040088915853937073310069348355533088883201 (by kernel_rfl)
theorem rplB3 : LfT P (Tf P) [L,pt,y] [rpf P u tx tT pt,tpO ((prV p).drop 6),lst vs n] [(y38 z)] (ttOf (rplA3_q P u tx tT p pt L ad0 tk0) (.ok (.ret (.ref y)))) 2 (fun ad tk=>[⟨(zB zb21 [(.str s!" < " (p 7)),(.ref y)]),0,[(rpf P u tx tT pt),(tpO ((prV p).drop 6)),(lst vs n)],0,0,(y38 z)⟩]) (fun ad tk=>[(sv (sv (rpf P u tx tT pt) 0 (.str z (tk 0))) 1 (.ref (ad 1))),(tpO ((prV p).drop 6)),(lst vs n),(zF zt19 (y81 tk)),(zQ zt23 [(.str s!">" (p 8)),(.str s!" > " (p 9)),(.str s!"|" (p 10)),(.str s!" | " (p 11)),(.str s!"&" (p 12)),(.str s!" & " (p 13))])]) zvn:=.mk' 41 341632445551948941238350245478797476351 (by kernel_rfl)
theorem rplT4 : Lf P (Tf P) [L,pt] [rpf P u tx tT pt,tpO ((prV p).drop 8)] [] (zIT y43 (env46 L) (zEV y43 (env46 L))) 0 zve (fun ad tk=>[(rpf P u tx tT pt),(tpO ((prV p).drop 8))]) (fun ad tk=>(.val true)):=.mk' 19 36894051105962590721 (by kernel_rfl)
noncomputable def rplA4_q : Option (RR Flow):=run denF ⟨pw,P⟩ (Tf P) [L,pt] ad tk 35 22040088915853937073310069348355533088883201 [] [rpf P u tx tT pt,tpO ((prV p).drop 8)] 0 0 none (.base (zEX y46 (env46 L)))
theorem rplA4 : Lf P (Tf P) [L,pt] [rpf P u tx tT pt,tpO ((prV p).drop 8)] [] (zEX y46 (env46 L)) 0 zve (fun ad tk=>[(rpf P u tx tT pt),(tpO ((prV p).drop 8))]) (fun ad tk=>(.cut (zB zb20 [(.str tx tT),(.str s!">" (p 8))]) 0 none (ttOf (rplA4_q P u tx tT p pt L ad tk)))):=.mk' 35 22040088915853937073310069348355533088883201 (by kernel_rfl)
theorem rplB4 : LfT P (Tf P) [L,pt,y] [rpf P u tx tT pt,tpO ((prV p).drop 8),lst vs n] [(y38 z)] (ttOf (rplA4_q P u tx tT p pt L ad0 tk0) (.ok (.ret (.ref y)))) 2 (fun ad tk=>[⟨(zB zb21 [(.str s!" > " (p 9)),(.ref y)]),0,[(rpf P u tx tT pt),(tpO ((prV p).drop 8)),(lst vs n)],0,0,(y38 z)⟩]) (fun ad tk=>[(sv (sv (rpf P u tx tT pt) 0 (.str z (tk 0))) 1 (.ref (ad 1))),(tpO ((prV p).drop 8)),(lst vs n),(zF zt19 (y81 tk)),(zQ zt23 [(.str s!"|" (p 10)),(.str s!" | " (p 11)),(.str s!"&" (p 12)),(.str s!" & " (p 13))])]) zvn:=.mk' 41 341632445551948941238350245478797476351 (by kernel_rfl)
theorem rplT5 : Lf P (Tf P) [L,pt] [rpf P u tx tT pt,tpO ((prV p).drop 10)] [] (zIT y43 (env46 L) (zEV y43 (env46 L))) 0 zve (fun ad tk=>[(rpf P u tx tT pt),(tpO ((prV p).drop 10))]) (fun ad tk=>(.val true)):=.mk' 19 36894051105962590721 (by kernel_rfl)
noncomputable def rplA5_q : Option (RR Flow):=run denF ⟨pw,P⟩ (Tf P) [L,pt] ad tk 35 22040088915853937073310069348355533088883201 [] [rpf P u tx tT pt,tpO ((prV p).drop 10)] 0 0 none (.base (zEX y46 (env46 L)))
theorem rplA5 : Lf P (Tf P) [L,pt] [rpf P u tx tT pt,tpO ((prV p).drop 10)] [] (zEX y46 (env46 L)) 0 zve (fun ad tk=>[(rpf P u tx tT pt),(tpO ((prV p).drop 10))]) (fun ad tk=>(.cut (zB zb20 [(.str tx tT),(.str s!"|" (p 10))]) 0 none (ttOf (rplA5_q P u tx tT p pt L ad tk)))):=.mk' 35 22040088915853937073310069348355533088883201 (by kernel_rfl)
theorem rplB5 : LfT P (Tf P) [L,pt,y] [rpf P u tx tT pt,tpO ((prV p).drop 10),lst vs n] [(y38 z)] (ttOf (rplA5_q P u tx tT p pt L ad0 tk0) (.ok (.ret (.ref y)))) 2 (fun ad tk=>[⟨(zB zb21 [(.str s!" | " (p 11)),(.ref y)]),0,[(rpf P u tx tT pt),(tpO ((prV p).drop 10)),(lst vs n)],0,0,(y38 z)⟩]) (fun ad tk=>[(sv (sv (rpf P u tx tT pt) 0 (.str z (tk 0))) 1 (.ref (ad 1))),(tpO ((prV p).drop 10)),(lst vs n),(zF zt19 (y81 tk)),(zQ zt23 [(.str s!"&" (p 12)),(.str s!" & " (p 13))])]) zvn:=.mk' 41 341632445551948941238350245478797476351 (by kernel_rfl)
theorem rplT6 : Lf P (Tf P) [L,pt] [rpf P u tx tT pt,tpO ((prV p).drop 12)] [] (zIT y43 (env46 L) (zEV y43 (env46 L))) 0 zve (fun ad tk=>[(rpf P u tx tT pt),(tpO ((prV p).drop 12))]) (fun ad tk=>(.val true)):=.mk' 19 36894051105962590721 (by kernel_rfl)
noncomputable def rplA6_q : Option (RR Flow):=run denF ⟨pw,P⟩ (Tf P) [L,pt] ad tk 35 22040088915853937073310069348355533088883201 [] [rpf P u tx tT pt,tpO ((prV p).drop 12)] 0 0 none (.base (zEX y46 (env46 L)))
theorem rplA6 : Lf P (Tf P) [L,pt] [rpf P u tx tT pt,tpO ((prV p).drop 12)] [] (zEX y46 (env46 L)) 0 zve (fun ad tk=>[(rpf P u tx tT pt),(tpO ((prV p).drop 12))]) (fun ad tk=>(.cut (zB zb20 [(.str tx tT),(.str s!"&" (p 12))]) 0 none (ttOf (rplA6_q P u tx tT p pt L ad tk)))):=.mk' 35 22040088915853937073310069348355533088883201 (by kernel_rfl)
theorem rplB6 : LfT P (Tf P) [L,pt,y] [rpf P u tx tT pt,tpO ((prV p).drop 12),lst vs n] [(y38 z)] (ttOf (rplA6_q P u tx tT p pt L ad0 tk0) (.ok (.ret (.ref y)))) 2 (fun ad tk=>[⟨(zB zb21 [(.str s!" & " (p 13)),(.ref y)]),0,[(rpf P u tx tT pt),(tpO ((prV p).drop 12)),(lst vs n)],0,0,(y38 z)⟩]) (fun ad tk=>[(sv (sv (rpf P u tx tT pt) 0 (.str z (tk 0))) 1 (.ref (ad 1))),(tpO ((prV p).drop 12)),(lst vs n),(zF zt19 (y81 tk)),(zW zt23)]) zvn:=.mk' 41 341632445551948941238350245478797476351 (by kernel_rfl)
theorem rplT7 : Lf P (Tf P) [L,pt] [rpf P u tx tT pt,tpO ((prV p).drop 14)] [] (zIT y43 (env46 L) (zEV y43 (env46 L))) 0 zve (fun ad tk=>[(rpf P u tx tT pt),(tpO ((prV p).drop 14))]) (fun ad tk=>(.val false)):=.mk' 19 36894051105962590721 (by kernel_rfl)
theorem rplX (P : Params) (u : 'f') (tx : Str) (tT : Tok) (p : 'f') (pt : Addr) (L : Addr) : Lf P (Tf P) [L] [rpf P u tx tT pt] [] (zEX (body46.drop 1) (env46 L)) 0 zve (fun ad tk=>[(rpf P u tx tT pt)]) (fun ad tk=>(.val (.ret (.str tx tT)))):=.mk' 6 1 (by kernel_rfl)
end
end
section
open PySem PySem.W PySem.W.X PyProof.Rows PySem.Builtin PySem.Builtin.Str PySem.Builtin.Int PySem.StrLaws
noncomputable def blk (c : Nat) (l : List Nat) : List Nat:=l.flatMap fun d=>if d = c then [32,c,32] else [d]
theorem blk_free (c : Nat) : ∀ l : List Nat,c ∉ l->blk c l = l
 | [],_=>rfl
 | k :: r,h=>by
  have h1 : ¬ k = c:=fun e=>h (e ▸ List.mem_cons_self ..)
  have:=blk_free c r fun m=>h (List.mem_cons_of_mem _ m)
  simp only [blk,List.flatMap_cons,if_neg h1] at this ⊢
  rw [this]; rfl
theorem blk_join (c : Nat) : ∀ parts : List Str,(∀ p ∈ parts,c ∉ p.cps.toList)->blk c (Str.join ⟨#[c]⟩ parts).cps.toList = (Str.join ⟨#[32,c,32]⟩ parts).cps.toList
 | [],_=>rfl
 | [p],h=>blk_free c _ (h p (List.mem_singleton.mpr rfl))
 | p :: q :: r,h=>by
  have ih:=blk_join c (q :: r) fun a ha=>h a (List.mem_cons_of_mem _ ha)
  show blk c (p ++ ⟨#[c]⟩ ++ Str.join ⟨#[c]⟩ (q :: r)).cps.toList = (p ++ ⟨#[32,c,32]⟩ ++ Str.join ⟨#[32,c,32]⟩ (q :: r)).cps.toList
  simp only [_root_.PySem.Str.cps_append,Array.toList_append]
  have e : ∀ a b,blk c (a ++ b) = blk c a ++ blk c b:=fun a b=>by simp [blk]
  rw [e,e,ih,blk_free c _ (h p (List.mem_cons_self ..))]
  have e1 : blk c [c] = [32,c,32]:=by simp [blk]
  show p.cps.toList ++ blk c [c] ++ _ = _
  rw [e1]
theorem blk_split (x : Str) (c : Nat) : (Str.join ⟨#[32,c,32]⟩ (Txt.split x ⟨#[c]⟩)).cps.toList = blk c x.cps.toList:=by
 rw [← blk_join c _ (split_free x c),join_split]
theorem strsAre_from : ∀ (ps : List Str) (k : Nat),StrsAre (strsFrom k ps) ps
 | [],_=>.nil
 | p :: ps,k=>.cons p k (strsAre_from ps (k + 1))
theorem strsAre_values {vs : List Value} {ts : List Str} (h : StrsAre vs ts) : ∃ l : List (Str × Tok),vs = strValues l ∧ l.map (·.1) = ts:=by
 induction h with
 | nil=>exact ⟨[],rfl,rfl⟩
 | cons y u _ ih =>
  obtain ⟨l,rfl,rfl⟩:=ih
  exact ⟨(y,u) :: l,rfl,rfl⟩
variable {w : World} {A : Around} {s : Shared} {R : Result->Shared->Prop} {as : List Addr} {cs : List Obj} {D U : Nat}
theorem split_code {x : Str} {t u : Tok} {c : Nat} (hx : x.length ≤ 1000)
  (H : ∀ vs (s' : Shared),StrsAre vs (Txt.split x ⟨#[c]⟩)->(∀ b o,s.heap.get? b = some o->s'.heap.get? b = some o)->s.heap.get? s.heap.objs.size = none->s'.heap.get? s.heap.objs.size = some (lst vs 0)->Same s s'->R (.ok (.ret (.ref s.heap.objs.size))) s') :
  CA w A (.call (.builtin "str.split") ⟨[.str x t,.str ⟨#[c]⟩ u],[]⟩) R s:=by
 have hS : (1002 : Nat) ≤ sizeLine:=by decide +kernel
 have pu : ∀ vs (k : Nat),StrsAre vs (Txt.split x ⟨#[c]⟩)->R (.ok (.ret (.ref s.heap.objs.size))) { s with toks:=k,heap:=s.heap.push (lst vs 0) }:=fun vs k hv =>
  H vs _ hv (fun b o q=>Heap.get?_push_of_some _ q) (size_none _) (Heap.get?_push_size _ rfl) ⟨rfl,rfl,rfl⟩
 have go : ∀ {S : PySem.Spec},Meets («str.split» ⟨[.str x t,.str ⟨#[c]⟩ u],[]⟩) S->S A R s->CA w A (.call (.builtin "str.split") ⟨[.str x t,.str ⟨#[c]⟩ u],[]⟩) R s:=fun m h =>
  codeAny_call_builtin F.slot_str_split.plain F.entry_str_split (F.slot_str_split.check _ _ _ _ _ _ _ _ (typeIs_str s x t) (F.args_str_split_2 _ _) (m pw w A R s h))
 have itself : Txt.split x ⟨#[c]⟩ = [x]->listOfItself x t A R s:=fun e=>pu [.str x t] s.toks (by rw [e]; exact .cons x t .nil)
 cases h1 : (decide (x.length < (⟨#[c]⟩ : Str).length) || decide (strKind x < strKind ⟨#[c]⟩)) with
 | true=>exact go (meets_str_split_cannot_occur x ⟨#[c]⟩ t u h1) (itself (by unfold Txt.split; rw [if_pos h1]))
 | false =>
  have h1' : ¬ (decide (x.length < (⟨#[c]⟩ : Str).length) || decide (strKind x < strKind ⟨#[c]⟩)) = true:=by rw [h1]; decide
  cases hf : (occurrences x ⟨#[c]⟩ 0 x.length (x.length + 1)).isEmpty with
  | true=>exact go (meets_str_split_not_found x ⟨#[c]⟩ t u h1 rfl hf) (itself (by unfold Txt.split; rw [if_neg h1',if_pos hf]))
  | false =>
   have e : Txt.split x ⟨#[c]⟩ = partsBetween x (occurrences x ⟨#[c]⟩ 0 x.length (x.length + 1)) (⟨#[c]⟩ : Str).length:=by unfold Txt.split; rw [if_neg h1',if_neg (by rw [hf]; decide)]
   have hn : (partsBetween x (occurrences x ⟨#[c]⟩ 0 x.length (x.length + 1)) (⟨#[c]⟩ : Str).length).length ≤ sizeLine:=by
    rw [len_partsBetween]
    have:=occ_length_le x ⟨#[c]⟩ 0 x.length (x.length + 1)
    omega
   exact go (meets_str_split_sep x ⟨#[c]⟩ t u h1 rfl hf (by omega) hn) (pu _ _ (by rw [e]; exact strsAre_from _ _))
theorem con_join {z : Addr} (m : Nat) {sep : Str} {t : Tok} {vs : List Value} {ts : List Str} {n : Nat} (hz : as[m]? = some z) (hc : cs[m]? = some (lst vs n)) (hv : StrsAre vs ts) (hts : ts.length ≤ 1001) (hB : ∀ y ∈ ts,y.length ≤ 1000) (hs : sep.length = 3)
  (hj : (Str.join sep ts).length ≤ 1001) : Con w 'c' as (.call (.builtin "str.join") ⟨[.str sep t,.ref z],[]⟩) cs (xC fun f=>.str (Str.join sep ts) (f 0)) D U:=by
 intro A h₀ s hD hU hh X R
 obtain ⟨l,rfl,rfl⟩:=strsAre_values hv
 have hg:=R.cell m z _ hz hc
 have hS : (1002 : Nat) ≤ sizeLine:=by decide +kernel
 have hl : tooLong ((l.map (·.1)).toArray.foldl (· + ·.length + sep.length) 0) = false:=joinFits hB (by
  have : (l.map (·.1)).length * 1000 ≤ 1001 * 1000:=Nat.mul_le_mul_right _ hts
  rw [hs]; omega)
 refine codeAny_call_builtin F.slot_str_join.plain F.entry_str_join (F.slot_str_join.check _ _ _ _ _ _ _ _ (typeIs_str s sep t) (F.args_str_join_2 _ _) (meets_str_join_list sep t z l hl pw w A _ s ⟨⟨_,hg,rfl,_,rfl⟩,?_⟩))
 have big : ∀ (g : Str),g.length ≤ sizeLine->(Made.str g).post (fun v s'=>Told h₀ as cs (xC fun f=>.str g (f 0)) s (.ok (.ret v)) s') s:=fun g h=>⟨h,told_at (r:=fun f=>.str g (f 0)) s.toks _ rfl R⟩
 rw [← glued_eq_join] at hj ⊢
 cases l with
 | nil=>exact big _ (Nat.le_trans hj (by omega))
 | cons q l =>
  cases l with
  | nil=>exact told_now (r:=fun f=>.str (glued sep [q.1]) (f 0)) q.2 _ (by rw [glued_eq_join]; rfl) R
  | cons r l=>exact big _ (Nat.le_trans hj (by omega))
variable {w : World} {A : Around} {h₀ : Heap} {s : Shared}
theorem rpf_step (P : Params) (u : 'f') (tx : Str) (tT : Tok) (pt : Addr) (z : Str) (zT : Tok) (a : Addr) : sv (sv (rpf P u tx tT pt) 0 (.str z zT)) 1 (.ref a) = rpf P u z zT a:=by kernel_rfl!
theorem mem_sum {p : Str} : ∀ {l : List Str},p ∈ l->p.length ≤ (l.map (·.length)).sum
 | q :: l,h=>by
  rcases List.mem_cons.mp h with rfl | h
  ·simp
  ·have:=mem_sum h
   simp; omega
theorem rpl_turn {u : 'f'} {tx : Str} {tT : Tok} {L pt : Addr} {c : Nat} {t1 t2 : Tok} {ps ps' : List Value} {t : Sem Flow} {tt : 'k'->'q'->Result->TT Flow} {sl : 'q'->Obj} {Q : Flow->Shared->Prop} {E : Value->Shared->Prop}
  (LA : Lf w.params 'c' [L,pt] [rpf w.params u tx tT pt,tpO ps] [] t 0 (fun _ _=>[]) (fun _ _=>[rpf w.params u tx tT pt,tpO ps]) (fun ad tk=>.cut (.call (.builtin "str.split") ⟨[.str tx tT,.str ⟨⟨[c]⟩⟩ t1],[]⟩) 0 none (tt ad tk)))
  (LB : ∀ y vs n z ad0 tk0,LfT w.params 'c' [L,pt,y] [rpf w.params u tx tT pt,tpO ps,lst vs n] [xC fun f=>.str z (f 0)] (tt ad0 tk0 (.ok (.ret (.ref y)))) 2
   (fun ad tk=>[⟨.call (.builtin "str.join") ⟨[.str ⟨⟨[32,c,32]⟩⟩ t2,.ref y],[]⟩,0,[rpf w.params u tx tT pt,tpO ps,lst vs n],0,0,xC fun f=>.str z (f 0)⟩])
   (fun ad tk=>[sv (sv (rpf w.params u tx tT pt) 0 (.str z (tk 0))) 1 (.ref (ad 1)),tpO ps,lst vs n,sl tk,tpO ps']) (fun _ _=>.val .next))
  (X : 'r') (R : Rep h₀ [L,pt] [rpf w.params u tx tT pt,tpO ps] s.heap) (hh : 'g') (hx : tx.length ≤ 300) (hb : (blk c tx.cps.toList).length ≤ 300)
  (h : ∀ pt' zT s',Rep h₀ [L,pt'] [rpf w.params u ⟨⟨blk c tx.cps.toList⟩⟩ zT pt',tpO ps'] s'.heap->Same s s'->Q .next s') : WP w A t Q E s:=by
 refine LA.run X R hh 'a' 'e' ?_
 intro ad tk s1 R1 K1 S1 A' d1 d2 d3 d4 d5
 have R1' : Rep h₀ [L,pt] [rpf w.params u tx tT pt,tpO ps] s1.heap:=R1
 refine split_code (by omega) ?_
 intro vs s2 hv K2 n2 g2 S2
 generalize s1.heap.objs.size = y at n2 g2
 have R2 : Rep h₀ [L,pt,y] [rpf w.params u tx tT pt,tpO ps,lst vs 0] s2.heap:=by
  have yn : y ∉ [L,pt]:=fun q=>by obtain ⟨o,ho⟩:=R1'.has q; rw [ho] at n2; cases n2
  have y0 : h₀.get? y = none:=by
   cases e : h₀.get? y with
   | none=>rfl
   | some o=>rw [R1'.keep y o e] at n2; cases n2
  have nd:=R1'.nd
  simp only [List.mem_cons,List.not_mem_nil,or_false,not_or] at yn
  simp only [List.nodup_cons,List.mem_cons,List.not_mem_nil,or_false] at nd
  refine ⟨rfl,?_,?_,?_,fun b o e=>K2 b o (R1'.keep b o e)⟩
  ·simp only [List.nodup_cons,List.mem_cons,List.not_mem_nil,or_false,not_or,List.nodup_nil,not_false_eq_true,and_true]
   exact ⟨⟨nd.1,fun q=>yn.1 q.symm⟩,fun q=>yn.2 q.symm⟩
  ·intro m a o e1 e2
   match m,e1,e2 with
   | 0,e1,e2=>simp at e1 e2; subst e1 e2; exact K2 _ _ (R1'.cell 0 _ _ rfl rfl)
   | 1,e1,e2=>simp at e1 e2; subst e1 e2; exact K2 _ _ (R1'.cell 1 _ _ rfl rfl)
   | 2,e1,e2=>simp at e1 e2; subst e1 e2; exact g2
   | m + 3,e1,e2=>simp at e1
  ·intro a ha
   simp only [List.mem_cons,List.not_mem_nil,or_false] at ha
   rcases ha with rfl | rfl | rfl
   ·exact R1'.fresh _ (.head _)
   ·exact R1'.fresh _ (.tail _ (.head _))
   ·exact y0
 have hz : Str.join ⟨#[32,c,32]⟩ (Txt.split tx ⟨#[c]⟩) = ⟨⟨blk c tx.cps.toList⟩⟩:=by
  have:=blk_split tx c
  generalize Str.join ⟨#[32,c,32]⟩ (Txt.split tx ⟨#[c]⟩) = g at this
  obtain ⟨⟨g⟩⟩:=g
  simp only at this
  rw [this]
 refine (LB y vs 0 ⟨⟨blk c tx.cps.toList⟩⟩ ad tk).run X R2 'a' (fun ad2 tk2=>all_cons ?_ all_nil) ?_
 ·show Con _ _ _ _ _ _ _ _
  rw [← hz]
  have hw:=split_weight tx ⟨#[c]⟩ (Nat.le_refl 1)
  refine con_join 2 rfl rfl hv ?_ ?_ rfl ?_
  ·omega
  ·intro p hp
   have:=mem_sum hp
   omega
  ·rw [hz]; show (blk c tx.cps.toList).length ≤ _; omega
 ·intro ad2 tk2 s3 R3 K3 S3
  rw [rpf_step] at R3
  exact h (ad2 1) (tk2 0) s3 (R3.pick [0,4] (by decide) (by simp)) (S1.trans (S2.trans S3))
variable {w : World} {A : Around} {h₀ : Heap} {R : Result->Shared->Prop}
noncomputable def rpP (ops l : List Nat) : List Nat:=l.flatMap fun d=>if d ∈ ops then [32,d,32] else [d]
theorem rpP_nil : ∀ l,rpP [] l = l
 | []=>rfl
 | d :: l=>by
  have:=rpP_nil l
  simp only [rpP,List.flatMap_cons,List.not_mem_nil,if_false] at this ⊢
  rw [this]; rfl
theorem rpP_len (ops : List Nat) : ∀ l,(rpP ops l).length ≤ 3 * l.length
 | []=>Nat.le_refl _
 | d :: l=>by
  have:=rpP_len ops l
  simp only [rpP,List.flatMap_cons,List.length_append] at this ⊢
  by_cases h : d ∈ ops
  ·simp only [h,if_true,List.length_cons,List.length_nil]; omega
  ·simp only [h,if_false,List.length_cons,List.length_nil]; omega
theorem blk_rpP (c : Nat) (ops : List Nat) (hc : c ∉ ops) (h32 : c ≠ 32) : ∀ l,blk c (rpP ops l) = rpP (ops ++ [c]) l
 | []=>rfl
 | d :: l=>by
  have ih:=blk_rpP c ops hc h32 l
  have h32' : ¬ 32 = c:=fun e=>h32 e.symm
  simp only [rpP,blk,List.flatMap_cons,List.flatMap_append] at ih ⊢
  rw [ih]
  congr 1
  by_cases h : d ∈ ops
  ·have hd : ¬ d = c:=fun e=>hc (e ▸ h)
   simp [h,hd,h32']
  ·by_cases hd : d = c
   ·subst hd; simp [h]
   ·simp [h,hd]
structure RpI (w : World) (p : Nat->Tok) (txt : List Nat) (L : Addr) (h₀ : Heap) (s₀ : Shared) (n : Nat) (s : Shared) : Prop where
 all : ∃ i u zT pt,n + i = 7 ∧ Rep h₀ [L,pt] [rpf w.params u ⟨⟨rpP (opsL.take i) txt⟩⟩ zT pt,tpO ((prV p).drop (2 * i))] s.heap
 sm : Same s₀ s
theorem rpl_for : sNth body46 0 = .While y43 y46 (sElse (sNth body46 0)) (sPos (sNth body46 0)):=by kernel_rfl!
theorem rpl_split : body46 = sNth body46 0 :: body46.drop 1:=by kernel_rfl!
theorem rpl_else : sElse (sNth body46 0) = []:=by kernel_rfl!
theorem rpl_loop {p : 'f'} {txt : List Nat} {L : Addr} {s₀ s : Shared} (hl : txt.length ≤ 100) (hh : 'g') (X : 'r')
  (H : ∀ u zT pt o s',Rep h₀ [L,pt] [rpf w.params u ⟨⟨rpP opsL txt⟩⟩ zT pt,o] s'.heap->Same s₀ s'->R (.ok .next) s') (I : RpI w p txt L h₀ s₀ 7 s) :
  CA w A (.whileLoop (sTest (sNth body46 0)) (sBody (sNth body46 0)) (sElse (sNth body46 0)) (env46 L)) R s:=by
 refine codeAny_whileLoop (RpI w p txt L h₀ s₀) ?_ 7 I
 clear I s
 rintro n s ⟨⟨i,u,zT,pt,hn,R1⟩,S1⟩
 rw [tw_eval,tw_isTrue]
 have hx : ∀ j,(⟨⟨rpP (opsL.take j) txt⟩⟩ : Str).length ≤ 300:=fun j=>by
  have:=rpP_len (opsL.take j) txt
  show (rpP (opsL.take j) txt).length ≤ _
  omega
 match i,hn,R1 with
 | 0,hn,R1 =>
  refine (rplT0 w.params u _ zT p pt L).run X R1 hh 'a' 'e' ?_
  intro ad tk s2 R2 K2 S2
  show wpAny _ _ (execs _ _) _ _ s2
  rw [tw_execs]
  have hb : blk 40 (rpP (opsL.take 0) txt) = rpP (opsL.take 1) txt:=blk_rpP 40 (opsL.take 0) (by decide) (by decide) txt
  refine rpl_turn (h₀:=h₀) (c:=40) (rplA0 w.params u _ zT p pt L) (fun y vs n z ad0 tk0=>rplB0 w.params u _ zT p pt L y vs n z ad0 tk0) X R2 hh (hx 0) (by show (blk 40 (rpP (opsL.take 0) txt)).length ≤ 300; rw [hb]; exact hx 1) ?_
  intro pt' zT' s3 R3 S3
  have R3' : Rep h₀ [L,pt'] [rpf w.params u ⟨⟨rpP (opsL.take 1) txt⟩⟩ zT' pt',tpO ((prV p).drop (2 * 1))] s3.heap:=by
   rw [← hb]; exact R3
  exact ⟨n - 1,by omega,⟨⟨1,u,zT',pt',by omega,R3'⟩,S1.trans (S2.trans S3)⟩⟩
 | 1,hn,R1 =>
  refine (rplT1 w.params u _ zT p pt L).run X R1 hh 'a' 'e' ?_
  intro ad tk s2 R2 K2 S2
  show wpAny _ _ (execs _ _) _ _ s2
  rw [tw_execs]
  have hb : blk 41 (rpP (opsL.take 1) txt) = rpP (opsL.take 2) txt:=blk_rpP 41 (opsL.take 1) (by decide) (by decide) txt
  refine rpl_turn (h₀:=h₀) (c:=41) (rplA1 w.params u _ zT p pt L) (fun y vs n z ad0 tk0=>rplB1 w.params u _ zT p pt L y vs n z ad0 tk0) X R2 hh (hx 1) (by show (blk 41 (rpP (opsL.take 1) txt)).length ≤ 300; rw [hb]; exact hx 2) ?_
  intro pt' zT' s3 R3 S3
  have R3' : Rep h₀ [L,pt'] [rpf w.params u ⟨⟨rpP (opsL.take 2) txt⟩⟩ zT' pt',tpO ((prV p).drop (2 * 2))] s3.heap:=by
   rw [← hb]; exact R3
  exact ⟨n - 1,by omega,⟨⟨2,u,zT',pt',by omega,R3'⟩,S1.trans (S2.trans S3)⟩⟩
 | 2,hn,R1 =>
  refine (rplT2 w.params u _ zT p pt L).run X R1 hh 'a' 'e' ?_
  intro ad tk s2 R2 K2 S2
  show wpAny _ _ (execs _ _) _ _ s2
  rw [tw_execs]
  have hb : blk 59 (rpP (opsL.take 2) txt) = rpP (opsL.take 3) txt:=blk_rpP 59 (opsL.take 2) (by decide) (by decide) txt
  refine rpl_turn (h₀:=h₀) (c:=59) (rplA2 w.params u _ zT p pt L) (fun y vs n z ad0 tk0=>rplB2 w.params u _ zT p pt L y vs n z ad0 tk0) X R2 hh (hx 2) (by show (blk 59 (rpP (opsL.take 2) txt)).length ≤ 300; rw [hb]; exact hx 3) ?_
  intro pt' zT' s3 R3 S3
  have R3' : Rep h₀ [L,pt'] [rpf w.params u ⟨⟨rpP (opsL.take 3) txt⟩⟩ zT' pt',tpO ((prV p).drop (2 * 3))] s3.heap:=by
   rw [← hb]; exact R3
  exact ⟨n - 1,by omega,⟨⟨3,u,zT',pt',by omega,R3'⟩,S1.trans (S2.trans S3)⟩⟩
 | 3,hn,R1 =>
  refine (rplT3 w.params u _ zT p pt L).run X R1 hh 'a' 'e' ?_
  intro ad tk s2 R2 K2 S2
  show wpAny _ _ (execs _ _) _ _ s2
  rw [tw_execs]
  have hb : blk 60 (rpP (opsL.take 3) txt) = rpP (opsL.take 4) txt:=blk_rpP 60 (opsL.take 3) (by decide) (by decide) txt
  refine rpl_turn (h₀:=h₀) (c:=60) (rplA3 w.params u _ zT p pt L) (fun y vs n z ad0 tk0=>rplB3 w.params u _ zT p pt L y vs n z ad0 tk0) X R2 hh (hx 3) (by show (blk 60 (rpP (opsL.take 3) txt)).length ≤ 300; rw [hb]; exact hx 4) ?_
  intro pt' zT' s3 R3 S3
  have R3' : Rep h₀ [L,pt'] [rpf w.params u ⟨⟨rpP (opsL.take 4) txt⟩⟩ zT' pt',tpO ((prV p).drop (2 * 4))] s3.heap:=by
   rw [← hb]; exact R3
  exact ⟨n - 1,by omega,⟨⟨4,u,zT',pt',by omega,R3'⟩,S1.trans (S2.trans S3)⟩⟩
 | 4,hn,R1 =>
  refine (rplT4 w.params u _ zT p pt L).run X R1 hh 'a' 'e' ?_
  intro ad tk s2 R2 K2 S2
  show wpAny _ _ (execs _ _) _ _ s2
  rw [tw_execs]
  have hb : blk 62 (rpP (opsL.take 4) txt) = rpP (opsL.take 5) txt:=blk_rpP 62 (opsL.take 4) (by decide) (by decide) txt
  refine rpl_turn (h₀:=h₀) (c:=62) (rplA4 w.params u _ zT p pt L) (fun y vs n z ad0 tk0=>rplB4 w.params u _ zT p pt L y vs n z ad0 tk0) X R2 hh (hx 4) (by show (blk 62 (rpP (opsL.take 4) txt)).length ≤ 300; rw [hb]; exact hx 5) ?_
  intro pt' zT' s3 R3 S3
  have R3' : Rep h₀ [L,pt'] [rpf w.params u ⟨⟨rpP (opsL.take 5) txt⟩⟩ zT' pt',tpO ((prV p).drop (2 * 5))] s3.heap:=by
   rw [← hb]; exact R3
  exact ⟨n - 1,by omega,⟨⟨5,u,zT',pt',by omega,R3'⟩,S1.trans (S2.trans S3)⟩⟩
 | 5,hn,R1 =>
  refine (rplT5 w.params u _ zT p pt L).run X R1 hh 'a' 'e' ?_
  intro ad tk s2 R2 K2 S2
  show wpAny _ _ (execs _ _) _ _ s2
  rw [tw_execs]
  have hb : blk 124 (rpP (opsL.take 5) txt) = rpP (opsL.take 6) txt:=blk_rpP 124 (opsL.take 5) (by decide) (by decide) txt
  refine rpl_turn (h₀:=h₀) (c:=124) (rplA5 w.params u _ zT p pt L) (fun y vs n z ad0 tk0=>rplB5 w.params u _ zT p pt L y vs n z ad0 tk0) X R2 hh (hx 5) (by show (blk 124 (rpP (opsL.take 5) txt)).length ≤ 300; rw [hb]; exact hx 6) ?_
  intro pt' zT' s3 R3 S3
  have R3' : Rep h₀ [L,pt'] [rpf w.params u ⟨⟨rpP (opsL.take 6) txt⟩⟩ zT' pt',tpO ((prV p).drop (2 * 6))] s3.heap:=by
   rw [← hb]; exact R3
  exact ⟨n - 1,by omega,⟨⟨6,u,zT',pt',by omega,R3'⟩,S1.trans (S2.trans S3)⟩⟩
 | 6,hn,R1 =>
  refine (rplT6 w.params u _ zT p pt L).run X R1 hh 'a' 'e' ?_
  intro ad tk s2 R2 K2 S2
  show wpAny _ _ (execs _ _) _ _ s2
  rw [tw_execs]
  have hb : blk 38 (rpP (opsL.take 6) txt) = rpP (opsL.take 7) txt:=blk_rpP 38 (opsL.take 6) (by decide) (by decide) txt
  refine rpl_turn (h₀:=h₀) (c:=38) (rplA6 w.params u _ zT p pt L) (fun y vs n z ad0 tk0=>rplB6 w.params u _ zT p pt L y vs n z ad0 tk0) X R2 hh (hx 6) (by show (blk 38 (rpP (opsL.take 6) txt)).length ≤ 300; rw [hb]; exact hx 7) ?_
  intro pt' zT' s3 R3 S3
  have R3' : Rep h₀ [L,pt'] [rpf w.params u ⟨⟨rpP (opsL.take 7) txt⟩⟩ zT' pt',tpO ((prV p).drop (2 * 7))] s3.heap:=by
   rw [← hb]; exact R3
  exact ⟨n - 1,by omega,⟨⟨7,u,zT',pt',by omega,R3'⟩,S1.trans (S2.trans S3)⟩⟩
 | 7,hn,R1 =>
  refine (rplT7 w.params u _ zT p pt L).run X R1 hh 'a' 'e' ?_
  intro ad tk s2 R2 K2 S2
  show wpAny _ _ (execs _ _) _ _ s2
  rw [rpl_else]
  exact wpAny_execs_nil (H u zT pt _ s2 R2 (S1.trans S2))
 | i + 8,hn,R1=>omega
variable {w : World} {A : Around} {s : Shared} {R : Result->Shared->Prop}
theorem rpl_fr_eq (P : Params) (tx : Str) (tT : Tok) (p : 'f') (ad0 : Nat->Addr) (tk0 : 'f') (tk : 'f') : rpl_fr P tx tT p ad0 tk0 tk = rpf P (uP (tk 0) (tk 1) 0) tx tT (ad0 0):=by kernel_rfl!
theorem rpl_code (tx : Str) (tT : Tok) (p : 'f') (hl : tx.cps.toList.length ≤ 100) (hd : A.depth < recursionLimit) (hh : 'g') (X : TopIn 'c' s.heap)
  (H : ∀ zT s',Keep s.heap s'.heap->Same s s'->R (.ok (.ret (.str ⟨⟨rpP opsL tx.cps.toList⟩⟩ zT))) s') :
  CA w A (.call (.ref 46) ⟨.str tx tT :: prV p,[]⟩) R s:=by
 obtain ⟨⟨txt⟩⟩:=tx
 refine rpl_call ⟨⟨txt⟩⟩ tT p hd hh X (rep_nil s.heap) ?_
 intro ad0 tk0 L tk s1 R1 S1
 rw [rpl_fr_eq] at R1
 generalize ad0 0 = pt at R1
 have R2 : Rep s.heap [L,pt] [rpf w.params (uP (tk 0) (tk 1) 0) ⟨⟨txt⟩⟩ tT pt,tpO ((prV p).drop 0)] s1.heap:=Rep.pick (as:=[pt,L]) R1 [1,0] (by decide) (by simp)
 have e0 : rpP (opsL.take 0) txt = txt:=rpP_nil _
 rw [rpl_split]
 refine wpAny_execs_cons ?_
 rw [rpl_for]
 refine wpAny_While ?_
 refine rpl_loop (p:=p) (txt:=txt) (s₀:=s1) hl hh X ?_ ⟨⟨0,uP (tk 0) (tk 1) 0,tT,pt,rfl,?_⟩,Same.refl s1⟩
 ·intro u zT pt' o s2 R3 S2
  dsimp only
  rw [tw_execs]
  refine (rplX w.params u _ zT p pt' L).part (la:=[pt']) (cl:=[o]) X R3 rfl hh 'a' 'e' ?_
  intro ad3 tk3 s3 R4 K4 S4
  exact H zT s3 R4.keep (S1.trans (S2.trans S4))
 ·rw [e0]; exact R2
end
section
open PySem PySem.W PySem.W.X PyProof.Rows
variable {w : World}
section
variable (P : Params) (u : Nat->Tok) (sc : Addr) (tk : Nat->Tok) (L d : Addr) (tx : Str) (tT : Tok) (q ps : Addr) (rf : Str) (rT : Tok) (sl : Array (Option Value)) (m1 : Str) (m1T : Tok) (m2 : Str) (m2T : Tok)
noncomputable def lwf1 : Obj:=⟨.type SL.s658472552662922059x5,none,.dict ⟨[en P s!"script" (u 0) (.ref sc)]⟩ 1,⟨[]⟩⟩
noncomputable def lwf2 : Obj:=⟨.type SL.s658472552662922059x5,none,.dict ⟨[en P s!"script" (u 0) (.ref sc),en P s!"drawn" (u 1) (.ref d)]⟩ 2,⟨[]⟩⟩
noncomputable def lwf3 : Obj:=⟨.type SL.s658472552662922059x5,none,.dict ⟨[en P s!"script" (u 0) (.ref sc),en P s!"drawn" (u 1) (.ref d),zE P a253 (u 2) tx tT]⟩ 3,⟨[]⟩⟩
noncomputable def lwf4 : Obj:=⟨.type SL.s658472552662922059x5,none,.dict ⟨[en P s!"script" (u 0) (.ref sc),en P s!"drawn" (u 1) (.ref d),zE P a253 (u 2) tx tT,en P a254 (u 3) (.ref q)]⟩ 4,⟨[]⟩⟩
noncomputable def lwf6 : Obj:=⟨.type SL.s658472552662922059x5,none,.dict ⟨[en P s!"script" (u 0) (.ref sc),en P s!"drawn" (u 1) (.ref d),zE P a253 (u 2) tx tT,en P a254 (u 3) (.ref q),en P a455 (u 4) (.ref ps),zE P s!"refusal" (u 5) rf rT]⟩ 6,sl⟩
noncomputable def xL : Expr->Expr
 | .Compare l _ _ _=>l
 | .IfExp t _ _ _=>t
 | .BinOp l _ _ _=>l
 | e=>e
noncomputable def xR : Expr->Expr
 | .Compare _ _ (r :: _) _=>r
 | .IfExp _ b _ _=>b
 | .BinOp _ _ r _=>r
 | e=>e
noncomputable def xE : Expr->Expr
 | .IfExp _ _ b _=>b
 | e=>e
noncomputable def sVal : Stmt->Expr
 | .Assign _ v _=>v
 | .Return (some e) _=>e
 | _=>.Constant .none 0 default
theorem law_b : Lf P (Tf P) [] [] [] (zBA fd788 ⟨[.ref sc],[]⟩) 0 zve (fun ad tk=>[]) (fun ad tk=>(.val [(s!"script",(.ref sc))])):=.mk' 3 0 (by kernel_rfl)
theorem law_e : Lf P (Tf P) [] [] [] (zNE fd788 788 [(s!"script",(.ref sc))]) 1 zve (fun ad tk=>[(zD zt98 [en P s!"script" (tk 0) (.ref sc)] 1)]) (fun ad tk=>(.val (env788 (ad 0)))):=.mk' 8 257 (by kernel_rfl)
noncomputable def law_fr : Obj:=(zD zt98 [en P s!"script" (tk 0) (.ref sc)] 1)
theorem law_call (sc : Addr) : CallT w [] [] (law_fr w.params sc) env788 body788 788 ⟨[.ref sc],[]⟩:=callT _ _ (top788 w.params) rfl rfl co788 ge788 rfl (cr788 w.params) (law_b w.params sc) (law_e w.params sc)
theorem lwNs : Lf P (Tf P) [L] [lwf1 P u sc] [] (zEV (xL (xL (sVal (sNth body788 0)))) (env788 L)) 0 zve (fun ad tk=>[(lwf1 P u sc)]) (fun ad tk=>(.val (.ref sc))):=.mk' 5 1 (by kernel_rfl)
theorem lwE0 : Lf P (Tf P) [L] [lwf1 P u sc] [] (zEV (xR (xL (sVal (sNth body788 0)))) (env788 L)) 1 zve (fun ad tk=>[(lwf1 P u sc),(zW zt13)]) (fun ad tk=>(.val (.ref (ad 0)))):=.mk' 5 0 (by kernel_rfl)
theorem lwDi : Lf P (Tf P) [L] [lwf1 P u sc] [] (zEV (xE (sVal (sNth body788 0))) (env788 L)) 1 zve (fun ad tk=>[(lwf1 P u sc),(zQ zt13 [(zI 5 (tk 0)),(zI 6 (tk 1)),(zI 7 (tk 2)),(zI 0 (tk 3)),(zI 6 (tk 4)),(zI 0 (tk 5)),(zI 3 (tk 6)),(zI 2 (tk 7)),(zI 7 (tk 8)),(zI 5 (tk 9)),(zI 1 (tk 10)),(zI 1 (tk 11))])]) (fun ad tk=>(.val (.ref (ad 0)))):=.mk' 17 0 (by kernel_rfl)
theorem lwSd : Lf P (Tf P) [L] [lwf1 P u sc] [] (storeName (env788 L) s!"drawn" (.ref d)) 0 zve (fun ad tk=>[(sn (lwf1 P u sc) (en P s!"drawn" (tk 0) (.ref d)))]) (fun ad tk=>(.val ())):=.mk' 7 257 (by kernel_rfl)
theorem lwNd (P : Params) (u : 'f') (sc : Addr) (d : Addr) (L : Addr) : Lf P (Tf P) [L] [lwf2 P u sc d] [] (zEV (.Name s!"drawn" default) (env788 L)) 0 zve (fun ad tk=>[(lwf2 P u sc d)]) (fun ad tk=>(.val (.ref d))):=.mk' 5 1 (by kernel_rfl)
theorem lwSt (P : Params) (u : 'f') (sc : Addr) (d : Addr) (L : Addr) (tx : Str) (tT : Tok) : Lf P (Tf P) [L] [lwf2 P u sc d] [] (storeName (env788 L) a253 (.str tx tT)) 0 zve (fun ad tk=>[(sn (lwf2 P u sc d) (zE P a253 (tk 0) tx tT))]) (fun ad tk=>(.val ())):=.mk' 7 257 (by kernel_rfl)
theorem lawP (P : Params) (u : 'f') (sc : Addr) (d : Addr) (tx : Str) (tT : Tok) (L : Addr) : Lf P (Tf P) [L] [lwf3 P u sc d tx tT] [] (zEX [sNth body788 2] (env788 L)) 2 zve (fun ad tk=>[(sn (lwf3 P u sc d tx tT) (en P a254 (tk 57) (.ref (ad 1)))),(zF zt105 [.none,(zI 7 0)]),(zS zt13 [(.str s!"(" (tk 1)),(.str s!" ( " (tk 6)),(.str s!")" (tk 9)),(.str s!" ) " (tk 14)),(.str s!";" (tk 17)),(.str s!" ; " (tk 22)),(.str s!"<" (tk 25)),(.str s!" < " (tk 30)),(.str s!">" (tk 33)),(.str s!" > " (tk 38)),(.str s!"|" (tk 41)),(.str s!" | " (tk 46)),(.str s!"&" (tk 49)),(.str s!" & " (tk 54))] 14)]) zvn:=by
 induction P using rows with | step rb rc P=>?_
 cases rb <;> cases rc
 ·exact .mk' 1008 241512524225161013055773951095226395649400522221660685057208116633773848724992656724858396159880895783623454402611007107887041170666179231852076841191972692292360740949257849903876034608345332964648687664860495633551840002847097654055070007157180976049254620333285099845973739652798541805202273572605036971065861639077505872761430803604727287884561863408187932436086692420525587998194995646714206139125893960560054184459360649839625584738759094376346499666800211969945950670798672265510810553973486614190126517894923117162531100956673676940008475834913379463277133488389001876890714606900467339801706609318675048803737333583847555235286577869716699864895152266194917178158260802854751610056961783011257634565338997180845644023224888507493213906994477387164007280390851016364897062359872747717746820851161837424646136632598751987603773679949015012342013455478576957575051845487978392334460275591633913342331915449177198471589521217154294943030330235922225074199683297993609417157135948299060676880852431781536171140128407416038856700017415708109356854381520938760997936364160968644381390376427392599622370070206036981749329136684018222951785621582055883180446710304638657459000492456343371546909857430183632766800721743702185708616216204175880068178596284419451549012755469308162497592134066052143291095918334681896880193415231503087659459224187633213107094734932245970927233468414774532833619869696 (by kernel_rfl)
 ·exact .mk' 928 6129447394667453837781730378986280787104246248363157583384289827501730322010082869887825684814306756914837571808855574620080385229948940681014199466590666230934149411878977465501592464936957476194656925468882382172523216255632400939439975658732046406132046841878490730442857581761202222263216274647010465961752787133593258783496470073926043089980840980859746496983647939956015943453337563987852484157845830769530510293333571623049515325541562577041608843398583852255845940969964086403733964003867308191110813309069523332800067647340591115912110350609874254989795845676354115384988383821606296676017779374271112506775979293085564146140750156450397673368956534777469056530140872189672993331406144373023929447856460944362493613696727648217819760798111208073493208586331611526571601574132842501983013583133253278011811044773143897668833438935056491716500446373603068448436267810844671712561805252347898893298750234743922474811995158614678667661028335696070993543066935609471412182744573485705365655711727296879126146999839272841085016988827310805397044734077750672233644669046702231298470490129527626213079262658429188373009478570526716104946408364095543141176082863240435502595700607956270053857571490184362389244747842570300053463307388415467578426386523016535984059550021182703140864 (by kernel_rfl)
 ·exact .mk' 1008 241512524225161013055773951095226395649400522221660685057208116633773848724992656724858396159880895783623454402611007107887041170666179231852076841191972692292360740949257849903876034608345332964648687664860495633551840002847097654055070007157180976049254620333285099845973739652798541805202273572605036971065861639077505872761430803604727287884561863408187932436086692420525587998194995646714206139125893960560054184459360649839625584738759094376346499666800211969945950670798672265510810553973486614190126517894923117162531100956673676940008475834913379463277133488389001876890714606900467339801706609318675048803737333583847555235286577869716699864895152266194917178158260802854751610056961783011257634565338997180845644023224888507493213906994477387164007280390851016364897062359872747717746820851161837424646136632598751987603773679949015012342013455478576957575051845487978392334460275591633913342331915449177198471589521217154294943030330235922225074199683297993609417157135948299060676880852431781536171140128407416038856700017415708109356854381520938760997936364160968644381390376427392599622370070206036981749329136684018222951785621582055883180446710304638657459000492456343371546909857430183632766800721743702185708616216204175880068178596284419451549012755469308162497592134066052143291095918334681896880193415231503087659459224187633213107094734932245970927233468414774532833619869696 (by kernel_rfl)
 ·exact .mk' 928 6129447394667453837781730378986280787104246248363157583384289827501730322010082869887825684814306756914837571808855574620080385229948940681014199466590666230934149411878977465501592464936957476194656925468882382172523216255632400939439975658732046406132046841878490730442857581761202222263216274647010465961752787133593258783496470073926043089980840980859746496983647939956015943453337563987852484157845830769530510293333571623049515325541562577041608843398583852255845940969964086403733964003867308191110813309069523332800067647340591115912110350609874254989795845676354115384988383821606296676017779374271112506775979293085564146140750156450397673368956534777469056530140872189672993331406144373023929447856460944362493613696727648217819760798111208073493208586331611526571601574132842501983013583133253278011811044773143897668833438935056491716500446373603068448436267810844671712561805252347898893298750234743922474811995158614678667661028335696070993543066935609471412182744573485705365655711727296879126146999839272841085016988827310805397044734077750672233644669046702231298470490129527626213079262658429188373009478570526716104946408364095543141176082863240435502595700607956270053857571490184362389244747842570300053463307388415467578426386523016535984059550021182703140864 (by kernel_rfl)
noncomputable def lwPa_q (P : Params) (u : Nat->Tok) (sc : Addr) (d : Addr) (tx : Str) (tT : Tok) (q : Addr) (L : Addr) (ad : Nat->Addr) (tk : Nat->Tok) : Option (RR Flow):=run denF ⟨pw,P⟩ (Tf P) [L] ad tk 10 4244635904 [] [lwf4 P u sc d tx tT q] 0 0 none (.base (zEX [sNth body788 3] (env788 L)))
theorem lwPa (P : Params) (u : 'f') (sc : Addr) (d : Addr) (tx : Str) (tT : Tok) (q : Addr) (L : Addr) : Lf P (Tf P) [L] [lwf4 P u sc d tx tT q] [] (zEX [sNth body788 3] (env788 L)) 0 zve (fun ad tk=>[(lwf4 P u sc d tx tT q)]) (fun ad tk=>(.cut (zR 755 [(.str tx tT)]) 0 none (ttOf (lwPa_q P u sc d tx tT q L ad tk)))):=.mk' 10 4244635904 (by kernel_rfl)
theorem lwPb (P : Params) (u : 'f') (sc : Addr) (d : Addr) (tx : Str) (tT : Tok) (q : Addr) (L : Addr) (z : Addr) (p : Addr) (r1 : Str) (r1T : Tok) (ad0 : Nat->Addr) (tk0 : 'f') : LfT P (Tf P) [L,z] [lwf4 P u sc d tx tT q,tpO [.ref p,.str r1 r1T]] [] (ttOf (lwPa_q P u sc d tx tT q L ad0 tk0) (.ok (.ret (.ref z)))) 0 zve (fun ad tk=>[(sn (sn (lwf4 P u sc d tx tT q) (en P a455 (tk 0) (.ref p))) (zE P s!"refusal" (tk 1) r1 r1T)),(tpO [.ref p,.str r1 r1T])]) zvn:=by revert P; refine LfT.rw1 64 (zd 999 0x1010101050303020313130303030203131303030302031313031312020202) ?_ ?_ <;> kernel_rfl
noncomputable abbrev y70:=sTest (sNth body788 4)
noncomputable def lwA4_q (P : Params) (u : Nat->Tok) (sc : Addr) (d : Addr) (tx : Str) (tT : Tok) (q : Addr) (ps : Addr) (rf : Str) (rT : Tok) (sl : Array (Option Value)) (L : Addr) (ad : Nat->Addr) (tk : Nat->Tok) : Option (RR Value):=run denF ⟨pw,P⟩ (Tf P) [L] ad tk 9 4244635904 [] [lwf6 P u sc d tx tT q ps rf rT sl] 0 0 none (.base (zEV (xL y70) (env788 L)))
theorem lwA4 (P : Params) (u : 'f') (sc : Addr) (d : Addr) (tx : Str) (tT : Tok) (q : Addr) (ps : Addr) (rf : Str) (rT : Tok) (sl : Array (Option Value)) (L : Addr) : Lf P (Tf P) [L] [lwf6 P u sc d tx tT q ps rf rT sl] [] (zEV (xL y70) (env788 L)) 0 zve (fun ad tk=>[(lwf6 P u sc d tx tT q ps rf rT sl)]) (fun ad tk=>(.cut (zR 776 [(.str tx tT)]) 0 none (ttOf (lwA4_q P u sc d tx tT q ps rf rT sl L ad tk)))):=.mk' 9 4244635904 (by kernel_rfl)
theorem lwA4r (P : Params) (u : 'f') (sc : Addr) (d : Addr) (tx : Str) (tT : Tok) (q : Addr) (ps : Addr) (rf : Str) (rT : Tok) (sl : Array (Option Value)) (L : Addr) (z : Addr) (ad0 : Nat->Addr) (tk0 : 'f') : LfT P (Tf P) [] [] [] (ttOf (lwA4_q P u sc d tx tT q ps rf rT sl L ad0 tk0) (.ok (.ret (.ref z)))) 0 zve (fun ad tk=>[]) (fun ad tk=>(.val (.ref z))):=.mk' 4 0 (by kernel_rfl)
theorem lwA4s (P : Params) (u : 'f') (sc : Addr) (d : Addr) (tx : Str) (tT : Tok) (q : Addr) (ps : Addr) (rf : Str) (rT : Tok) (sl : Array (Option Value)) (L : Addr) (y : Str) (yT : Tok) (ad0 : Nat->Addr) (tk0 : 'f') : LfT P (Tf P) [] [] [] (ttOf (lwA4_q P u sc d tx tT q ps rf rT sl L ad0 tk0) (.ok (.ret (.str y yT)))) 0 zve (fun ad tk=>[]) (fun ad tk=>(.val (.str y yT))):=.mk' 4 0 (by kernel_rfl)
noncomputable def lwB4_q (P : Params) (u : Nat->Tok) (sc : Addr) (d : Addr) (tx : Str) (tT : Tok) (q : Addr) (ps : Addr) (rT : Tok) (sl : Array (Option Value)) (L : Addr) (ad : Nat->Addr) (tk : Nat->Tok) : Option (RR Value):=run denF ⟨pw,P⟩ (Tf P) [L] ad tk 20 18230572391107395585 [] [lwf6 P u sc d tx tT q ps a181 rT sl] 0 0 none (.base (zEV (xR y70) (env788 L)))
theorem lwB4 (P : Params) (u : 'f') (sc : Addr) (d : Addr) (tx : Str) (tT : Tok) (q : Addr) (ps : Addr) (rT : Tok) (sl : Array (Option Value)) (L : Addr) : Lf P (Tf P) [L] [lwf6 P u sc d tx tT q ps a181 rT sl] [] (zEV (xR y70) (env788 L)) 0 zve (fun ad tk=>[(lwf6 P u sc d tx tT q ps a181 rT sl)]) (fun ad tk=>(.cut (zR 762 [(.ref ps)]) 0 none (ttOf (lwB4_q P u sc d tx tT q ps rT sl L ad tk)))):=.mk' 20 18230572391107395585 (by kernel_rfl)
theorem lwB4r (P : Params) (u : 'f') (sc : Addr) (d : Addr) (tx : Str) (tT : Tok) (q : Addr) (ps : Addr) (rT : Tok) (sl : Array (Option Value)) (L : Addr) (z : Addr) (ad0 : Nat->Addr) (tk0 : 'f') : LfT P (Tf P) [] [] [] (ttOf (lwB4_q P u sc d tx tT q ps rT sl L ad0 tk0) (.ok (.ret (.ref z)))) 0 zve (fun ad tk=>[]) (fun ad tk=>(.val (.ref z))):=.mk' 4 0 (by kernel_rfl)
theorem lwB4q (P : Params) (u : 'f') (sc : Addr) (d : Addr) (tx : Str) (tT : Tok) (q : Addr) (ps : Addr) (rT : Tok) (sl : Array (Option Value)) (L : Addr) : Lf P (Tf P) [L] [lwf6 P u sc d tx tT q ps msgQ rT sl] [] (zEV (xR y70) (env788 L)) 0 zve (fun ad tk=>[(lwf6 P u sc d tx tT q ps msgQ rT sl)]) (fun ad tk=>(.val (.str msgQ rT))):=.mk' 14 1 (by kernel_rfl)
theorem lwB4e (P : Params) (u : 'f') (sc : Addr) (d : Addr) (tx : Str) (tT : Tok) (q : Addr) (ps : Addr) (rT : Tok) (sl : Array (Option Value)) (L : Addr) : Lf P (Tf P) [L] [lwf6 P u sc d tx tT q ps msgE rT sl] [] (zEV (xR y70) (env788 L)) 0 zve (fun ad tk=>[(lwf6 P u sc d tx tT q ps msgE rT sl)]) (fun ad tk=>(.val (.str msgE rT))):=.mk' 14 1 (by kernel_rfl)
noncomputable def lwB5_q (P : Params) (u : Nat->Tok) (sc : Addr) (d : Addr) (tx : Str) (tT : Tok) (q : Addr) (ps : Addr) (rT : Tok) (sl : Array (Option Value)) (L : Addr) (ad : Nat->Addr) (tk : Nat->Tok) : Option (RR Value):=run denF ⟨pw,P⟩ (Tf P) [L] ad tk 20 18230572391107395585 [] [lwf6 P u sc d tx tT q ps a181 rT sl] 0 0 none (.base (zEV (xR (sRet (body788.drop 5))) (env788 L)))
theorem lwB5 (P : Params) (u : 'f') (sc : Addr) (d : Addr) (tx : Str) (tT : Tok) (q : Addr) (ps : Addr) (rT : Tok) (sl : Array (Option Value)) (L : Addr) : Lf P (Tf P) [L] [lwf6 P u sc d tx tT q ps a181 rT sl] [] (zEV (xR (sRet (body788.drop 5))) (env788 L)) 0 zve (fun ad tk=>[(lwf6 P u sc d tx tT q ps a181 rT sl)]) (fun ad tk=>(.cut (zR 769 [(.ref ps)]) 0 none (ttOf (lwB5_q P u sc d tx tT q ps rT sl L ad tk)))):=.mk' 20 18230572391107395585 (by kernel_rfl)
theorem lwB5r (P : Params) (u : 'f') (sc : Addr) (d : Addr) (tx : Str) (tT : Tok) (q : Addr) (ps : Addr) (rT : Tok) (sl : Array (Option Value)) (L : Addr) (z : Addr) (ad0 : Nat->Addr) (tk0 : 'f') : LfT P (Tf P) [] [] [] (ttOf (lwB5_q P u sc d tx tT q ps rT sl L ad0 tk0) (.ok (.ret (.ref z)))) 0 zve (fun ad tk=>[]) (fun ad tk=>(.val (.ref z))):=.mk' 4 0 (by kernel_rfl)
theorem lwB5q (P : Params) (u : 'f') (sc : Addr) (d : Addr) (tx : Str) (tT : Tok) (q : Addr) (ps : Addr) (rT : Tok) (sl : Array (Option Value)) (L : Addr) : Lf P (Tf P) [L] [lwf6 P u sc d tx tT q ps msgQ rT sl] [] (zEV (xR (sRet (body788.drop 5))) (env788 L)) 0 zve (fun ad tk=>[(lwf6 P u sc d tx tT q ps msgQ rT sl)]) (fun ad tk=>(.val (.str msgQ rT))):=.mk' 14 1 (by kernel_rfl)
theorem lwB5e (P : Params) (u : 'f') (sc : Addr) (d : Addr) (tx : Str) (tT : Tok) (q : Addr) (ps : Addr) (rT : Tok) (sl : Array (Option Value)) (L : Addr) : Lf P (Tf P) [L] [lwf6 P u sc d tx tT q ps msgE rT sl] [] (zEV (xR (sRet (body788.drop 5))) (env788 L)) 0 zve (fun ad tk=>[(lwf6 P u sc d tx tT q ps msgE rT sl)]) (fun ad tk=>(.val (.str msgE rT))):=.mk' 14 1 (by kernel_rfl)
noncomputable def lwA5_q (P : Params) (u : Nat->Tok) (sc : Addr) (d : Addr) (tx : Str) (tT : Tok) (q : Addr) (ps : Addr) (rf : Str) (rT : Tok) (sl : Array (Option Value)) (L : Addr) (p : Nat->Tok) (n : Nat) (ad : Nat->Addr) (tk : Nat->Tok) : Option (RR Value):=run denF ⟨pw,P⟩ (Tf P) [L,q] ad tk 13 278185048604672 [] [lwf6 P u sc d tx tT q ps rf rT sl,lst (prV p) n] 0 0 none (.base (zEV (xL (sRet (body788.drop 5))) (env788 L)))
theorem lwA5 (P : Params) (u : 'f') (sc : Addr) (d : Addr) (tx : Str) (tT : Tok) (q : Addr) (ps : Addr) (rf : Str) (rT : Tok) (sl : Array (Option Value)) (L : Addr) (p : 'f') (n : Nat) : Lf P (Tf P) [L,q] [lwf6 P u sc d tx tT q ps rf rT sl,lst (prV p) n] [] (zEV (xL (sRet (body788.drop 5))) (env788 L)) 0 zve (fun ad tk=>[(lwf6 P u sc d tx tT q ps rf rT sl),(lst (prV p) n)]) (fun ad tk=>(.cut (.builtin "proto.collect" ⟨[(.ref q)],[]⟩) 0 none (ttOf (lwA5_q P u sc d tx tT q ps rf rT sl L p n ad tk)))):=.mk' 13 278185048604672 (by kernel_rfl)
noncomputable def lwA5c_q (P : Params) (u : Nat->Tok) (sc : Addr) (d : Addr) (tx : Str) (tT : Tok) (q : Addr) (ps : Addr) (rf : Str) (rT : Tok) (sl : Array (Option Value)) (L : Addr) (p : Nat->Tok) (n : Nat) (b : Addr) (m : Nat) (ad0 : Nat->Addr) (tk0 : Nat->Tok) (ad : Nat->Addr) (tk : Nat->Tok) : Option (RR Value):=run denF ⟨pw,P⟩ (Tf P) [b] ad tk 6 16580609 [] [lst (prV p) m] 0 0 none (ttOf (lwA5_q P u sc d tx tT q ps rf rT sl L p n ad0 tk0) (.ok (.ret (.ref b))))
theorem lwA5c (P : Params) (u : 'f') (sc : Addr) (d : Addr) (tx : Str) (tT : Tok) (q : Addr) (ps : Addr) (rf : Str) (rT : Tok) (sl : Array (Option Value)) (L : Addr) (p : 'f') (n : Nat) (b : Addr) (m : Nat) (ad0 : Nat->Addr) (tk0 : 'f') : LfT P (Tf P) [b] [lst (prV p) m] [] (ttOf (lwA5_q P u sc d tx tT q ps rf rT sl L p n ad0 tk0) (.ok (.ret (.ref b)))) 0 zve (fun ad tk=>[(lst (prV p) m)]) (fun ad tk=>(.cut (zR 46 [(.str tx tT),(.str s!"(" (p 0)),(.str s!" ( " (p 1)),(.str s!")" (p 2)),(.str s!" ) " (p 3)),(.str s!";" (p 4)),(.str s!" ; " (p 5)),(.str s!"<" (p 6)),(.str s!" < " (p 7)),(.str s!">" (p 8)),(.str s!" > " (p 9)),(.str s!"|" (p 10)),(.str s!" | " (p 11)),(.str s!"&" (p 12)),(.str s!" & " (p 13))]) 0 none (ttOf (lwA5c_q P u sc d tx tT q ps rf rT sl L p n b m ad0 tk0 ad tk)))):=.mk' 6 16580609 (by kernel_rfl)
noncomputable def lwA5b_q (P : Params) (u : Nat->Tok) (sc : Addr) (d : Addr) (tx : Str) (tT : Tok) (q : Addr) (ps : Addr) (rf : Str) (rT : Tok) (sl : Array (Option Value)) (L : Addr) (p : Nat->Tok) (n : Nat) (b : Addr) (m : Nat) (y : Str) (yT : Tok) (ad0 : Nat->Addr) (tk0 : Nat->Tok) (ad1 : Nat->Addr) (tk1 : Nat->Tok) (ad : Nat->Addr) (tk : Nat->Tok) : Option (RR Value):=run denF ⟨pw,P⟩ (Tf P) [] ad tk 6 64768 [] [] 0 0 none (ttOf (lwA5c_q P u sc d tx tT q ps rf rT sl L p n b m ad0 tk0 ad1 tk1) (.ok (.ret (.str y yT))))
theorem lwA5b (P : Params) (u : 'f') (sc : Addr) (d : Addr) (tx : Str) (tT : Tok) (q : Addr) (ps : Addr) (rf : Str) (rT : Tok) (sl : Array (Option Value)) (L : Addr) (p : 'f') (n : Nat) (b : Addr) (m : Nat) (y : Str) (yT : Tok) (ad0 : Nat->Addr) (tk0 : 'f') (ad1 : Nat->Addr) (tk1 : 'f') : LfT P (Tf P) [] [] [] (ttOf (lwA5c_q P u sc d tx tT q ps rf rT sl L p n b m ad0 tk0 ad1 tk1) (.ok (.ret (.str y yT)))) 0 zve (fun ad tk=>[]) (fun ad tk=>(.cut (zR 783 [(.str y yT)]) 0 none (ttOf (lwA5b_q P u sc d tx tT q ps rf rT sl L p n b m y yT ad0 tk0 ad1 tk1 ad tk)))):=.mk' 6 64768 (by kernel_rfl)
theorem lwA5r (P : Params) (u : 'f') (sc : Addr) (d : Addr) (tx : Str) (tT : Tok) (q : Addr) (ps : Addr) (rf : Str) (rT : Tok) (sl : Array (Option Value)) (L : Addr) (p : 'f') (n : Nat) (b : Addr) (m : Nat) (y : Str) (yT : Tok) (z : Addr) (ad0 : Nat->Addr) (tk0 : 'f') (ad1 : Nat->Addr) (tk1 : 'f') (ad2 : Nat->Addr) (tk2 : 'f') : LfT P (Tf P) [] [] [] (ttOf (lwA5b_q P u sc d tx tT q ps rf rT sl L p n b m y yT ad0 tk0 ad1 tk1 ad2 tk2) (.ok (.ret (.ref z)))) 0 zve (fun ad tk=>[]) (fun ad tk=>(.val (.ref z))):=.mk' 4 0 (by kernel_rfl)
theorem lwA5s (P : Params) (u : 'f') (sc : Addr) (d : Addr) (tx : Str) (tT : Tok) (q : Addr) (ps : Addr) (rf : Str) (rT : Tok) (sl : Array (Option Value)) (L : Addr) (p : 'f') (n : Nat) (b : Addr) (m : Nat) (y : Str) (yT : Tok) (y2 : Str) (y2T : Tok) (ad0 : Nat->Addr) (tk0 : 'f') (ad1 : Nat->Addr) (tk1 : 'f') (ad2 : Nat->Addr) (tk2 : 'f') : LfT P (Tf P) [] [] [] (ttOf (lwA5b_q P u sc d tx tT q ps rf rT sl L p n b m y yT ad0 tk0 ad1 tk1 ad2 tk2) (.ok (.ret (.str y2 y2T)))) 0 zve (fun ad tk=>[]) (fun ad tk=>(.val (.str y2 y2T))):=.mk' 4 0 (by kernel_rfl)
theorem lwNe : Lf P (Tf P) [] [] [xF] (Fast.tw12886488535604756494 .NotEq (.str m1 m1T) (.str m2 m2T)) 0 (fun ad tk=>[(zX (zB zb9 [(.str m1 m1T),(.str m2 m2T)]) xF)]) (fun ad tk=>[]) (fun ad tk=>(.val (.bool false))):=by revert P; refine Lf.rw1 5 255 ?_ ?_ <;> kernel_rfl
theorem lwEq : Lf P (Tf P) [] [] [xT] (Fast.tw12886488535604756494 .Eq (.str m1 m1T) (.str m2 m2T)) 0 (fun ad tk=>[(zX (zB zb5 [(.str m1 m1T),(.str m2 m2T)]) xT)]) (fun ad tk=>[]) (fun ad tk=>(.val (.bool true))):=by revert P; refine Lf.rw1 5 255 ?_ ?_ <;> kernel_rfl
end
end
section
open PySem PySem.W PySem.W.X PyProof.Rows PySem.Builtin PySem.Builtin.Str PySem.Builtin.Int
variable {w : World} {A : Around} {h₀ : Heap} {s : Shared} {E : Value->Shared->Prop}
noncomputable def sTg : Stmt->Expr
 | .Assign (t :: _) _ _=>t
 | _=>.Constant .none 0 default
noncomputable def aPos : Stmt->Pos
 | .Assign _ _ p=>p
 | _=>default
noncomputable def yPos : Expr->Pos
 | .Compare _ _ _ p=>p
 | .IfExp _ _ _ p=>p
 | .Subscript _ _ p=>p
 | .Slice _ _ _ p=>p
 | .ListComp _ _ _ p=>p
 | .BinOp _ _ _ p=>p
 | e=>xPos e
noncomputable def sbV : Expr->Expr
 | .Subscript v _ _=>v
 | e=>e
noncomputable def sbS : Expr->Expr
 | .Subscript _ s _=>s
 | .Slice _ (some u) _ _=>u
 | e=>e
noncomputable def gElt : Expr->Expr
 | .ListComp e _ _ _=>e
 | e=>e
noncomputable def gTgt : Expr->Expr
 | .ListComp _ (g :: _) _ _=>g.target
 | e=>e
noncomputable def gIter : Expr->Expr
 | .ListComp _ (g :: _) _ _=>g.iter
 | e=>e
noncomputable def gScope : Expr->Scope
 | .ListComp _ _ s _=>s
 | _=>default
noncomputable def vS0 : Expr:=sVal (sNth body788 0)
theorem lw_st0 : sNth body788 0 = .Assign [.Name s!"drawn" (xPos (sTg (sNth body788 0)))] (.IfExp (.Compare (xL (xL vS0)) [.NotEq] [xR (xL vS0)] (yPos (xL vS0))) (.Subscript (sbV (xR vS0)) (.Slice none (some (.Constant (.int 12) (xKd (sbS (sbS (xR vS0)))) (xPos (sbS (sbS (xR vS0)))))) none (yPos (sbS (xR vS0)))) (yPos (xR vS0))) (xE vS0) (yPos vS0)) (aPos (sNth body788 0)):=by kernel_rfl!
theorem lw_sw0 (L : Addr) : swapsWith (.IfExp (.Compare (xL (xL vS0)) [.NotEq] [xR (xL vS0)] (yPos (xL vS0))) (.Subscript (sbV (xR vS0)) (.Slice none (some (.Constant (.int 12) (xKd (sbS (sbS (xR vS0)))) (xPos (sbS (sbS (xR vS0)))))) none (yPos (sbS (xR vS0)))) (yPos (xR vS0))) (xE vS0) (yPos vS0)) (some (.Name s!"drawn" (xPos (sTg (sNth body788 0))))) (aPos (sNth body788 0)).line (env788 L) = pure false:=by kernel_rfl!
theorem lw_be0 : behindInMarks .NotEq (xR (xL vS0)) = false:=by kernel_rfl!
section
variable (P : Params) (u : Nat->Tok) (sc L : Addr) (k : Nat->Tok) (d : Addr) (t : Tok)
theorem lw_nm0 : Lf P (Tf P) [L] [lwf1 P u sc] [] (zEV (sbV (xR vS0)) (env788 L)) 0 zve (fun ad tk=>[lwf1 P u sc]) (fun ad tk=>.val (.ref sc)):=.mk' 5 1 (by kernel_rfl)
noncomputable def defNs : List Int:=[5,6,7,0,6,0,3,2,7,5,1,1]
noncomputable def drawnOf (ns : List Int) : List Int:=match ns with
 | []=>defNs
 | n :: r=>(n :: r).take 12
theorem drawnOf_len (ns : List Int) : (drawnOf ns).length ≤ 12:=by
 cases ns with
 | nil=>decide
 | cons n r=>simp only [drawnOf,List.length_take]; omega
theorem lwf1_eq : law_fr P sc k = lwf1 P k sc:=by kernel_rfl!
theorem lwf2_eq : sn (lwf1 P u sc) (en P s!"drawn" t (.ref d)) = lwf2 P (uP (u 0) t 0) sc d:=by kernel_rfl!
theorem lw_s0 {sc L : Addr} {u : 'f'} {vs : List Value} {ns : List Int} {Q : Flow->Shared->Prop} (X : 'r') (hsc : h₀.IsList sc vs.toArray) (hi : IntsAre vs ns) (hnl : ns.length ≤ 63)
  (R : Rep h₀ [L] [lwf1 w.params u sc] s.heap) (hh : 'g') (hu : A.units + 64 < cLine)
  (h : ∀ u' d ds s',s'.heap.IsList d ds.toArray->d ≠ L->IntsAre ds (drawnOf ns)->Rep h₀ [L] [lwf2 w.params u' sc d] s'.heap->Same s s'->Q .next s') : WP w A (exec (sNth body788 0) (env788 L)) Q E s:=by
 rw [lw_st0]
 refine wpAny_Assign_Name ?_ (lw_sw0 L)
 refine wpAny_IfExp ?_
 refine wpAny_isTrue_Compare1 ?_ lw_be0
 have q1:=lwNs w.params u sc L
 rw [← tw_eval] at q1
 have q2:=lwE0 w.params u sc L
 rw [← tw_eval] at q2
 have q3:=lwDi w.params u sc L
 rw [← tw_eval] at q3
 have ne : ∀ {d : Addr} {ds : Array Value} {h : Heap} {fr : Obj},h.IsList d ds->h.get? L = some fr->(∀ ds n,fr.data ≠ .seq ds n)->d ≠ L:=by
  rintro d ds h fr ⟨o,e1,_,n,e2⟩ e3 e4 rfl
  rw [e1] at e3; cases e3
  exact e4 _ _ e2
 have store : ∀ (d : Addr) (ds : List Value) (s1 : Shared),s1.heap.IsList d ds.toArray->IntsAre ds (drawnOf ns)->Rep h₀ [L] [lwf1 w.params u sc] s1.heap->Same s s1->WP w A (storeName (env788 L) ⟨⟨[nat_lit 100,nat_lit 114,nat_lit 97,nat_lit 119,nat_lit 110]⟩⟩ (.ref d)) (fun _=>Q .next) E s1:=by
  intro d ds s1 hd1 hi1 R1 S1
  have nd : d ≠ L:=ne hd1 (R1.cell 0 L _ rfl rfl) (by unfold lwf1; nofun)
  refine (lwSd w.params u sc L d).run X R1 hh 'a' 'e' ?_
  intro ad tk s2 R2 K2 S2
  rw [lwf2_eq] at R2
  obtain ⟨o,e1,e2⟩:=hd1
  exact h _ d ds s2 ⟨o,K2 d o (by simpa using nd) e1,e2⟩ nd hi1 (by simpa using R2) (S1.trans S2)
 refine q1.run X R hh 'a' 'e' ?_
 intro ad tk s1 R1 K1 S1
 replace R1 : Rep h₀ [L] [lwf1 w.params u sc] s1.heap:=by simpa using R1
 show WP w A (eval (xR (xL vS0)) (env788 L)) _ E s1
 refine q2.run X R1 hh 'a' 'e' ?_
 intro ad2 tk2 s2 R2 K2 S2
 have hsc2 : s2.heap.IsList sc vs.toArray:=by
  obtain ⟨o,e1,e2⟩:=hsc
  exact ⟨o,R2.keep _ _ e1,e2⟩
 have he2 : s2.heap.IsList (ad2 0) ([] : List Value).toArray:=⟨_,R2.cell 1 (ad2 0) _ rfl rfl,rfl,_,rfl⟩
 have R3 : Rep h₀ [L] [lwf1 w.params u sc] s2.heap:=R2.pick [0] (by decide) (by simp)
 refine ne_intsK (ns:=ns) (ms:=[]) hsc2 hi he2 .nil hu ?_
 refine wpAny_truthy_bool ?_
 cases ns with
 | nil =>
  have e : (!decide (([] : List Int) = ([] : List Int))) = false:=by decide
  rw [e,if_neg Bool.false_ne_true]
  refine @Lf.run _ _ _ _ _ _ _ _ _ _ q3 A h₀ s2 _ E X R3 hh 'a' 'e' ?_
  intro ad4 tk4 s4 R4 K4 S4
  have R5 : Rep h₀ [L] [lwf1 w.params u sc] s4.heap:=R4.pick [0] (by decide) (by simp)
  refine store (ad4 0) _ s4 ⟨_,R4.cell 1 (ad4 0) _ rfl rfl,rfl,_,rfl⟩ ?_ R5 ((S1.trans S2).trans S4)
  repeat' first | exact .nil | refine IntsAre.cons _ _ ?_
 | cons n r =>
  have e : (!decide (n :: r = ([] : List Int))) = true:=by simp
  rw [e,if_pos rfl]
  refine wpAny_Subscript_list_slice ?_
  have q4:=lw_nm0 w.params u sc L
  rw [← tw_eval] at q4
  refine @Lf.run _ _ _ _ _ _ _ _ _ _ q4 A h₀ s2 _ E X R3 hh 'a' 'e' ?_
  intro ad5 tk5 s5 R5 K5 S5
  replace R5 : Rep h₀ [L] [lwf1 w.params u sc] s5.heap:=by simpa using R5
  show WP w A (evalPart none (env788 L)) _ E s5
  refine evalPart_none_step ?_
  refine evalPart_some_step ?_
  refine wpAny_Constant_int ?_
  have hvl : vs.length = (n :: r).length:=IntsAre.length hi
  refine ⟨sc,vs.toArray,none,some 12,rfl,?_,?_,.none,.int _ _,?_⟩
  ·obtain ⟨o,e1,e2⟩:=hsc
   exact ⟨o,R5.keep _ _ e1,e2⟩
  ·have hs : (63 : Nat) ≤ sizeLine:=by decide +kernel
   show vs.length ≤ _
   omega
  ·dsimp only
   have k6 : Keep s5.heap ((s5.heap.push { cls:=.type "slice",data:=.fields #[.none,.int 12 s5.toks,.none] }).push { cls:=.type "list",data:=.seq (slicePick vs.toArray none (some 12) none) }):=fun b o q=>Heap.get?_push_of_some _ (Heap.get?_push_of_some _ q)
   refine store _ (slicePick vs.toArray none (some 12) none).toList _ ?_ ?_ (R5.keeps k6) ((S1.trans S2).trans (S5.trans ⟨rfl,rfl,rfl⟩))
   ·refine ⟨{ cls:=.type "list",data:=.seq (slicePick vs.toArray none (some 12) none) },?_,rfl,_,rfl⟩
    have:=Heap.get?_push_size (s5.heap.push { cls:=.type "slice",data:=.fields #[.none,.int 12 s5.toks,.none] }) (o:={ cls:=.type "list",data:=.seq (slicePick vs.toArray none (some 12) none) }) rfl
    rw [Heap.size_push] at this
    exact this
   ·exact slice_ints_uptoW hi (y:=12) (by decide)
end
end
section
open PySem PySem.W PySem.W.X PyProof.Rows PySem.Builtin PySem.Builtin.Str PySem.Builtin.Int PySem.StrLaws
variable {w : World} {A : Around} {h₀ : Heap} {s : Shared} {E : Value->Shared->Prop}
noncomputable def vS1 : Expr:=sVal (sNth body788 1)
noncomputable def lc1 : Expr:=cArg vS1
noncomputable def lc0 : Expr:=gIter lc1
noncomputable def cE1 : Expr:=gElt lc1
noncomputable def cE0 : Expr:=gElt lc0
noncomputable def lcT0 : Expr:=.ListComp cE0 [⟨.Name s!"number" (xPos (gTgt lc0)),gIter lc0,[],0⟩] (gScope lc0) (yPos lc0)
noncomputable def lcT1 : Expr:=.ListComp cE1 [⟨.Name a394 (xPos (gTgt lc1)),lcT0,[],0⟩] (gScope lc1) (yPos lc1)
noncomputable def joT : Expr:=.Constant (.str ⟨⟨[]⟩⟩) (xKd (xBase (cFn vS1))) (xPos (xBase (cFn vS1)))
theorem lw_st1 : sNth body788 1 = .Assign [.Name a253 (xPos (sTg (sNth body788 1)))] (.Call (.Attribute joT a241 (xPos (cFn vS1))) [lcT1] [] (xPos vS1)) (aPos (sNth body788 1)):=by kernel_rfl!
theorem lw_sw1 (L : Addr) : swapsWith (.Call (.Attribute joT a241 (xPos (cFn vS1))) [lcT1] [] (xPos vS1)) (some (.Name a253 (xPos (sTg (sNth body788 1))))) (aPos (sNth body788 1)).line (env788 L) = pure false:=by kernel_rfl!
section
variable (P : Params) (u : Nat->Tok) (sc d C L : Addr) (x : Value)
theorem lw_base1 : attributeBase joT a241 (env788 L) (eval joT (env788 L)) = eval joT (env788 L):=by kernel_rfl!
theorem lw_line1 : ((xPos (cFn vS1)).endLine == (xPos vS1).line) = true:=by kernel_rfl!
theorem lw_star1 : backTo (xPos vS1) (starEach [lcT1] (env788 L)) = [(false,eval lcT1 (env788 L))]:=by kernel_rfl!
theorem lw_names0 : (gScope lc0).names = [(s!".0",.local),(s!"number",.local)]:=by kernel_rfl!
theorem lw_names1 : (gScope lc1).names = [(s!".0",.local),(a394,.local),(a245,.globalImplicit)]:=by kernel_rfl!
theorem lw_kind0 : (gScope lc0).kind = .function:=by kernel_rfl!
theorem lw_kind1 : (gScope lc1).kind = .function:=by kernel_rfl!
theorem lw_fs0 : foldedSetIterable (gIter lc0) (env788 L) x = pure x:=by kernel_rfl!
theorem lw_fs1 : foldedSetIterable lcT0 (env788 L) x = pure x:=by kernel_rfl!
theorem lw_cE0 : cE0 = .BinOp (.Name s!"number" (xPos (xL cE0))) .Mod (.Constant (.int 1344) (xKd (xR cE0)) (xPos (xR cE0))) (yPos cE0):=by kernel_rfl!
theorem lw_cE1 : cE1 = .Call (.Name a245 (xPos (cFn cE1))) [.Name a394 (xPos (cArg cE1))] [] (xPos cE1):=by kernel_rfl!
theorem lw_nmD : Lf P (Tf P) [L] [lwf2 P u sc d] [] (zEV (gIter lc0) (env788 L)) 0 zve (fun ad tk=>[lwf2 P u sc d]) (fun ad tk=>.val (.ref d)):=.mk' 5 1 (by kernel_rfl)
theorem lw_nmS : Lf P (Tf P) [] [] [] (zEV (.Name a245 (xPos (cFn cE1))) (compEnv (gScope lc1) C (env788 L))) 0 zve (fun ad tk=>[]) (fun ad tk=>.val (.ref 748)):=.mk' 12 0 (by kernel_rfl)
theorem lw_unused : True:=trivial
theorem lw_k0 : (compEnv (gScope lc0) C (env788 L)).kindOf s!"number" = some .local:=by kernel_rfl!
theorem lw_k1 : (compEnv (gScope lc1) C (env788 L)).kindOf a394 = some .local:=by kernel_rfl!
theorem lw_ck0 (C L : Addr) : (compEnv (gScope lc0) C (env788 L)).scope.kind = .function:=lw_kind0
theorem lw_ck1 (C L : Addr) : (compEnv (gScope lc1) C (env788 L)).scope.kind = .function:=lw_kind1
noncomputable def sgTxt (n : Int) : List Nat:=sgN (n.fmod 1344).toNat
noncomputable def textOf (ns : List Int) : List Nat:=(ns.map sgTxt).flatten
noncomputable def F0 (v y : Value) : Prop:=∃ n t t',v = .int n t ∧ y = .int (n.fmod 1344) t'
noncomputable def F1 (v y : Value) : Prop:=∃ n t t',v = .int n t ∧ y = .str (mkS (sgN n.toNat)) t'
theorem paired0 : ∀ {vs : List Value} {ns : List Int} {ys : List Value},IntsAre vs ns->Paired F0 (vs.filter fun _=>true) ys->IntsAre ys (ns.map fun n=>n.fmod 1344)
 | _,_,_,.nil,h=>by
  cases h; exact .nil
 | _,_,_,.cons n t (vs:=vs) (ns:=ns) r,h=>by
  rw [List.filter_cons_of_pos rfl] at h
  cases h with
  | cons a b =>
   obtain ⟨m,t1,t2,e1,rfl⟩:=a
   cases e1
   exact .cons _ _ (paired0 r b)
theorem paired1 : ∀ {vs : List Value} {ns : List Int} {ys : List Value},IntsAre vs ns->Paired F1 (vs.filter fun _=>true) ys->StrsAre ys (ns.map fun n=>mkS (sgN n.toNat))
 | _,_,_,.nil,h=>by
  cases h; exact .nil
 | _,_,_,.cons n t (vs:=vs) (ns:=ns) r,h=>by
  rw [List.filter_cons_of_pos rfl] at h
  cases h with
  | cons a b =>
   obtain ⟨m,t1,t2,e1,rfl⟩:=a
   cases e1
   exact .cons _ _ (paired1 r b)
theorem fmod_nn (n : Int) : 0 ≤ n.fmod 1344:=by
 rw [Int.fmod_eq_emod_of_nonneg _ (by omega)]; exact Int.emod_nonneg _ (by decide)
theorem intsMem {v : Value} : ∀ {vs : List Value} {ns : List Int},IntsAre vs ns->v ∈ vs->∃ n t,v = .int n t ∧ n ∈ ns
 | _,_,.nil,h=>by cases h
 | _,_,.cons n t r,h=>by
  rcases List.mem_cons.mp h with rfl | h
  ·exact ⟨n,t,rfl,.head _⟩
  ·obtain ⟨m,t',e,hm⟩:=intsMem r h
   exact ⟨m,t',e,.tail _ hm⟩
theorem lw_lc0 {sc d L : Addr} {u : 'f'} {ds : List Value} {ns : List Int} {Q : Value->Shared->Prop} (X : 'r') (hd : s.heap.IsList d ds.toArray) (nd : d ≠ L) (hi : IntsAre ds ns) (hn : ns.length ≤ 12)
  (R : Rep h₀ [L] [lwf2 w.params u sc d] s.heap) (hh : 'g')
  (h : ∀ z zs s',s'.heap.IsList z zs.toArray->IntsAre zs (ns.map fun n=>n.fmod 1344)->Rep h₀ [L] [lwf2 w.params u sc d] s'.heap->Same s s'->Q (.ref z) s') : WP w A (eval lcT0 (env788 L)) Q E s:=by
 unfold lcT0
 refine wpAny_ListComp_map (fun _=>true) F0 hh ?_ ?_ lw_kind0 ?_ ?_ ?_ (lw_fs0 L)
 ·rw [lw_names0]; decide +kernel
 ·rw [lw_names0]; decide +kernel
 ·rw [lw_names0]; decide +kernel
 ·rw [lw_names0]; decide +kernel
 ·have q1:=lw_nmD w.params u sc d L
  rw [← tw_eval] at q1
  refine q1.run X R hh 'a' 'e' ?_
  intro ad tk s1 R1 K1 S1
  replace R1 : Rep h₀ [L] [lwf2 w.params u sc d] s1.heap:=by simpa using R1
  refine ⟨d,ds.toArray,rfl,?_,?_,?_,?_,?_⟩
  ·obtain ⟨o,e1,e2⟩:=hd
   exact ⟨o,K1 d o (by simpa using nd) e1,e2⟩
  ·have hs : (12 : Nat) ≤ sizeLine:=by decide +kernel
   have:=IntsAre.length hi
   show ds.length ≤ _
   omega
  ·intro C v s2 m2 E' hv hns hm hk
   exact wpAny_tests_nil ⟨rfl,s2.heap,s2.toks,rfl,fun b o e=>e⟩
  ·intro C v s2 m2 E' hv _ hns hm hk
   obtain ⟨n,t,rfl,hnn⟩:=intsMem hi (by simpa using hv)
   rw [lw_cE0]
   refine wpAny_BinOp (wpAny_Name (wpAny_loadName_local (lw_ck0 C L) (lw_k0 C L) hns hm ?_) (by decide +kernel))
   refine wpAny_Constant_int ?_
   refine mod_int (by decide) ?_
   exact ⟨⟨n,t,_,rfl,rfl⟩,s2.heap,s2.toks + 1 + 1,rfl,fun b o e=>e⟩
  ·intro D h' tk' ys hD hl hp hk
   exact h D ys.toList _ (by simpa using hl) (paired0 hi (by simpa using hp)) (R1.keeps hk) (S1.trans ⟨rfl,rfl,rfl⟩)
theorem lw_lc1 {sc d L : Addr} {u : 'f'} {ds : List Value} {ns : List Int} {Q : Value->Shared->Prop} (X : 'r') (hd : s.heap.IsList d ds.toArray) (nd : d ≠ L) (hi : IntsAre ds ns) (hn : ns.length ≤ 12)
  (R : Rep h₀ [L] [lwf2 w.params u sc d] s.heap) (hh : 'g') (hdp : A.depth + 2 < recursionLimit)
  (h : ∀ z zs s',s'.heap.IsList z zs.toArray->StrsAre zs (ns.map fun n=>mkS (sgTxt n))->Rep h₀ [L] [lwf2 w.params u sc d] s'.heap->Same s s'->Q (.ref z) s') : WP w A (eval lcT1 (env788 L)) Q E s:=by
 unfold lcT1
 refine wpAny_ListComp_map (fun _=>true) F1 hh ?_ ?_ lw_kind1 ?_ ?_ ?_ (lw_fs1 L)
 ·rw [lw_names1]; decide +kernel
 ·rw [lw_names1]; decide +kernel
 ·rw [lw_names1]; decide +kernel
 ·rw [lw_names1]; decide +kernel
 ·refine lw_lc0 X hd nd hi hn R hh fun z zs s1 hz hzi R1 S1=>?_
  refine ⟨z,zs.toArray,rfl,hz,?_,?_,?_,?_⟩
  ·have hs : (12 : Nat) ≤ sizeLine:=by decide +kernel
   have:=IntsAre.length hzi
   rw [List.length_map] at this
   show zs.length ≤ _
   omega
  ·intro C v s2 m2 E' hv hns hm hk
   exact wpAny_tests_nil ⟨rfl,s2.heap,s2.toks,rfl,fun b o e=>e⟩
  ·intro C v s2 m2 E' hv _ hns hm hk
   obtain ⟨n,t,rfl,hnn⟩:=intsMem hzi (by simpa using hv)
   have h0 : 0 ≤ n:=by
    obtain ⟨m,_,rfl⟩:=List.mem_map.mp hnn
    exact fmod_nn m
   obtain ⟨k,rfl⟩ : ∃ k : Nat,n = (k : Int):=⟨n.toNat,by omega⟩
   have X2 : TopIn (Tf w.params) s2.heap:=fun a o e1 e2=>hk a o (R1.keep a o (X a o e1 e2))
   have q2:=lw_nmS w.params C L
   rw [← tw_eval] at q2
   rw [lw_cE1]
   refine Call_Name rfl ?_
   refine q2.run X2 (rep_nil s2.heap) hh 'a' 'e' ?_
   intro ad tk s3 R3 K3 S3
   have k3 : Keep s2.heap s3.heap:=fun b o e=>R3.keep b o e
   refine callWith_def (o:=o748) (fd:=fd748) rfl ?_
   refine Calls.spliced_cons ?_
   refine wpAny_Name (wpAny_loadName_local (lw_ck1 C L) (lw_k1 C L) (hns.keeps k3) hm ?_) (by decide +kernel)
   refine Calls.spliced_nil ?_
   have X3 : TopIn (Tf w.params) s3.heap:=fun a o e1 e2=>k3 a o (X2 a o e1 e2)
   refine ⟨X3 748 _ (top748 w.params) rfl,?_⟩
   refine wpAny_call ?_
   refine codeAny_mono ((sg_con k t (D:=A.depth) (U:=A.units) (by omega)) A s3.heap s3 (Nat.le_refl _) (Nat.le_refl _) hh X3 (rep_nil s3.heap)) ?_
   rintro r s4 ⟨ad4,tk4,rfl,R4,S4⟩
   refine ⟨⟨(k : Int),t,_,rfl,rfl⟩,s4.heap,s4.toks,?_,fun b o e=>R4.keep b o (k3 b o e)⟩
   have S:=(S3.trans S4)
   obtain ⟨h1,h2,h3⟩:=S
   cases s2; cases s4
   simp only [Shared.mk.injEq] at h1 h2 h3 ⊢
   simp_all
  ·intro D h' tk' ys hD hl hp hk
   refine h D ys.toList _ (by simpa using hl) ?_ (R1.keeps hk) (S1.trans ⟨rfl,rfl,rfl⟩)
   have:=paired1 hzi (by simpa using hp)
   rw [List.map_map] at this
   exact this
end
variable {w : World} {A : Around} {s : Shared} {R : Result->Shared->Prop}
theorem glue_fold : ∀ (ls : List (List Nat)) (acc : Array Nat),((ls.map mkS).foldl (fun acc p=>acc ++ (⟨⟨[]⟩⟩ : Str).cps ++ p.cps) acc).toList = acc.toList ++ ls.flatten
 | [],acc=>by simp
 | l :: ls,acc=>by
  simp only [List.map_cons,List.foldl_cons,List.flatten_cons]
  rw [glue_fold ls]
  simp [mkS]
theorem glue0 (ls : List (List Nat)) : glued ⟨⟨[]⟩⟩ (ls.map mkS) = ⟨⟨ls.flatten⟩⟩:=by
 cases ls with
 | nil=>rfl
 | cons l ls =>
  unfold glued
  simp only [List.map_cons,List.drop_succ_cons,List.drop_zero,List.headD_cons]
  congr 1
  apply Array.ext'
  rw [glue_fold ls]
  simp [mkS]
theorem sgN_len (n : Nat) : (sgN n).length ≤ 1:=by
 unfold sgN
 split <;> simp
theorem flat_len : ∀ (ls : List (List Nat)),(∀ l ∈ ls,l.length ≤ 1)->ls.flatten.length ≤ ls.length
 | [],_=>by simp
 | l :: ls,h=>by
  have h1:=h l (.head _)
  have h2:=flat_len ls fun x hx=>h x (.tail _ hx)
  simp only [List.flatten_cons,List.length_append,List.length_cons]
  omega
theorem textOf_len (ns : List Int) : (textOf ns).length ≤ ns.length:=by
 unfold textOf
 have:=flat_len (ns.map sgTxt) (by
  intro l hl
  obtain ⟨n,_,rfl⟩:=List.mem_map.mp hl
  exact sgN_len _)
 rw [List.length_map] at this
 exact this
theorem join0_code {z : Addr} {t : Tok} {vs : List Value} {ls : List (List Nat)} (hz : s.heap.IsList z vs.toArray) (hv : StrsAre vs (ls.map mkS)) (hl : ls.length ≤ 12) (h1 : ∀ l ∈ ls,l.length ≤ 1)
  (H : ∀ zT s',Keep s.heap s'.heap->Same s s'->R (.ok (.ret (.str ⟨⟨ls.flatten⟩⟩ zT))) s') : CA w A (.call (.builtin "str.join") ⟨[.str ⟨⟨[]⟩⟩ t,.ref z],[]⟩) R s:=by
 obtain ⟨l,rfl,hlm⟩:=strsAre_values hv
 have hS : (1002 : Nat) ≤ sizeLine:=by decide +kernel
 have hlen : l.length = ls.length:=by have:=congrArg List.length hlm; simpa using this
 have hf : tooLong ((l.map (·.1)).toArray.foldl (· + ·.length + (⟨⟨[]⟩⟩ : Str).length) 0) = false:=joinFits (B:=1) (by
  intro y hy
  rw [hlm] at hy
  obtain ⟨x,hx,rfl⟩:=List.mem_map.mp hy
  exact h1 x hx) (by
  have e : (⟨⟨[]⟩⟩ : Str).length = 0:=rfl
  rw [e,List.length_map]
  omega)
 refine codeAny_call_builtin F.slot_str_join.plain F.entry_str_join (F.slot_str_join.check _ _ _ _ _ _ _ _ (typeIs_str s _ t) (F.args_str_join_2 _ _) (meets_str_join_list _ t z l hf pw w A _ s ⟨hz,?_⟩))
 have hg : glued ⟨⟨[]⟩⟩ (l.map (·.1)) = ⟨⟨ls.flatten⟩⟩:=by rw [hlm,glue0]
 have hfl:=flat_len ls h1
 have big : (Made.str (glued ⟨⟨[]⟩⟩ (l.map (·.1)))).post (fun v s'=>R (.ok (.ret v)) s') s:=by
  rw [hg]
  exact ⟨by show ls.flatten.length ≤ _; omega,H _ _ (fun b o q=>q) ⟨rfl,rfl,rfl⟩⟩
 cases l with
 | nil=>exact big
 | cons q l =>
  cases l with
  | nil =>
   have e : glued ⟨⟨[]⟩⟩ [q.1] = q.1:=by rfl
   rw [show List.map (·.1) [q] = [q.1] from rfl,e] at hg
   show R (.ok (.ret (.str q.1 q.2))) s
   rw [hg]
   exact H _ _ (fun b o q=>q) ⟨rfl,rfl,rfl⟩
  | cons r l=>exact big
theorem lw_star1' (L : Addr) : starEach [lcT1] (env788 L) = (false,eval lcT1 (env788 L)) :: starEach [] (env788 L):=by kernel_rfl!
theorem lwf3_eq (P : Params) (u : 'f') (sc : Addr) (d : Addr) (tx : Str) (tT : Tok) (t : Tok) : sn (lwf2 P u sc d) (en P a253 t (.str tx tT)) = lwf3 P (uP (u 0) (u 1) t) sc d tx tT:=by kernel_rfl!
theorem lw_s1 {w : World} {sc d L : Addr} {u : 'f'} {ds : List Value} {ns : List Int} {A : Around} {h₀ : Heap} {s : Shared} {Q : Flow->Shared->Prop} {E : Value->Shared->Prop} (X : 'r') (hd : s.heap.IsList d ds.toArray) (nd : d ≠ L) (hi : IntsAre ds ns) (hn : ns.length ≤ 12)
  (R : Rep h₀ [L] [lwf2 w.params u sc d] s.heap) (hh : 'g') (hdp : A.depth + 2 < recursionLimit)
  (h : ∀ u' tT s',Rep h₀ [L] [lwf3 w.params u' sc d ⟨⟨textOf ns⟩⟩ tT] s'.heap->Same s s'->Q .next s') : WP w A (exec (sNth body788 1) (env788 L)) Q E s:=by
 rw [lw_st1]
 refine @wpAny_Assign_Name _ _ _ _ _ _ _ _ _ _ ?_ (lw_sw1 L)
 refine @wpAny_Call_method1_late _ _ _ _ _ _ _ _ _ _ _ _ (lw_base1 L) lw_line1 (lw_star1 L) ?_
 unfold joT
 refine wpAny_Constant_str ?_
 refine ⟨"str","str.join",F.plainAttrs_str,F.slot_str_join,F.type_str_join,typeIs_str _ _ _,(by intro a q; cases q),?_⟩
 rw [← lw_star1 L]
 refine callWith_method1 ?_ (lw_star1' L)
 refine Calls.spliced_cons ?_
 have S0 : Same s { s with toks:=s.toks + 1 }:=⟨rfl,rfl,rfl⟩
 refine lw_lc1 X hd nd hi hn (R.keeps fun b o q=>q) hh hdp fun z zs s1 hz hzs R1 S1=>?_
 refine Calls.spliced_nil ?_
 refine wpAny_call ?_
 refine join0_code (ls:=ns.map sgTxt) hz (by rw [List.map_map]; exact hzs) (by rw [List.length_map]; exact hn) (by
  intro l hl
  obtain ⟨n,_,rfl⟩:=List.mem_map.mp hl
  exact sgN_len _) fun zT s2 K2 S2=>?_
 have R2:=R1.keeps K2
 refine (lwSt w.params u sc d L ⟨⟨textOf ns⟩⟩ zT).run X R2 hh 'a' 'e' ?_
 intro ad tk s3 R3 K3 S3
 rw [lwf3_eq] at R3
 exact h _ zT s3 (by simpa using R3) (S0.trans (S1.trans (S2.trans S3)))
variable {w : World} {A : Around} {h₀ : Heap} {s : Shared} {E : Value->Shared->Prop}
theorem strs_get {vs us : List Value} {ts : List Str} (h1 : StrsAre vs ts) : ∀ {us : List Value},StrsAre us ts->vs.length = us.length ∧ ∀ (A : Around) (s : Shared) j (h1 : j < vs.length) (h2 : j < us.length),SeqAt.EqAt A s vs[j] us[j] true:=by
 induction h1 with
 | nil =>
  intro us h2
  cases h2
  exact ⟨rfl,fun A s j h1 _=>absurd h1 (Nat.not_lt_zero _)⟩
 | cons y t h1 ih =>
  intro us h2
  cases h2 with
  | cons _ u h2 =>
   obtain ⟨e,h⟩:=ih h2
   refine ⟨by simp [e],fun A s j h1 h2=>?_⟩
   cases j with
   | zero =>
    have:=SeqAt.EqAt.str_str (A:=A) (s:=s) y t y u
    rwa [beq_self_eq_true] at this
   | succ j=>exact h A s j (by simpa using h1) (by simpa using h2)
theorem all_true {α : Type} : ∀ (l : List α),(l.all fun _=>true) = true
 | []=>rfl
 | _ :: l=>by rw [List.all_cons,all_true l]; rfl
theorem fr_ty : Value.type SL.s658472552662922059x5 ≠ .type "tuple":=by decide
theorem eq_strs {Q : Value->Shared->Prop} {a b : Addr} {vs us : List Value} {n m : Nat} {ts : List Str} (ha : s.heap.get? a = some (lst vs n)) (hb : s.heap.get? b = some (lst us m)) (hv : StrsAre vs ts) (hu : StrsAre us ts) (hU : A.units < cLine)
  (h : Q (.bool true) s) : WP w A (compareOp .Eq (.ref a) (.ref b)) Q E s:=by
 obtain ⟨e,g⟩:=strs_get (us:=us) hv hu
 have q:=SeqAt.RcAt.lists (A:=A) (s:=s) (l:=a) (b:=b) (items:=vs.toArray) (items2:=us.toArray) (e:=fun _=>true) ⟨_,ha,rfl,_,rfl⟩ ⟨_,hb,rfl,_,rfl⟩ (by simpa using e) hU (fun j h1 h2=>by
  have:=g A.in1 s j (by simpa using h1) (by simpa using h2)
  simpa using this)
 exact q pw w E Q (by rw [all_true]; exact h)
theorem ne_strs {Q : Value->Shared->Prop} {a b : Addr} {vs us : List Value} {n m : Nat} {ts : List Str} (ha : s.heap.get? a = some (lst vs n)) (hb : s.heap.get? b = some (lst us m)) (hv : StrsAre vs ts) (hu : StrsAre us ts) (hU : A.units < cLine)
  (h : Q (.bool false) s) : WP w A (compareOp .NotEq (.ref a) (.ref b)) Q E s:=by
 obtain ⟨e,g⟩:=strs_get (us:=us) hv hu
 have q:=SeqAt.RcNeAt.lists (A:=A) (s:=s) (l:=a) (b:=b) (items:=vs.toArray) (items2:=us.toArray) (e:=fun _=>true) ⟨_,ha,rfl,_,rfl⟩ ⟨_,hb,rfl,_,rfl⟩ (by simpa using e) hU (fun j h1 h2=>by
  have:=g A.in1 s j (by simpa using h1) (by simpa using h2)
  simpa using this)
 exact q pw w E Q (by rw [all_true]; exact h)
theorem one_alone {P : Params} {h : Heap} {L : Addr} {o : Obj} (X : TopIn (Tf P) h) (h1 : h.get? L = some o) (n1 : NTop P L) : TopIn (Tf P) (hideAll h [L]) ∧ Rep (hideAll h [L]) [L] [o] h:=by
 refine ⟨fun a x e1 e2=>hideAll_get _ (X a x e1 e2) (fun q=>?_),⟨rfl,by simp,?_,fun b hb=>hideAll_none _ hb,fun b x q=>of_hideAll _ q⟩⟩
 ·simp only [List.mem_singleton] at q
  subst q
  exact n1 x e1 e2
 ·intro m b x e1 e2
  match m,e1,e2 with
  | 0,e1,e2=>simp at e1 e2; subst e1 e2; exact h1
  | m + 1,e1,e2=>simp at e1
structure LwSt (P : Params) (h₀ : Heap) (sc d : Addr) (tx : Str) (tT : Tok) (q ps : Addr) (rf : Str) (L : Addr) (pk : Nat->Tok) (n : Nat) (vs : List Value) (k : Nat) (l : List (Ro × List Nat)) (s : Shared) : Prop where
 top : TopIn (Tf P) s.heap
 nt : NTop P L
 fr : ∃ u rT sl,s.heap.get? L = some (lwf6 P u sc d tx tT q ps rf rT sl)
 gq : s.heap.get? q = some (lst (prV pk) n)
 nq : NTop P q
 gps : s.heap.get? ps = some (lst vs k)
 parts : PartsAre P [L] s.heap vs l
 old : Keep h₀ s.heap
 frh : h₀.get? L = none
theorem lw_ne_lst {P : Params} {h : Heap} {u : 'f'} {sc d : Addr} {tx : Str} {tT : Tok} {q ps : Addr} {rf : Str} {rT : Tok} {sl : Array (Option Value)} {L x : Addr} {ws : List Value} {n : Nat} (h1 : h.get? L = some (lwf6 P u sc d tx tT q ps rf rT sl)) (h2 : h.get? x = some (lst ws n)) : x ≠ L:=by
 rintro rfl
 rw [h1] at h2; cases h2
theorem LwSt.keep {P : Params} {sc d : Addr} {tx : Str} {tT : Tok} {q ps : Addr} {rf : Str} {L : Addr} {pk : 'f'} {n : Nat} {vs : List Value} {k : Nat} {l : List (Ro × List Nat)} {s s' : Shared} (S : LwSt P h₀ sc d tx tT q ps rf L pk n vs k l s) (K : Kept [L] s.heap s'.heap)
  (hf : ∃ u rT sl,s'.heap.get? L = some (lwf6 P u sc d tx tT q ps rf rT sl)) : LwSt P h₀ sc d tx tT q ps rf L pk n vs k l s':=by
 obtain ⟨u,rT,sl,h1⟩:=S.fr
 refine ⟨fun a o e1 e2=>K a o (fun q=>?_) (S.top a o e1 e2),S.nt,hf,K _ _ (by simpa using lw_ne_lst h1 S.gq) S.gq,S.nq,K _ _ (by simpa using lw_ne_lst h1 S.gps) S.gps,S.parts.keep K,fun b o e=>K b o (fun q=>?_) (S.old b o e),S.frh⟩
 simp only [List.mem_singleton] at q
 subst q
 exact S.nt o e1 e2
 simp only [List.mem_singleton] at q
 subst q
 have:=S.frh
 rw [e] at this; cases this
theorem LwSt.all {P : Params} {sc d : Addr} {tx : Str} {tT : Tok} {q ps : Addr} {rf : Str} {L : Addr} {pk : 'f'} {n : Nat} {vs : List Value} {k : Nat} {l : List (Ro × List Nat)} {s s' : Shared} (S : LwSt P h₀ sc d tx tT q ps rf L pk n vs k l s) (K : Keep s.heap s'.heap) : LwSt P h₀ sc d tx tT q ps rf L pk n vs k l s' :=
 S.keep (fun b o _ e=>K b o e) (let ⟨u,rT,sl,h⟩:=S.fr; ⟨u,rT,sl,K _ _ h⟩)
noncomputable def pkOf (tk : Nat->Tok) : Nat->Tok:=fun i=>match i with
 | 0=>tk 1
 | 1=>tk 6
 | 2=>tk 9
 | 3=>tk 14
 | 4=>tk 17
 | 5=>tk 22
 | 6=>tk 25
 | 7=>tk 30
 | 8=>tk 33
 | 9=>tk 38
 | 10=>tk 41
 | 11=>tk 46
 | 12=>tk 49
 | _=>tk 54
theorem lwf4_eq (P : Params) (u : 'f') (sc : Addr) (d : Addr) (tx : Str) (tT : Tok) (q : Addr) (t : Tok) : sn (lwf3 P u sc d tx tT) (en P a254 t (.ref q)) = lwf4 P (uN u 3 t) sc d tx tT q:=by kernel_rfl!
theorem lwf6_eq (P : Params) (u : 'f') (sc : Addr) (d : Addr) (tx : Str) (tT : Tok) (q : Addr) (p : Addr) (t : Tok) (t' : Tok) (r1 : Str) (r1T : Tok) : sn (sn (lwf4 P u sc d tx tT q) (en P a455 t (.ref p))) (zE P s!"refusal" t' r1 r1T) = lwf6 P (uN (uN u 4 t) 5 t') sc d tx tT q p r1 r1T ⟨[]⟩:=by kernel_rfl!
theorem lw_s2 {sc d L : Addr} {u : 'f'} {tx : Str} {tT : Tok} {Q : Flow->Shared->Prop} (X : 'r')
  (R : Rep h₀ [L] [lwf3 w.params u sc d tx tT] s.heap) (hh : 'g')
  (h : ∀ u' q pk s',Rep h₀ [L,q] [lwf4 w.params u' sc d tx tT q,lst (prV pk) 14] s'.heap->Same s s'->Q .next s') : WP w A (execs [sNth body788 2] (env788 L)) Q E s:=by
 have q1:=lawP w.params u sc d tx tT L
 rw [← tw_execs] at q1
 refine @Lf.run _ _ _ _ _ _ _ _ _ _ q1 A h₀ s _ E X R hh 'a' 'e' ?_
 intro ad tk s1 R1 K1 S1
 rw [lwf4_eq] at R1
 have R2 : Rep h₀ [L,ad 1] [lwf4 w.params (uN u 3 (tk 57)) sc d tx tT (ad 1),lst (prV (pkOf tk)) 14] s1.heap:=Rep.pick (as:=[L,ad 0,ad 1]) R1 [0,2] (by decide) (by simp)
 exact h _ (ad 1) (pkOf tk) s1 R2 S1
theorem lw_s3 {sc d L q : Addr} {u : 'f'} {tx : Str} {tT : Tok} {pk : 'f'} {n : Nat} {Q : Flow->Shared->Prop} (X : 'r') (hlen : tx.cps.toList.length ≤ 400)
  (R : Rep h₀ [L,q] [lwf4 w.params u sc d tx tT q,lst (prV pk) n] s.heap) (hh : 'g') (hd : A.depth < recursionLimit)
  (h : ∀ ps vs k s',LwSt w.params h₀ sc d tx tT q ps (refS (prun .non tx.cps.toList).1) L pk n vs k (prun .non tx.cps.toList).2 s'->Same s s'->Q .next s') : WP w A (execs [sNth body788 3] (env788 L)) Q E s:=by
 have q1:=lwPa w.params u sc d tx tT q L
 rw [← tw_execs] at q1
 have hqL : q ≠ L:=by
  have:=R.nd
  simp only [List.nodup_cons,List.mem_singleton] at this
  exact fun e=>this.1 e.symm
 refine @Lf.part _ _ [L] [q] _ [lst (prV pk) n] _ _ _ _ _ q1 A h₀ s _ E X R rfl hh 'a' 'e' ?_
 intro ad tk s1 R1 K1 S1 A' d1 d2 d3 d4 d5
 have X1 : TopIn (Tf w.params) s1.heap:=X.now R1
 refine pa_code tx tT hlen (by omega) d3 X1 ?_
 intro z p t vs k s2 K2 hz hp np gz gp hps S2
 have gL : s1.heap.get? L = some (lwf4 w.params u sc d tx tT q):=R1.cell 0 L _ rfl rfl
 have gq : s1.heap.get? q = some (lst (prV pk) n):=R1.cell 1 q _ rfl rfl
 have nL : NTop w.params L:=R1.ntop X (.head _)
 have zL : L ≠ z:=fun e=>by rw [← e] at hz; rw [hz] at gL; cases gL
 have nz : NTop w.params z:=fun o e1 e2=>by
  have:=X1 z o e1 e2
  rw [hz] at this; cases this
 obtain ⟨X3,R3⟩:=two_alone (fun a o e1 e2=>K2 a o (X1 a o e1 e2)) (K2 _ _ gL) gz nL nz zL
 refine (lwPb w.params u sc d tx tT q L z p (refS (prun .non tx.cps.toList).1) t ad tk).sound X3 R3 'a' 'e' ?_
 intro ad4 tk4 s4 R4 S4
 rw [lwf6_eq] at R4
 have K4 : Kept [L] s2.heap s4.heap:=fun b o nb e=>by
  by_cases hbz : b = z
  ·subst hbz
   rw [gz] at e; cases e
   exact R4.cell 1 _ _ rfl rfl
  ·exact R4.keep b o (hideAll_get _ e (by
    simp only [List.mem_singleton] at nb
    simp [nb,hbz]))
 have pL : p ≠ L:=fun e=>by rw [e] at hp; rw [hp] at gL; cases gL
 have hps' : PartsAre w.params [L] s2.heap vs (prun .non tx.cps.toList).2:=hps.weak (fun b hb=>by
  simp only [List.mem_singleton] at hb
  subst hb
  exact .inr ⟨_,K2 _ _ gL,fr_ty⟩)
 refine h p vs k s4 ⟨fun a o e1 e2=>?_,nL,⟨_,_,_,R4.cell 0 L _ rfl rfl⟩,K4 _ _ (by simpa using hqL) (K2 _ _ gq),R1.ntop X (.tail _ (.head _)),K4 _ _ (by simpa using pL) gp,hps'.keep K4,fun b o e=>K4 b o (fun q=>?_) (K2 b o (R1.keep b o e)),R1.fresh L (.head _)⟩ (S1.trans (S2.trans S4))
 refine K4 a o (fun q=>?_) (K2 a o (X1 a o e1 e2))
 rotate_left
 ·simp only [List.mem_singleton] at q
  subst q
  have:=R1.fresh b (.head _)
  rw [e] at this; cases this
 simp only [List.mem_singleton] at q
 subst q
 exact nL o e1 e2
noncomputable def refE : Pl->Option Bool
 | .sq=>some true
 | .dq=>some true
 | .esc=>some false
 | .ed=>some false
 | _=>none
noncomputable def refT : Option Bool->Str
 | some b=>msgOf b
 | none=>⟨⟨[]⟩⟩
theorem refS_refE (pl : Pl) : refS pl = refT (refE pl):=by cases pl <;> rfl
theorem kd788 (L : Addr) : (env788 L).scope.kind ≠ .module:=by
 have h : (env788 L).scope.kind = .function:=by kernel_rfl!
 rw [h]; nofun
section
variable {w : World} {h₀ : Heap} {sc d : Addr} {tx : Str} {tT : Tok} {q ps : Addr} {rf : Str} {L : Addr} {pk : Nat->Tok} {n : Nat} {vs : List Value} {k : Nat} {l : List (Ro × List Nat)} {A : Around} {s : Shared} {Q : Value->Shared->Prop} {E : Value->Shared->Prop}
theorem lw_outer (S : LwSt w.params h₀ sc d tx tT q ps rf L pk n vs k l s) {A' : Around} (hfr : A'.frames = some [env788 L]) : Outer A' [env788 L] (hideAll s.heap [L]) s.heap:=by
 obtain ⟨u,rT,sl,gL⟩:=S.fr
 exact ⟨hfr,⟨kd788 L,⟨L,_,rfl,hideAll_none _ (.head _),gL,by unfold lwf6; nofun⟩,trivial⟩,fun b o e=>of_hideAll _ e⟩
theorem lw_after (S : LwSt w.params h₀ sc d tx tT q ps rf L pk n vs k l s) {s' : Shared} (g1 : (hideAll s.heap [L]).StaysIn s'.heap) (g2 : s.heap.UpToSlots s'.heap) : LwSt w.params h₀ sc d tx tT q ps rf L pk n vs k l s':=by
 obtain ⟨u,rT,sl,gL⟩:=S.fr
 refine S.keep (fun b o nb e=>g1 b o (hideAll_get _ e nb)) ?_
 obtain ⟨sl',e⟩:=g2 L _ gL (by unfold lwf6; nofun)
 exact ⟨u,rT,sl',e⟩
theorem lw_l4 (S : LwSt w.params h₀ sc d tx tT q ps rf L pk n vs k l s) (hfr : A.frames = some [env788 L]) (hh : 'g') (hd : A.depth + 20 < recursionLimit) (hu : A.units + 70 < cLine) (hal : ∀ c ∈ tx.cps.toList,c ∈ alpha) (hlen : tx.cps.toList.length ≤ 12)
  (hO : ∀ l',lexAll true (tx.cps.toList.length + 1) .sp tx.cps.toList = .ok l'->∀ z ws m s',LwSt w.params h₀ sc d tx tT q ps rf L pk n vs k l s'->s'.heap.get? z = some (lst ws m)->StrsAre ws (l'.map mkS)->Same s s'->Q (.ref z) s')
  (hE : ∀ b,lexAll true (tx.cps.toList.length + 1) .sp tx.cps.toList = .err b->∀ mT s',LwSt w.params h₀ sc d tx tT q ps rf L pk n vs k l s'->Same s s'->Q (.str (msgOf b) mT) s') (hF : lexAll true (tx.cps.toList.length + 1) .sp tx.cps.toList ≠ .out) :
  WP w A (eval (xL (sTest (sNth body788 4))) (env788 L)) Q E s:=by
 obtain ⟨u,rT,sl,gL⟩:=S.fr
 obtain ⟨X1,R1⟩:=one_alone S.top gL S.nt
 have q1:=lwA4 w.params u sc d tx tT q ps rf rT sl L
 rw [← tw_eval] at q1
 refine @Lf.run _ _ _ _ _ _ _ _ _ _ q1 A (hideAll s.heap [L]) s _ E X1 R1 hh 'a' 'e' ?_
 intro ad tk s1 R2 K1 S1 A' d1 d2 d3 d4 d5
 have T1 : LwSt w.params h₀ sc d tx tT q ps rf L pk n vs k l s1:=S.keep K1 ⟨u,rT,sl,R2.cell 0 L _ rfl rfl⟩
 have gL1 : s1.heap.get? L = some (lwf6 w.params u sc d tx tT q ps rf rT sl):=R2.cell 0 L _ rfl rfl
 have hs : (12 : Nat) ≤ sizeLine:=by decide +kernel
 have hsz : tx.length ≤ sizeLine:=by show tx.cps.size ≤ _; have:=hlen; rw [Array.length_toList] at this; omega
 refine ld_code tx tT hsz hal (by omega) (hideAll s1.heap [L]) [env788 L] (one_alone T1.top gL1 T1.nt).1 (by omega) (by have : A'.units ≤ A.units + 0:=d2; omega) d3 T1.top (lw_outer T1 (d4.trans hfr)) (rep_nil s1.heap) ⟨?_,?_,hF⟩
 ·intro l' hl z ws m s2 g1 g2 g3 g4 g5 g6
  have T2:=lw_after T1 g4 g5
  refine after_nil (base:=s2.heap) T2.top (fun b o e=>e) (lwA4r w.params u sc d tx tT q ps rf rT sl L z ad tk) fun s3 k3 S3=>?_
  exact hO l' hl z ws m s3 (T2.all k3) (k3 _ _ g3) g1 (S1.trans (g6.trans S3))
 ·intro b hb mT s2 g4 g5 g6
  have T2:=lw_after T1 g4 g5
  refine after_nil (base:=s2.heap) T2.top (fun b o e=>e) (lwA4s w.params u sc d tx tT q ps rf rT sl L (msgOf b) mT ad tk) fun s3 k3 S3=>?_
  exact hE b hb mT s3 (T2.all k3) (S1.trans (g6.trans S3))
theorem lw_r4 (S : LwSt w.params h₀ sc d tx tT q ps rf L pk n vs k l s) (hh : 'g') (hd : A.depth < recursionLimit) (o : Option Bool) (hrf : rf = refT o) (hll : l.length ≤ 300) (hsg : ∀ x ∈ l,x.2.length ≤ 1)
  (hO : o = none->∀ z ws m s',LwSt w.params h₀ sc d tx tT q ps rf L pk n vs k l s'->s'.heap.get? z = some (lst ws m)->StrsAre ws ((lrun .white [] l).map mkS)->Kept [L] s.heap s'.heap->Same s s'->Q (.ref z) s')
  (hE : ∀ b,o = some b->∀ mT s',LwSt w.params h₀ sc d tx tT q ps rf L pk n vs k l s'->Same s s'->Q (.str (msgOf b) mT) s') :
  WP w A (eval (xR (sTest (sNth body788 4))) (env788 L)) Q E s:=by
 obtain ⟨u,rT,sl,gL⟩:=S.fr
 subst hrf
 cases o with
 | none =>
  obtain ⟨X1,R1⟩:=one_alone S.top gL S.nt
  have q1:=lwB4 w.params u sc d tx tT q ps rT sl L
  rw [← tw_eval] at q1
  refine @Lf.run _ _ _ _ _ _ _ _ _ _ q1 A (hideAll s.heap [L]) s _ E X1 R1 hh 'a' 'e' ?_
  intro ad tk s1 R2 K1 S1 A' d1 d2 d3 d4 d5
  have T1 : LwSt w.params h₀ sc d tx tT q ps (refT none) L pk n vs k l s1:=S.keep K1 ⟨u,rT,sl,R2.cell 0 L _ rfl rfl⟩
  refine lx_code T1.gps (T1.parts.weak (fun b hb=>by cases hb)) (by omega) hsg (by omega) d3 T1.top ?_
  intro z ws m s2 K2 nz gz hws S2
  have T2:=T1.all K2
  refine after_nil (base:=s2.heap) T2.top (fun b o e=>e) (lwB4r w.params u sc d tx tT q ps rT sl L z ad tk) fun s3 k3 S3=>?_
  exact hO rfl z ws m s3 (T2.all k3) (k3 _ _ gz) hws (fun b o nb e=>k3 _ _ (K2 _ _ (K1 b o nb e))) (S1.trans (S2.trans S3))
 | some b =>
  obtain ⟨X1,R1⟩:=one_alone S.top gL S.nt
  cases b with
  | true =>
   have q1:=lwB4q w.params u sc d tx tT q ps rT sl L
   rw [← tw_eval] at q1
   refine @Lf.run _ _ _ _ _ _ _ _ _ _ q1 A (hideAll s.heap [L]) s _ E X1 R1 hh 'a' 'e' ?_
   intro ad tk s1 R2 K1 S1
   exact hE true rfl rT s1 (S.keep K1 ⟨u,rT,sl,R2.cell 0 L _ rfl rfl⟩) S1
  | false =>
   have q1:=lwB4e w.params u sc d tx tT q ps rT sl L
   rw [← tw_eval] at q1
   refine @Lf.run _ _ _ _ _ _ _ _ _ _ q1 A (hideAll s.heap [L]) s _ E X1 R1 hh 'a' 'e' ?_
   intro ad tk s1 R2 K1 S1
   exact hE false rfl rT s1 (S.keep K1 ⟨u,rT,sl,R2.cell 0 L _ rfl rfl⟩) S1
theorem lw_r5 (S : LwSt w.params h₀ sc d tx tT q ps rf L pk n vs k l s) (hh : 'g') (hd : A.depth < recursionLimit) (o : Option Bool) (hrf : rf = refT o) (hll : l.length ≤ 300) (hsg : ∀ x ∈ l,x.2.length ≤ 1)
  (hO : o = none->∀ z ws m s',LwSt w.params h₀ sc d tx tT q ps rf L pk n vs k l s'->s'.heap.get? z = some (lst ws m)->StrsAre ws ((krun false [] l).map mkS)->Kept [L] s.heap s'.heap->Same s s'->Q (.ref z) s')
  (hE : ∀ b,o = some b->∀ mT s',LwSt w.params h₀ sc d tx tT q ps rf L pk n vs k l s'->Same s s'->Q (.str (msgOf b) mT) s') :
  WP w A (eval (xR (sRet (body788.drop 5))) (env788 L)) Q E s:=by
 obtain ⟨u,rT,sl,gL⟩:=S.fr
 subst hrf
 cases o with
 | none =>
  obtain ⟨X1,R1⟩:=one_alone S.top gL S.nt
  have q1:=lwB5 w.params u sc d tx tT q ps rT sl L
  rw [← tw_eval] at q1
  refine @Lf.run _ _ _ _ _ _ _ _ _ _ q1 A (hideAll s.heap [L]) s _ E X1 R1 hh 'a' 'e' ?_
  intro ad tk s1 R2 K1 S1 A' d1 d2 d3 d4 d5
  have T1 : LwSt w.params h₀ sc d tx tT q ps (refT none) L pk n vs k l s1:=S.keep K1 ⟨u,rT,sl,R2.cell 0 L _ rfl rfl⟩
  refine spr_code T1.gps (T1.parts.weak (fun b hb=>by cases hb)) (by omega) hsg (by omega) d3 T1.top ?_
  intro z ws m s2 K2 nz gz hws S2
  have T2:=T1.all K2
  refine after_nil (base:=s2.heap) T2.top (fun b o e=>e) (lwB5r w.params u sc d tx tT q ps rT sl L z ad tk) fun s3 k3 S3=>?_
  exact hO rfl z ws m s3 (T2.all k3) (k3 _ _ gz) hws (fun b o nb e=>k3 _ _ (K2 _ _ (K1 b o nb e))) (S1.trans (S2.trans S3))
 | some b =>
  obtain ⟨X1,R1⟩:=one_alone S.top gL S.nt
  cases b with
  | true =>
   have q1:=lwB5q w.params u sc d tx tT q ps rT sl L
   rw [← tw_eval] at q1
   refine @Lf.run _ _ _ _ _ _ _ _ _ _ q1 A (hideAll s.heap [L]) s _ E X1 R1 hh 'a' 'e' ?_
   intro ad tk s1 R2 K1 S1
   exact hE true rfl rT s1 (S.keep K1 ⟨u,rT,sl,R2.cell 0 L _ rfl rfl⟩) S1
  | false =>
   have q1:=lwB5e w.params u sc d tx tT q ps rT sl L
   rw [← tw_eval] at q1
   refine @Lf.run _ _ _ _ _ _ _ _ _ _ q1 A (hideAll s.heap [L]) s _ E X1 R1 hh 'a' 'e' ?_
   intro ad tk s1 R2 K1 S1
   exact hE false rfl rT s1 (S.keep K1 ⟨u,rT,sl,R2.cell 0 L _ rfl rfl⟩) S1
end
variable {w : World} {A : Around} {s : Shared} {R : Result->Shared->Prop}
theorem lst_cat (vs : List Value) : ∃ m,Obj.mapSeq (· ++ (⟨vs⟩ : Array Value)) (lst [] 0) = lst vs m:=by
 have e : ((⟨[]⟩ : Array Value) ++ ⟨vs⟩) = ⟨vs⟩:=by apply Array.ext'; simp
 refine ⟨if (((⟨[]⟩ : Array Value) ++ (⟨vs⟩ : Array Value)).size == (⟨[]⟩ : Array Value).size) = true then 0 else 0 + 1,?_⟩
 show (⟨.type "list",none,.seq ((⟨[]⟩ : Array Value) ++ ⟨vs⟩) (if (((⟨[]⟩ : Array Value) ++ (⟨vs⟩ : Array Value)).size == (⟨[]⟩ : Array Value).size) = true then 0 else 0 + 1),⟨[]⟩⟩ : Obj) = ⟨.type "list",none,.seq ⟨vs⟩ (if (((⟨[]⟩ : Array Value) ++ (⟨vs⟩ : Array Value)).size == (⟨[]⟩ : Array Value).size) = true then 0 else 0 + 1),⟨[]⟩⟩
 rw [e]
theorem collect_code {it : Addr} {vs : List Value} {n : Nat} (hp : s.heap.get? it = some (lst vs n)) (hv : vs.length ≤ 1000)
  (H : ∀ z m s',Keep s.heap s'.heap->s.heap.get? z = none->s'.heap.get? z = some (lst vs m)->Same s s'->R (.ok (.ret (.ref z))) s') : CA w A (.builtin "proto.collect" ⟨[.ref it],[]⟩) R s:=by
 have hS : (1000 : Nat) ≤ sizeLine:=by decide +kernel
 refine codeAny_builtin F.entry_proto_collect ?_
 rw [Around.under_plainId F.plain_proto_collect _]
 show wpAny _ A.in1 (newList [] >>= fun l=>again (.builtin "list.__iadd__" ⟨[l,.ref it],[]⟩)) _ _ s
 refine wpAny_bind (wpAny_newObj_type ?_)
 refine wpAny_pure ⟨plainId_quiet F.plain_list_iadd _,codeAny_builtin F.entry_list_iadd ?_⟩
 rw [Around.under_plainId F.plain_list_iadd _]
 show wpAny _ A.in1 (Builtin.List.listExtendWith (.ref s.heap.objs.size) (.ref it) (.ref s.heap.objs.size)) _ _ _
 have hN : (s.heap.push { cls:=.type "list",data:=.seq ([] : List Value).toArray }).get? s.heap.objs.size = some (lst [] 0):=Heap.get?_push_size _ rfl
 have hN2:=Heap.get?_update_self (Obj.mapSeq (· ++ (⟨vs⟩ : Array Value))) hN rfl
 obtain ⟨m,hm⟩:=lst_cat vs
 rw [hm] at hN2
 refine wpAny_mono (wpAny_extend_seq (hsz:=?_) (A:=A) (R:=fun r s'=>r = .ok (.ret (.ref s.heap.objs.size)) ∧ s' = { s with heap:=(s.heap.push { cls:=.type "list",data:=.seq ([] : List Value).toArray }).update s.heap.objs.size (Obj.mapSeq (· ++ (⟨vs⟩ : Array Value))) })
  (s:={ s with heap:=s.heap.push { cls:=.type "list",data:=.seq ([] : List Value).toArray } }) _ it _ 0 (.inl rfl) hN (Heap.get?_push_of_some _ hp) rfl rfl ⟨rfl,rfl⟩) (fun fin s' h=>?_) (fun e s' h=>?_)
 ·show vs.length ≤ _
  omega
 ·have fin' : R (.ok (.ret (.ref s.heap.objs.size))) { s with heap:=(s.heap.push { cls:=.type "list",data:=.seq ([] : List Value).toArray }).update s.heap.objs.size (Obj.mapSeq (· ++ (⟨vs⟩ : Array Value))) }:=by
   refine H _ m _ (fun b o hb=>?_) (size_none _) hN2 ⟨rfl,rfl,rfl⟩
   exact (Heap.get?_update_other _ _ (Nat.ne_of_gt (Heap.lt_size hb))).trans (Heap.get?_push_of_some _ hb)
  cases fin with
  | done f =>
   obtain ⟨e,rfl⟩:=h
   cases e
   exact fin'
  | again c'=>exact ⟨h.1,codeAny_mono h.2 fun r s'' hr=>by obtain ⟨rfl,rfl⟩:=hr; exact fin'⟩
 ·exact absurd h.1 (by simp)
theorem rpP_alpha (ops : List Nat) (l : List Nat) (h : ∀ c ∈ l,c ∈ alpha) : ∀ c ∈ rpP ops l,c ∈ alpha:=by
 intro c hc
 unfold rpP at hc
 obtain ⟨d,hd,hc⟩:=List.mem_flatMap.mp hc
 have h32 : (32 : Nat) ∈ alpha:=by decide
 split at hc
 ·simp only [List.mem_cons,List.not_mem_nil,or_false] at hc
  rcases hc with rfl | rfl | rfl
  ·exact h32
  ·exact h c hd
  ·exact h32
 ·simp only [List.mem_singleton] at hc
  subst hc
  exact h c hd
section
variable {w : World} {h₀ : Heap} {sc d : Addr} {tx : Str} {tT : Tok} {q ps : Addr} {rf : Str} {L : Addr} {pk : Nat->Tok} {n : Nat} {vs : List Value} {k : Nat} {l : List (Ro × List Nat)} {A : Around} {s : Shared} {Q : Value->Shared->Prop} {E : Value->Shared->Prop}
theorem lw_l5 (S : LwSt w.params h₀ sc d tx tT q ps rf L pk n vs k l s) (hfr : A.frames = some [env788 L]) (hh : 'g') (hd : A.depth + 20 < recursionLimit) (hu : A.units + 70 < cLine) (hal : ∀ c ∈ tx.cps.toList,c ∈ alpha) (hlen : tx.cps.toList.length ≤ 12)
  (hO : ∀ l',lexAll false ((rpP opsL tx.cps.toList).length + 1) .sp (rpP opsL tx.cps.toList) = .ok l'->∀ z ws m s',LwSt w.params h₀ sc d tx tT q ps rf L pk n vs k l s'->s'.heap.get? z = some (lst ws m)->StrsAre ws (l'.map mkS)->Same s s'->Q (.ref z) s')
  (hE : ∀ b,lexAll false ((rpP opsL tx.cps.toList).length + 1) .sp (rpP opsL tx.cps.toList) = .err b->∀ mT s',LwSt w.params h₀ sc d tx tT q ps rf L pk n vs k l s'->Same s s'->Q (.str (msgOf b) mT) s') (hF : lexAll false ((rpP opsL tx.cps.toList).length + 1) .sp (rpP opsL tx.cps.toList) ≠ .out) :
  WP w A (eval (xL (sRet (body788.drop 5))) (env788 L)) Q E s:=by
 obtain ⟨u,rT,sl,gL⟩:=S.fr
 have hqL : L ≠ q:=fun e=>lw_ne_lst gL S.gq e.symm
 obtain ⟨X1,R1⟩:=two_alone S.top gL S.gq S.nt S.nq hqL
 have q1:=lwA5 w.params u sc d tx tT q ps rf rT sl L pk n
 rw [← tw_eval] at q1
 refine @Lf.run _ _ _ _ _ _ _ _ _ _ q1 A (hideAll s.heap [L,q]) s _ E X1 R1 hh 'a' 'e' ?_
 intro ad tk s1 R2 K1 S1 A' d1 d2 d3 d4 d5
 have gL1 : s1.heap.get? L = some (lwf6 w.params u sc d tx tT q ps rf rT sl):=R2.cell 0 L _ rfl rfl
 have gq1 : s1.heap.get? q = some (lst (prV pk) n):=R2.cell 1 q _ rfl rfl
 have KL : Kept [L] s.heap s1.heap:=fun b o nb e=>by
  by_cases hbq : b = q
  ·subst hbq
   rw [S.gq] at e; cases e
   exact gq1
  ·exact K1 b o (by
    simp only [List.mem_singleton] at nb
    simp [nb,hbq]) e
 have T1 : LwSt w.params h₀ sc d tx tT q ps rf L pk n vs k l s1:=S.keep KL ⟨u,rT,sl,gL1⟩
 refine collect_code (vs:=prV pk) gq1 (by show (14 : Nat) ≤ 1000; decide) ?_
 intro b m s2 K2 nb gb S2
 have T2 : LwSt w.params h₀ sc d tx tT q ps rf L pk n vs k l s2:=T1.all K2
 have ntb : NTop w.params b:=fun o e1 e2=>by
  have:=T1.top b o e1 e2
  rw [nb] at this; cases this
 obtain ⟨X3,R3⟩:=one_alone T2.top gb ntb
 refine (lwA5c w.params u sc d tx tT q ps rf rT sl L pk n b m ad tk).sound X3 R3 'a' 'e' ?_
 intro ad3 tk3 s3 R4 S3 A3 d31 d32 d33 d34 d35
 have K3 : Keep s2.heap s3.heap:=fun x o e=>by
  by_cases hx : x = b
  ·subst hx
   rw [gb] at e; cases e
   exact R4.cell 0 _ _ rfl rfl
  ·exact R4.keep x o (hideAll_get _ e (by simpa using hx))
 have T3 : LwSt w.params h₀ sc d tx tT q ps rf L pk n vs k l s3:=T2.all K3
 refine rpl_code tx tT pk (by omega) (by omega) d33 T3.top ?_
 intro zT s4 K4 S4
 have T4 : LwSt w.params h₀ sc d tx tT q ps rf L pk n vs k l s4:=T3.all K4
 refine (lwA5b w.params u sc d tx tT q ps rf rT sl L pk n b m ⟨⟨rpP opsL tx.cps.toList⟩⟩ zT ad tk ad3 tk3).sound (h₀:=s4.heap) T4.top (rep_nil s4.heap) 'a' 'e' ?_
 intro ad5 tk5 s5 R5 S5 A5 d51 d52 d53 d54 d55
 have T5 : LwSt w.params h₀ sc d tx tT q ps rf L pk n vs k l s5:=T4.all R5.keep
 have hs : (36 : Nat) ≤ sizeLine:=by decide +kernel
 have hl3:=rpP_len opsL tx.cps.toList
 have hSS : Same s s5:=S1.trans (S2.trans (S3.trans (S4.trans S5)))
 obtain ⟨u5,rT5,sl5,gL5⟩:=T5.fr
 refine lw_code ⟨⟨rpP opsL tx.cps.toList⟩⟩ zT (by show (rpP opsL tx.cps.toList).length ≤ _; omega) (rpP_alpha opsL _ hal) (by show (rpP opsL tx.cps.toList).length ≤ _; omega) (hideAll s5.heap [L]) [env788 L] (one_alone T5.top gL5 T5.nt).1 (by omega) (by have : A5.units ≤ A.units + 0:=d52; omega) d53 T5.top (lw_outer T5 (d54.trans hfr)) (rep_nil s5.heap) ⟨?_,?_,hF⟩
 ·intro l' hl z ws m' s6 g1 g2 g3 g4 g5 g6
  have T6:=lw_after T5 g4 g5
  refine after_nil (base:=s6.heap) T6.top (fun b o e=>e) (lwA5r w.params u sc d tx tT q ps rf rT sl L pk n b m ⟨⟨rpP opsL tx.cps.toList⟩⟩ zT z ad tk ad3 tk3 ad5 tk5) fun s7 k7 S7=>?_
  exact hO l' hl z ws m' s7 (T6.all k7) (k7 _ _ g3) g1 (hSS.trans (g6.trans S7))
 ·intro e he mT s6 g4 g5 g6
  have T6:=lw_after T5 g4 g5
  refine after_nil (base:=s6.heap) T6.top (fun b o e=>e) (lwA5s w.params u sc d tx tT q ps rf rT sl L pk n b m ⟨⟨rpP opsL tx.cps.toList⟩⟩ zT (msgOf e) mT ad tk ad3 tk3 ad5 tk5) fun s7 k7 S7=>?_
  exact hE e he mT s7 (T6.all k7) (hSS.trans (g6.trans S7))
end
variable {w : World} {A : Around} {s : Shared} {R : Result->Shared->Prop}
theorem tw_cmp (op : CmpOp) (x y : Value) : compareOp op x y = Fast.tw12886488535604756494 op x y:=by rw [Fast.te12886488535604756494]
theorem lw_body : body788 = sNth body788 0 :: sNth body788 1 :: ([sNth body788 2] ++ ([sNth body788 3] ++ (sNth body788 4 :: body788.drop 5))):=by kernel_rfl!
theorem lw_st4 : sNth body788 4 = .If (.Compare (xL (sTest (sNth body788 4))) [.NotEq] [xR (sTest (sNth body788 4))] (yPos (sTest (sNth body788 4)))) (sBody (sNth body788 4)) (sElse (sNth body788 4)) (iPos (sNth body788 4)):=by kernel_rfl!
theorem lw_el4 : sElse (sNth body788 4) = []:=by kernel_rfl!
theorem lw_be4 : behindInMarks .NotEq (xR y70) = false:=by kernel_rfl!
theorem lw_st5 : body788.drop 5 = [.Return (some (.Compare (xL (sRet (body788.drop 5))) [.Eq] [xR (sRet (body788.drop 5))] (yPos (sRet (body788.drop 5))))) (sRetP (body788.drop 5))]:=by kernel_rfl!
theorem lw_be5 : behindInMarks .Eq (xR (sRet (body788.drop 5))) = false:=by kernel_rfl!
noncomputable def lawO (o : Option Bool) (l : List (List Nat)) : LO:=match o with
 | none=>.ok l
 | some b=>.err b
section
variable {w : World} {h₀ : Heap} {sc d : Addr} {tx : Str} {tT : Tok} {q ps : Addr} {rf : Str} {L : Addr} {pk : Nat->Tok} {n : Nat} {vs : List Value} {k : Nat} {l : List (Ro × List Nat)} {A : Around} {s : Shared} {Q : Flow->Shared->Prop} {E : Value->Shared->Prop}
theorem lw_s4 (S : LwSt w.params h₀ sc d tx tT q ps rf L pk n vs k l s) (hfr : A.frames = some [env788 L]) (hh : 'g') (hd : A.depth + 20 < recursionLimit) (hu : A.units + 70 < cLine) (hal : ∀ c ∈ tx.cps.toList,c ∈ alpha) (hlen : tx.cps.toList.length ≤ 12)
  (o : Option Bool) (hrf : rf = refT o) (hll : l.length ≤ 300) (hsg : ∀ x ∈ l,x.2.length ≤ 1) (hlex : lexAll true (tx.cps.toList.length + 1) .sp tx.cps.toList = lawO o (lrun .white [] l))
  (h : ∀ s',LwSt w.params h₀ sc d tx tT q ps rf L pk n vs k l s'->Same s s'->Q .next s') : WP w A (exec (sNth body788 4) (env788 L)) Q E s:=by
 rw [lw_st4]
 refine wpAny_If ?_
 refine wpAny_isTrue_Compare1 ?_ lw_be4
 have fin : ∀ s',LwSt w.params h₀ sc d tx tT q ps rf L pk n vs k l s'->Same s s'->WP w A (truthy (.bool false)) (fun b s₁=>if b = true then WP w A (execs (sBody (sNth body788 4)) (env788 L)) Q E s₁ else WP w A (execs (sElse (sNth body788 4)) (env788 L)) Q E s₁) E s':=fun s' T1 S1=>by
  refine wpAny_truthy_bool ?_
  rw [if_neg Bool.false_ne_true,lw_el4]
  exact wpAny_execs_nil (h s' T1 S1)
 refine lw_l4 S hfr hh hd hu hal hlen ?_ ?_ ?_
 ·intro l' hl z ws m s1 T1 gz hws S1
  rw [hlex] at hl
  cases o with
  | some b=>cases hl
  | none =>
   cases hl
   refine lw_r4 T1 hh (by omega) none hrf hll hsg ?_ ?_
   ·intro _ z2 ws2 m2 s2 T2 gz2 hws2 K2 S2
    obtain ⟨u,rT,sl,gL⟩:=T1.fr
    refine ne_strs (K2 z _ (by simpa using lw_ne_lst gL gz) gz) gz2 hws hws2 (by omega) ?_
    exact fin s2 T2 (S1.trans S2)
   ·intro b hb; cases hb
 ·intro b hb mT s1 T1 S1
  rw [hlex] at hb
  cases o with
  | none=>cases hb
  | some b' =>
   cases hb
   refine lw_r4 T1 hh (by omega) (some b) hrf hll hsg ?_ ?_
   ·intro hb; cases hb
   ·intro b2 hb2 m2 s2 T2 S2
    cases hb2
    have q1:=lwNe w.params (msgOf b) mT (msgOf b) m2
    rw [← tw_cmp] at q1
    refine @Lf.run _ _ _ _ _ _ _ _ _ _ q1 A s2.heap s2 _ E T2.top (rep_nil s2.heap) hh (fun _ _=>rfl) (fun _ _=>all_cons (fun _ _=>con_ne false (by simp)) all_nil) ?_
    intro ad tk s3 R3 K3 S3
    exact fin s3 (T2.all R3.keep) ((S1.trans S2).trans S3)
 ·rw [hlex]
  cases o <;> nofun
theorem lw_s5 (S : LwSt w.params h₀ sc d tx tT q ps rf L pk n vs k l s) (hfr : A.frames = some [env788 L]) (hh : 'g') (hd : A.depth + 20 < recursionLimit) (hu : A.units + 70 < cLine) (hal : ∀ c ∈ tx.cps.toList,c ∈ alpha) (hlen : tx.cps.toList.length ≤ 12)
  (o : Option Bool) (hrf : rf = refT o) (hll : l.length ≤ 300) (hsg : ∀ x ∈ l,x.2.length ≤ 1) (hlex : lexAll false ((rpP opsL tx.cps.toList).length + 1) .sp (rpP opsL tx.cps.toList) = lawO o (krun false [] l))
  (h : ∀ s',LwSt w.params h₀ sc d tx tT q ps rf L pk n vs k l s'->Same s s'->Q (.ret (.bool true)) s') : WP w A (execs (body788.drop 5) (env788 L)) Q E s:=by
 rw [lw_st5]
 refine wpAny_execs_cons (wpAny_Return_some ?_)
 refine wpAny_Compare1 ?_ lw_be5
 refine lw_l5 S hfr hh hd hu hal hlen ?_ ?_ ?_
 ·intro l' hl z ws m s1 T1 gz hws S1
  rw [hlex] at hl
  cases o with
  | some b=>cases hl
  | none =>
   cases hl
   refine lw_r5 T1 hh (by omega) none hrf hll hsg ?_ ?_
   ·intro _ z2 ws2 m2 s2 T2 gz2 hws2 K2 S2
    obtain ⟨u,rT,sl,gL⟩:=T1.fr
    refine eq_strs (K2 z _ (by simpa using lw_ne_lst gL gz) gz) gz2 hws hws2 (by omega) ?_
    exact h s2 T2 (S1.trans S2)
   ·intro b hb; cases hb
 ·intro b hb mT s1 T1 S1
  rw [hlex] at hb
  cases o with
  | none=>cases hb
  | some b' =>
   cases hb
   refine lw_r5 T1 hh (by omega) (some b) hrf hll hsg ?_ ?_
   ·intro hb; cases hb
   ·intro b2 hb2 m2 s2 T2 S2
    cases hb2
    have q1:=lwEq w.params (msgOf b) mT (msgOf b) m2
    rw [← tw_cmp] at q1
    refine @Lf.run _ _ _ _ _ _ _ _ _ _ q1 A s2.heap s2 _ E T2.top (rep_nil s2.heap) hh (fun _ _=>rfl) (fun _ _=>all_cons (fun _ _=>con_eq true (by simp)) all_nil) ?_
    intro ad tk s3 R3 K3 S3
    exact h s3 (T2.all R3.keep) ((S1.trans S2).trans S3)
 ·rw [hlex]
  cases o <;> nofun
end
theorem law_code {sc : Addr} {vs : List Value} {ns : List Int} (hsc : s.heap.IsList sc vs.toArray) (hi : IntsAre vs ns) (hnl : ns.length ≤ 63) (hfr : A.frames = some []) (hh : 'g')
  (hd : A.depth + 30 < recursionLimit) (hu : A.units + 100 < cLine) (X : TopIn 'c' s.heap)
  (hal : ∀ c ∈ textOf (drawnOf ns),c ∈ alpha) (hll : (prun .non (textOf (drawnOf ns))).2.length ≤ 300) (hsg : ∀ x ∈ (prun .non (textOf (drawnOf ns))).2,x.2.length ≤ 1)
  (h4 : lexAll true ((textOf (drawnOf ns)).length + 1) .sp (textOf (drawnOf ns)) = lawO (refE (prun .non (textOf (drawnOf ns))).1) (lrun .white [] (prun .non (textOf (drawnOf ns))).2))
  (h5 : lexAll false ((rpP opsL (textOf (drawnOf ns))).length + 1) .sp (rpP opsL (textOf (drawnOf ns))) = lawO (refE (prun .non (textOf (drawnOf ns))).1) (krun false [] (prun .non (textOf (drawnOf ns))).2))
  (H : ∀ s',Keep s.heap s'.heap->Same s s'->R (.ok (.ret (.bool true))) s') : CA w A (.call (.ref 788) ⟨[.ref sc],[]⟩) R s:=by
 refine law_call sc (by omega) hh X (rep_nil s.heap) ?_
 intro L k s1 R1 S1
 rw [lwf1_eq] at R1
 rw [lw_body]
 have hdl:=drawnOf_len ns
 have htl:=textOf_len (drawnOf ns)
 refine wpAny_execs_cons ?_
 refine lw_s0 (A:=A.deeper (env788 L)) X hsc hi hnl R1 hh (by show A.units + 3 + 64 < _; omega) fun u2 d ds s2 hd2 nd2 hi2 R2 S2=>?_
 dsimp only
 refine wpAny_execs_cons ?_
 refine @lw_s1 w sc d L _ _ _ (A.deeper (env788 L)) _ _ _ _ X hd2 nd2 hi2 hdl R2 hh (by show A.depth + 1 + 2 < _; omega) fun u3 tT s3 R3 S3=>?_
 dsimp only
 refine wp_app ?_
 refine lw_s2 (A:=A.deeper (env788 L)) X R3 hh fun u4 q pk s4 R4 S4=>?_
 dsimp only
 refine wp_app ?_
 refine lw_s3 (A:=A.deeper (env788 L)) X (by show (textOf (drawnOf ns)).length ≤ _; omega) R4 hh (by show A.depth + 1 < _; omega) fun ps vs5 k5 s5 T5 S5=>?_
 dsimp only
 refine wpAny_execs_cons ?_
 refine lw_s4 (A:=A.deeper (env788 L)) T5 (Around.frames_deeper hfr) hh (by show A.depth + 1 + 20 < _; omega) (by show A.units + 3 + 70 < _; omega) hal (by show (textOf (drawnOf ns)).length ≤ _; omega) _ (refS_refE _) hll hsg h4 fun s6 T6 S6=>?_
 dsimp only
 refine lw_s5 (A:=A.deeper (env788 L)) T6 (Around.frames_deeper hfr) hh (by show A.depth + 1 + 20 < _; omega) (by show A.units + 3 + 70 < _; omega) hal (by show (textOf (drawnOf ns)).length ≤ _; omega) _ (refS_refE _) hll hsg h5 fun s7 T7 S7=>?_
 exact H s7 T7.old (S1.trans (S2.trans (S3.trans (S4.trans (S5.trans (S6.trans S7))))))
end
section
open PySem PySem.W PySem.W.X PyProof.Rows
noncomputable def bnd (N : Nat) : BT->Nat->Nat->Bool
 | .nil,_,_=>true
 | .node _ l r,m,c=>Nat.blt c N && (bnd N l (2 * m) (m + c) && bnd N r (2 * m) (2 * m + c))
theorem bnd_get (N : Nat) : ∀ (t : BT) (m c : Nat),bnd N t m c = true->∀ i o,t.get i = some o->m * i + c < N
 | .nil,_,_,_,i,o,h=>by cases h
 | .node v l r,m,c,hb,i,o,h=>by
  unfold bnd at hb
  rw [Bool.and_eq_true,Bool.and_eq_true] at hb
  obtain ⟨h1,h2,h3⟩:=hb
  have h1 : c < N:=Nat.le_of_ble_eq_true h1
  rw [BT.get_node] at h
  by_cases q : i = 0
  ·subst q; simpa using h1
  ·rw [if_neg q] at h
   by_cases p : i % 2 = 1
   ·rw [if_pos p] at h
    have:=bnd_get N l _ _ h2 _ _ h
    have e : i = 2 * (i / 2) + 1:=by omega
    have e2 : m * i = 2 * m * (i / 2) + m:=by
     conv=>lhs; rw [e]
     rw [Nat.mul_add,Nat.mul_one,Nat.mul_comm 2 m,Nat.mul_assoc]
    omega
   ·rw [if_neg p] at h
    have:=bnd_get N r _ _ h3 _ _ h
    have e : i = 2 * (i / 2 - 1) + 2:=by omega
    have e2 : m * i = 2 * m * (i / 2 - 1) + 2 * m:=by
     conv=>lhs; rw [e]
     rw [Nat.mul_add,Nat.mul_comm 2 m,Nat.mul_assoc]
    omega
theorem tf_bnd (P : Params) : bnd 789 (Tf P) 1 0 = true:=by kernel_rfl!
theorem topIn_H1 (P : Params) : TopIn (Tf P) (H1 P):=by
 intro a o e1 e2
 have h:=bnd_get 789 _ 1 0 (tf_bnd P) a o e1
 unfold H1
 rw [abs_get (by omega) e1]
 obtain ⟨c,d,dt,sl⟩:=o
 cases dt <;> first | rfl | cases e2
noncomputable def nsOf (o : Obj) (x : Str) : Option Value:=match o.data with
 | .dict es _=>nsFind es x
 | _=>none
theorem law_ns (P : Params) : nsOf (o3 P) lawRec.name = some (.ref 788):=by kernel_rfl!
theorem top3 (P : Params) : (Tf P).get mainGlobals = some (o3 P):=by kernel_rfl!
theorem law_at {P : Params} {h : Heap} (X : TopIn (Tf P) h) {mg : Str->Option Value} (g : h.Ns mainGlobals mg) : mg lawRec.name = some (.ref 788):=by
 obtain ⟨o,es,ep,h1,h2,h3,h4⟩:=g
 rw [X mainGlobals (o3 P) (top3 P) rfl] at h1
 cases h1
 have:=law_ns P
 unfold nsOf at this
 rw [h2] at this
 exact (h4 _).symm.trans this
noncomputable def Plain : Prop:=∀ ns : List Int,(∀ c ∈ textOf ns,c ∈ alpha) ∧ (∀ x ∈ (prun .non (textOf ns)).2,x.2.length ≤ 1) ∧ (prun .non (textOf ns)).2.length ≤ 2 * (textOf ns).length ∧
 lexAll true ((textOf ns).length + 1) .sp (textOf ns) = lawO (refE (prun .non (textOf ns)).1) (lrun .white [] (prun .non (textOf ns)).2) ∧
 lexAll false ((rpP opsL (textOf ns)).length + 1) .sp (rpP opsL (textOf ns)) = lawO (refE (prun .non (textOf ns)).1) (krun false [] (prun .non (textOf ns)).2)
theorem law_holds (plain : Plain) : rwl.Holds:=by
 refine head0 ?_
 intro w s₀ s₁ mg mb G y fa o pm cd doc dV kV ho hd hcd hD hmg hg args vals as L hpre hlay hrd hwl hlo
 wrow_args hpre hlay hrd hwl hlo
 rename_i ns hs hlay0 hL1 hr1 hl2 as4 as3 sc vs as' hLst hra hw1 hr0 hI hr hcond hcond'
 have hy1 : s₀.heap = H1 w.params:=congrArg Prod.fst y
 have X : TopIn (Tf w.params) s₁.heap:=fun a o e1 e2=>L.keeps a o (hy1 ▸ topIn_H1 w.params a o e1 e2)
 have hfa : fa = 788:=by
  have:=law_at X G.T.g
  rw [hmg] at this
  cases this
  rfl
 subst hfa
 show WP w callerA (call (.ref 788) [.ref sc]) _ _ s₁
 refine wpAny_call ?_
 obtain ⟨p1,p2,p3,p4,p5⟩:=plain (drawnOf ns)
 have hdl:=drawnOf_len ns
 have htl:=textOf_len (drawnOf ns)
 refine law_code hLst hI (by omega) rfl rfl (by decide +kernel) (by decide +kernel) X p1 (by omega) p2 p4 p5 fun s' K S=>?_
 refine ⟨.inl ⟨.bool true,.bool true,[],rfl,fun cls=>?_,.bool true,?_,fun _=>⟨.nil,nofun⟩⟩,.of_keep K,S.2.2,?_⟩
 ·rfl
 ·kernel_rfl!
 ·rw [show s'.gens = s₁.gens from S.1,hg]
  exact .of_eq rfl
inductive Big (k : Bool) : St->List Nat->Bool->List Nat->LO->Prop
 | err {st tok q inp b} : step k st tok q inp.head? = .err b->Big k st tok q inp (.err b)
 | eof {st tok q inp st2 io} : step k st tok q inp.head? = .go true st2 [] false io->Big k st tok q inp (.ok [])
 | tok {st tok q inp st2 t q2 io r} : step k st tok q inp.head? = .go true st2 t q2 io->(q2 = true ∨ t ≠ [])->Big k st2 [] false (restOf io inp) r->Big k st tok q inp (r.cons t)
 | go {st tok q inp st2 tok2 q2 io r} : step k st tok q inp.head? = .go false st2 tok2 q2 io->Big k st2 tok2 q2 (restOf io inp) r->Big k st tok q inp r
noncomputable def finL (k : Bool) (n : Nat) (x : RO) : LO:=match x with
 | .err b=>.err b
 | .brk st2 tok2 q2 rest=>match q2,tok2 with
  | false,[]=>.ok []
  | _,t=>(lexAll k n st2 rest).cons t
theorem lexAll_fin (k : Bool) (n : Nat) (st : St) (inp : List Nat) : lexAll k (n + 1) st inp = finL k n (rtok k (inp.length + 1) st [] false inp):=by
 unfold lexAll rtk finL
 cases rtok k (inp.length + 1) st [] false inp with
 | err b=>rfl
 | brk st2 tok2 q2 rest=>cases q2 <;> cases tok2 <;> rfl
noncomputable def wt0 : St->List Nat->Bool->Nat
 | .sp,[],false=>0
 | .nul,[],false=>0
 | _,_,_=>1
theorem wt0_le (st : St) (tok : List Nat) (q : Bool) : wt0 st tok q ≤ 1:=by
 unfold wt0; split <;> omega
theorem go_push (k : Bool) (st : St) (tok : List Nat) (q : Bool) (oc : Option Nat) {st2 : St} {tok2 : List Nat} {q2 : Bool} (h : step k st tok q oc = .go false st2 tok2 q2 .push) : False:=by
 cases k <;> cases st <;> cases oc <;> simp only [step] at h <;> (try split at h) <;> cases h
theorem stop_wt (k : Bool) (st : St) (tok : List Nat) (q : Bool) (oc : Option Nat) {st2 : St} {t : List Nat} {q2 : Bool} {io : Io} (h : step k st tok q oc = .go true st2 t q2 io) (ht : q2 = true ∨ t ≠ []) : wt0 st tok q = 1:=by
 unfold wt0
 split
 ·cases oc with
  | none=>simp only [step] at h; cases h; simp at ht
  | some c=>cases k <;> simp only [step] at h <;> (split at h) <;> cases h
 ·cases oc <;> (simp only [step] at h; cases h; simp at ht)
 ·rfl
theorem big_lex {k : Bool} {st : St} {tok : List Nat} {q : Bool} {inp : List Nat} {r : LO} (h : Big k st tok q inp r) : ∀ m N,inp.length + 1 ≤ m->inp.length + wt0 st tok q ≤ N->finL k N (rtok k m st tok q inp) = r:=by
 induction h with
 | err hs =>
  intro m N hm hN
  obtain ⟨m,rfl⟩ : ∃ j,m = j + 1:=⟨m - 1,by omega⟩
  simp only [rtok,hs,finL]
 | eof hs =>
  intro m N hm hN
  obtain ⟨m,rfl⟩ : ∃ j,m = j + 1:=⟨m - 1,by omega⟩
  simp only [rtok,hs,finL]
 | @tok st tok q inp st2 t q2 io r hs ht hb ih =>
  intro m N hm hN
  obtain ⟨m,rfl⟩ : ∃ j,m = j + 1:=⟨m - 1,by omega⟩
  simp only [rtok,hs]
  have hw:=stop_wt k st tok q _ hs ht
  have hl:=rest_len2 io inp
  obtain ⟨N,rfl⟩ : ∃ j,N = j + 1:=⟨N - 1,by omega⟩
  have e : finL k (N + 1) (.brk st2 t q2 (restOf io inp)) = (lexAll k (N + 1) st2 (restOf io inp)).cons t:=by
   unfold finL
   cases q2 with
   | true=>rfl
   | false=>cases t with
    | nil=>simp at ht
    | cons a b=>rfl
  rw [e,lexAll_fin]
  rw [ih _ N (Nat.le_refl _) ?_]
  have : wt0 st2 [] false = 0:=by rcases step_stop k st tok q _ hs with rfl | rfl <;> rfl
  omega
 | @go st tok q inp st2 tok2 q2 io r hs hb ih =>
  intro m N hm hN
  obtain ⟨m,rfl⟩ : ∃ j,m = j + 1:=⟨m - 1,by omega⟩
  simp only [rtok,hs]
  have hl : (restOf io inp).length + 1 ≤ inp.length:=by
   cases inp with
   | nil=>exact absurd hs (step_none k st tok q)
   | cons c t =>
    cases io with
    | push=>exact (go_push k st tok q _ hs).elim
    | no=>show t.length + 1 ≤ t.length + 1; omega
    | line =>
     have:=skip_len t
     show (skipLine t).length + 1 ≤ t.length + 1
     omega
  have:=wt0_le st2 tok2 q2
  exact ih m N (by omega) (by omega)
theorem big_all {k : Bool} {txt : List Nat} {r : LO} (h : Big k .sp [] false txt r) : lexAll k (txt.length + 1) .sp txt = r:=by
 rw [lexAll_fin]
 exact big_lex h _ _ (Nat.le_refl _) (by show txt.length + 0 ≤ _; omega)
noncomputable def Res (o : Option Bool) (f : List (List Nat)->List (List Nat)) (r : LO) : Prop:=match o with
 | some b=>r = .err b
 | none=>∃ l',r = .ok l' ∧ ∀ fs,f fs = fs ++ l'
theorem Res.go {o : Option Bool} {f g : List (List Nat)->List (List Nat)} {r : LO} (h : Res o g r) (e : ∀ fs,f fs = g fs) : Res o f r:=by
 cases o with
 | some b=>exact h
 | none =>
  obtain ⟨l',h1,h2⟩:=h
  exact ⟨l',h1,fun fs=>(e fs).trans (h2 fs)⟩
theorem Res.emit {o : Option Bool} {f g : List (List Nat)->List (List Nat)} {r : LO} {t : List Nat} (h : Res o g r) (e : ∀ fs,f fs = g (fs ++ [t])) : Res o f (r.cons t):=by
 cases o with
 | some b=>rw [show r = .err b from h]; rfl
 | none =>
  obtain ⟨l',rfl,h2⟩:=h
  exact ⟨t :: l',rfl,fun fs=>by rw [e fs,h2]; simp⟩
theorem Res.lawO {o : Option Bool} {f : List (List Nat)->List (List Nat)} {r : LO} (h : Res o f r) : r = Mine.lawO o (f []):=by
 cases o with
 | some b=>exact h
 | none =>
  obtain ⟨l',rfl,h2⟩:=h
  rw [h2]; rfl
theorem pstep_non (c : Nat) : pstep .non c = match cl c with
  | .punct=>(.non,[(.run,[c])])
  | .white=>(.non,[(.white,[c])])
  | .hash=>(.hash,[(.white,[c])])
  | .esc=>(.esc,[])
  | .sq=>(.sq,[(.within,[])])
  | .dq=>(.dq,[(.within,[])])
  | .word=>(.non,[(.bare,[c])]):=by
 unfold pstep cl opsL whtL
 by_cases h1 : c = 32 ∨ c = 9 ∨ c = 13 ∨ c = 10
 ·rcases h1 with rfl | rfl | rfl | rfl <;> rfl
 by_cases h2 : c = 35
 ·subst h2; rfl
 by_cases h3 : c = 92
 ·subst h3; rfl
 by_cases h4 : c = 39
 ·subst h4; rfl
 by_cases h5 : c = 34
 ·subst h5; rfl
 by_cases h6 : c = 40 ∨ c = 41 ∨ c = 59 ∨ c = 60 ∨ c = 62 ∨ c = 124 ∨ c = 38
 ·rcases h6 with rfl | rfl | rfl | rfl | rfl | rfl | rfl <;> rfl
 simp only [h1,h2,h3,h4,h5,h6,if_false]
 simp only [not_or] at h1 h6
 simp [h1,h2,h3,h4,h5,h6]
theorem cl_39 {c : Nat} : cl c = .sq ↔ c = 39:=⟨cl_sq,fun h=>by subst h; rfl⟩
theorem cl_34 {c : Nat} : cl c = .dq ↔ c = 34:=⟨cl_dq,fun h=>by subst h; rfl⟩
theorem cl_92 {c : Nat} : cl c = .esc ↔ c = 92:=⟨cl_esc,fun h=>by subst h; rfl⟩
theorem cl_op (c : Nat) : c ∈ opsL ↔ cl c = .punct:=by
 have h:=(facts c).p
 show c ∈ [40,41,59,60,62,124,38] ↔ _
 cases hc : cl c <;> rw [hc] at h <;> simp only [isP,decide_eq_true_eq,decide_eq_false_iff_not] at h <;> simp [h] <;> simpa using h
theorem skip_cons (c : Nat) (l : List Nat) : skipLine (c :: l) = if c = 10 then l else skipLine l:=by
 first
  | rfl
  | (unfold skipLine; rfl)
  | (unfold skipLine; simp)
  | (simp [skipLine])
theorem lrun_cons (last : Gr) (ts : List (List Nat)) (q : Ro × List Nat) (r : List (Ro × List Nat)) : lrun last ts (q :: r) = lrun (grp q.1) (lstep last ts q) r:=rfl
theorem krun_cons (bg : Bool) (ts : List (List Nat)) (q : Ro × List Nat) (r : List (Ro × List Nat)) : krun bg ts (q :: r) = krun (begunOf q.1 (isOp q.2)) (kstep bg ts q) r:=rfl
theorem prun_cons (pl : Pl) (c : Nat) (r : List Nat) : prun pl (c :: r) = ((prun (pstep pl c).1 r).1,(pstep pl c).2 ++ (prun (pstep pl c).1 r).2):=rfl
noncomputable def pend (pl : Pl) (last : Gr) (tok : List Nat) : List (List Nat):=match last,pl with
 | .word,_=>[tok]
 | .run,.non=>[tok]
 | _,_=>[]
noncomputable def SimT (pl : Pl) (last : Gr) (st : St) (tok : List Nat) (q : Bool) : Prop:=match pl,last with
 | .non,.white=>st = .sp ∧ tok = [] ∧ q = false
 | .non,.run=>st = .c ∧ tok ≠ [] ∧ q = false
 | .non,.word=>st = .a ∧ (q = true ∨ tok ≠ [])
 | .esc,.word=>st = .ea
 | .esc,_=>st = .ea ∧ tok = []
 | .sq,.word=>st = .sq
 | .dq,.word=>st = .dq
 | .ed,.word=>st = .ed
 | _,_=>False
noncomputable def OkT (pl : Pl) (last : Gr) (st : St) (tok : List Nat) (q : Bool) (l : List Nat) : Prop :=
 ∃ r,Big true st tok q l r ∧ Res (refE (prun pl l).1) (fun fs=>lrun last (fs ++ pend pl last tok) (prun pl l).2) r
noncomputable def OkH (l : List Nat) : Prop:=∃ r,Big true .sp [] false (skipLine l) r ∧ Res (refE (prun .hash l).1) (fun fs=>lrun .white fs (prun .hash l).2) r
theorem tok_end {st : St} {tok : List Nat} {q : Bool} {k : Bool} (h : step k st tok q none = .go true .nul tok q .no) (ht : q = true ∨ tok ≠ []) : Big k st tok q [] (.ok [tok]) :=
 Big.tok (r:=.ok []) h ht (Big.eof (st2:=.nul) (io:=.no) (by cases k <;> rfl))
theorem simT_nil (pl : Pl) (last : Gr) (st : St) (tok : List Nat) (q : Bool) (h : SimT pl last st tok q) : OkT pl last st tok q []:=by
 cases pl <;> cases last <;> simp only [SimT] at h
 ·obtain ⟨rfl,rfl,rfl⟩:=h
  exact ⟨_,Big.eof (st2:=.nul) (io:=.no) rfl,[],rfl,fun fs=>by simp [prun,lrun,pend]⟩
 ·obtain ⟨rfl,ht,rfl⟩:=h
  exact ⟨_,tok_end rfl (.inr ht),[tok],rfl,fun fs=>by simp [prun,lrun,pend]⟩
 ·obtain ⟨rfl,ht⟩:=h
  exact ⟨_,tok_end rfl ht,[tok],rfl,fun fs=>by simp [prun,lrun,pend]⟩
 ·obtain ⟨rfl,rfl⟩:=h; exact ⟨_,Big.err (b:=false) rfl,rfl⟩
 ·obtain ⟨rfl,rfl⟩:=h; exact ⟨_,Big.err (b:=false) rfl,rfl⟩
 ·subst h; exact ⟨_,Big.err (b:=false) rfl,rfl⟩
 ·subst h; exact ⟨_,Big.err (b:=true) rfl,rfl⟩
 ·subst h; exact ⟨_,Big.err (b:=true) rfl,rfl⟩
 ·subst h; exact ⟨_,Big.err (b:=false) rfl,rfl⟩
section
variable {c : Nat} {t : List Nat} {tok : List Nat} {q : Bool} {last : Gr}
theorem simT_cons (IH : ∀ pl last st tok q,SimT pl last st tok q->OkT pl last st tok q t) (IHh : OkH t) (pl : Pl) (last : Gr) (st : St) (tok : List Nat) (q : Bool) (h : SimT pl last st tok q) : OkT pl last st tok q (c :: t):=by
 have hp:=pstep_non c
 cases pl <;> cases last <;> simp only [SimT] at h
 ·-- non,white
  obtain ⟨rfl,rfl,rfl⟩:=h
  cases hc : cl c <;> rw [hc] at hp <;> dsimp only at hp
  ·obtain ⟨r,hb,hr⟩:=IH .non .white .sp [] false ⟨rfl,rfl,rfl⟩
   exact ⟨r,Big.go (st2:=.sp) (tok2:=[]) (q2:=false) (io:=.no) (by simp [step,hc]) hb,by rw [prun_cons,hp]; exact hr.go fun fs=>rfl⟩
  ·obtain ⟨r,hb,hr⟩:=IHh
   exact ⟨r,Big.go (st2:=.sp) (tok2:=[]) (q2:=false) (io:=.line) (by simp [step,hc]) hb,by rw [prun_cons,hp]; exact hr.go fun fs=>by simp [pend,lrun_cons,lstep,grp]⟩
  ·obtain ⟨r,hb,hr⟩:=IH .esc .white .ea [] false ⟨rfl,rfl⟩
   exact ⟨r,Big.go (st2:=.ea) (tok2:=[]) (q2:=false) (io:=.no) (by simp [step,hc]) hb,by rw [prun_cons,hp]; exact hr.go fun fs=>rfl⟩
  ·obtain ⟨r,hb,hr⟩:=IH .non .word .a [c] false ⟨rfl,.inr (by simp)⟩
   exact ⟨r,Big.go (st2:=.a) (tok2:=[c]) (q2:=false) (io:=.no) (by simp [step,hc]) hb,by rw [prun_cons,hp]; exact hr.go fun fs=>by simp [pend,lrun_cons,lstep,grp,gsame]⟩
  ·obtain ⟨r,hb,hr⟩:=IH .non .run .c [c] false ⟨rfl,by simp,rfl⟩
   exact ⟨r,Big.go (st2:=.c) (tok2:=[c]) (q2:=false) (io:=.no) (by simp [step,hc]) hb,by rw [prun_cons,hp]; exact hr.go fun fs=>by simp [pend,lrun_cons,lstep,grp,gsame]⟩
  ·obtain ⟨r,hb,hr⟩:=IH .sq .word .sq [] false rfl
   exact ⟨r,Big.go (st2:=.sq) (tok2:=[]) (q2:=false) (io:=.no) (by simp [step,hc]) hb,by rw [prun_cons,hp]; exact hr.go fun fs=>by simp [pend,lrun_cons,lstep,grp,gsame]⟩
  ·obtain ⟨r,hb,hr⟩:=IH .dq .word .dq [] false rfl
   exact ⟨r,Big.go (st2:=.dq) (tok2:=[]) (q2:=false) (io:=.no) (by simp [step,hc]) hb,by rw [prun_cons,hp]; exact hr.go fun fs=>by simp [pend,lrun_cons,lstep,grp,gsame]⟩
 ·-- non,run
  obtain ⟨rfl,ht,rfl⟩:=h
  cases hc : cl c <;> rw [hc] at hp <;> dsimp only at hp
  ·obtain ⟨r,hb,hr⟩:=IH .non .white .sp [] false ⟨rfl,rfl,rfl⟩
   exact ⟨_,Big.tok (st2:=.sp) (t:=tok) (q2:=false) (io:=.no) (by simp [step,hc]) (.inr ht) hb,by rw [prun_cons,hp]; exact hr.emit fun fs=>by simp [pend,lrun_cons,lstep,grp,gsame]⟩
  ·obtain ⟨r,hb,hr⟩:=IHh
   exact ⟨_,Big.tok (st2:=.sp) (t:=tok) (q2:=false) (io:=.line) (by simp [step,hc]) (.inr ht) hb,by rw [prun_cons,hp]; exact hr.emit fun fs=>by simp [pend,lrun_cons,lstep,grp,gsame]⟩
  ·obtain ⟨r,hb,hr⟩:=IH .esc .run .ea [] false ⟨rfl,rfl⟩
   exact ⟨_,Big.tok (st2:=.sp) (t:=tok) (q2:=false) (io:=.push) (by simp [step,hc]) (.inr ht) (Big.go (st2:=.ea) (tok2:=[]) (q2:=false) (io:=.no) (by simp [step,restOf,hc]) hb),by rw [prun_cons,hp]; exact hr.emit fun fs=>by simp [pend]⟩
  ·obtain ⟨r,hb,hr⟩:=IH .non .word .a [c] false ⟨rfl,.inr (by simp)⟩
   exact ⟨_,Big.tok (st2:=.sp) (t:=tok) (q2:=false) (io:=.push) (by simp [step,hc]) (.inr ht) (Big.go (st2:=.a) (tok2:=[c]) (q2:=false) (io:=.no) (by simp [step,restOf,hc]) hb),by rw [prun_cons,hp]; exact hr.emit fun fs=>by simp [pend,lrun_cons,lstep,grp,gsame]⟩
  ·obtain ⟨r,hb,hr⟩:=IH .non .run .c (tok ++ [c]) false ⟨rfl,by simp,rfl⟩
   exact ⟨r,Big.go (st2:=.c) (tok2:=tok ++ [c]) (q2:=false) (io:=.no) (by simp [step,hc]) hb,by rw [prun_cons,hp]; exact hr.go fun fs=>by simp [pend,lrun_cons,lstep,grp,gsame,addLast_snoc]⟩
  ·obtain ⟨r,hb,hr⟩:=IH .sq .word .sq [] false rfl
   exact ⟨_,Big.tok (st2:=.sp) (t:=tok) (q2:=false) (io:=.push) (by simp [step,hc]) (.inr ht) (Big.go (st2:=.sq) (tok2:=[]) (q2:=false) (io:=.no) (by simp [step,restOf,hc]) hb),by rw [prun_cons,hp]; exact hr.emit fun fs=>by simp [pend,lrun_cons,lstep,grp,gsame]⟩
  ·obtain ⟨r,hb,hr⟩:=IH .dq .word .dq [] false rfl
   exact ⟨_,Big.tok (st2:=.sp) (t:=tok) (q2:=false) (io:=.push) (by simp [step,hc]) (.inr ht) (Big.go (st2:=.dq) (tok2:=[]) (q2:=false) (io:=.no) (by simp [step,restOf,hc]) hb),by rw [prun_cons,hp]; exact hr.emit fun fs=>by simp [pend,lrun_cons,lstep,grp,gsame]⟩
 ·-- non,word
  obtain ⟨rfl,ht⟩:=h
  cases hc : cl c <;> rw [hc] at hp <;> dsimp only at hp
  ·obtain ⟨r,hb,hr⟩:=IH .non .white .sp [] false ⟨rfl,rfl,rfl⟩
   exact ⟨_,Big.tok (st2:=.sp) (t:=tok) (q2:=q) (io:=.no) (by simp [step,hc]) ht hb,by rw [prun_cons,hp]; exact hr.emit fun fs=>by simp [pend,lrun_cons,lstep,grp,gsame]⟩
  ·obtain ⟨r,hb,hr⟩:=IHh
   exact ⟨_,Big.tok (st2:=.sp) (t:=tok) (q2:=q) (io:=.line) (by simp [step,hc]) ht hb,by rw [prun_cons,hp]; exact hr.emit fun fs=>by simp [pend,lrun_cons,lstep,grp,gsame]⟩
  ·obtain ⟨r,hb,hr⟩:=IH .esc .word .ea tok q rfl
   exact ⟨r,Big.go (st2:=.ea) (tok2:=tok) (q2:=q) (io:=.no) (by simp [step,hc]) hb,by rw [prun_cons,hp]; exact hr.go fun fs=>rfl⟩
  ·obtain ⟨r,hb,hr⟩:=IH .non .word .a (tok ++ [c]) q ⟨rfl,.inr (by simp)⟩
   exact ⟨r,Big.go (st2:=.a) (tok2:=tok ++ [c]) (q2:=q) (io:=.no) (by simp [step,hc]) hb,by rw [prun_cons,hp]; exact hr.go fun fs=>by simp [pend,lrun_cons,lstep,grp,gsame,addLast_snoc]⟩
  ·obtain ⟨r,hb,hr⟩:=IH .non .run .c [c] false ⟨rfl,by simp,rfl⟩
   exact ⟨_,Big.tok (st2:=.sp) (t:=tok) (q2:=q) (io:=.push) (by simp [step,hc]) ht (Big.go (st2:=.c) (tok2:=[c]) (q2:=false) (io:=.no) (by simp [step,restOf,hc]) hb),by rw [prun_cons,hp]; exact hr.emit fun fs=>by simp [pend,lrun_cons,lstep,grp,gsame]⟩
  ·obtain ⟨r,hb,hr⟩:=IH .sq .word .sq tok q rfl
   exact ⟨r,Big.go (st2:=.sq) (tok2:=tok) (q2:=q) (io:=.no) (by simp [step,hc]) hb,by rw [prun_cons,hp]; exact hr.go fun fs=>by simp [pend,lrun_cons,lstep,grp,gsame,addLast_snoc]⟩
  ·obtain ⟨r,hb,hr⟩:=IH .dq .word .dq tok q rfl
   exact ⟨r,Big.go (st2:=.dq) (tok2:=tok) (q2:=q) (io:=.no) (by simp [step,hc]) hb,by rw [prun_cons,hp]; exact hr.go fun fs=>by simp [pend,lrun_cons,lstep,grp,gsame,addLast_snoc]⟩
 ·-- esc,white
  obtain ⟨rfl,rfl⟩:=h
  obtain ⟨r,hb,hr⟩:=IH .non .word .a [c] q ⟨rfl,.inr (by simp)⟩
  exact ⟨r,Big.go (st2:=.a) (tok2:=[c]) (q2:=q) (io:=.no) (by simp [step]) hb,by rw [prun_cons]; exact hr.go fun fs=>by simp [pstep,pend,lrun_cons,lstep,grp,gsame]⟩
 ·-- esc,run
  obtain ⟨rfl,rfl⟩:=h
  obtain ⟨r,hb,hr⟩:=IH .non .word .a [c] q ⟨rfl,.inr (by simp)⟩
  exact ⟨r,Big.go (st2:=.a) (tok2:=[c]) (q2:=q) (io:=.no) (by simp [step]) hb,by rw [prun_cons]; exact hr.go fun fs=>by simp [pstep,pend,lrun_cons,lstep,grp,gsame]⟩
 ·-- esc,word
  subst h
  obtain ⟨r,hb,hr⟩:=IH .non .word .a (tok ++ [c]) q ⟨rfl,.inr (by simp)⟩
  exact ⟨r,Big.go (st2:=.a) (tok2:=tok ++ [c]) (q2:=q) (io:=.no) (by simp [step]) hb,by rw [prun_cons]; exact hr.go fun fs=>by simp [pstep,pend,lrun_cons,lstep,grp,gsame,addLast_snoc]⟩
 ·-- sq
  subst h
  by_cases h39 : c = 39
  ·subst h39
   obtain ⟨r,hb,hr⟩:=IH .non .word .a tok true ⟨rfl,.inl rfl⟩
   exact ⟨r,Big.go (st2:=.a) (tok2:=tok) (q2:=true) (io:=.no) rfl hb,by rw [prun_cons]; exact hr.go fun fs=>by simp [pstep,pend]⟩
  ·have hs : step true .sq tok q (some c) = .go false .sq (tok ++ [c]) true .no:=by
    simp only [step]
    split
    ·rename_i h; exact absurd (cl_sq h) h39
    ·rfl
   obtain ⟨r,hb,hr⟩:=IH .sq .word .sq (tok ++ [c]) true rfl
   exact ⟨r,Big.go hs hb,by rw [prun_cons]; simp only [pstep,if_neg h39]; exact hr.go fun fs=>by simp [pend,lrun_cons,lstep,grp,gsame,addLast_snoc]⟩
 ·-- dq
  subst h
  by_cases h92 : c = 92
  ·subst h92
   obtain ⟨r,hb,hr⟩:=IH .ed .word .ed tok true rfl
   exact ⟨r,Big.go (st2:=.ed) (tok2:=tok) (q2:=true) (io:=.no) rfl hb,by rw [prun_cons]; exact hr.go fun fs=>by simp [pstep,pend]⟩
  by_cases h34 : c = 34
  ·subst h34
   obtain ⟨r,hb,hr⟩:=IH .non .word .a tok true ⟨rfl,.inl rfl⟩
   exact ⟨r,Big.go (st2:=.a) (tok2:=tok) (q2:=true) (io:=.no) rfl hb,by rw [prun_cons]; exact hr.go fun fs=>by simp [pstep,pend]⟩
  ·have hs : step true .dq tok q (some c) = .go false .dq (tok ++ [c]) true .no:=by
    simp only [step]
    split
    ·rename_i h; exact absurd (cl_dq h) h34
    ·rename_i h; exact absurd (cl_esc h) h92
    ·rfl
   obtain ⟨r,hb,hr⟩:=IH .dq .word .dq (tok ++ [c]) true rfl
   exact ⟨r,Big.go hs hb,by rw [prun_cons]; simp only [pstep,if_neg h92,if_neg h34]; exact hr.go fun fs=>by simp [pend,lrun_cons,lstep,grp,gsame,addLast_snoc]⟩
 ·-- ed
  subst h
  by_cases hm : c ∈ [34,92]
  ·have hs : step true .ed tok q (some c) = .go false .dq (tok ++ [c]) q .no:=by
    simp only [List.mem_cons,List.not_mem_nil,or_false] at hm
    rcases hm with rfl | rfl <;> rfl
   obtain ⟨r,hb,hr⟩:=IH .dq .word .dq (tok ++ [c]) q rfl
   exact ⟨r,Big.go hs hb,by rw [prun_cons]; simp only [pstep,if_pos hm]; exact hr.go fun fs=>by simp [pend,lrun_cons,lstep,grp,gsame,addLast_snoc]⟩
  ·have hs : step true .ed tok q (some c) = .go false .dq (tok ++ [92] ++ [c]) q .no:=by
    simp only [List.mem_cons,List.not_mem_nil,or_false,not_or] at hm
    simp only [step]
    split
    ·rename_i h; exact absurd (cl_dq h) hm.1
    ·rename_i h; exact absurd (cl_esc h) hm.2
    ·rfl
   obtain ⟨r,hb,hr⟩:=IH .dq .word .dq (tok ++ [92] ++ [c]) q rfl
   exact ⟨r,Big.go hs hb,by rw [prun_cons]; simp only [pstep,if_neg hm]; exact hr.go fun fs=>by simp [pend,lrun_cons,lstep,grp,gsame,addLast_snoc]⟩
theorem simT_hash (IH : ∀ pl last st tok q,SimT pl last st tok q->OkT pl last st tok q t) (IHh : OkH t) : OkH (c :: t):=by
 unfold OkH
 rw [skip_cons,prun_cons]
 by_cases h : c = 10
 ·subst h
  obtain ⟨r,hb,hr⟩:=IH .non .white .sp [] false ⟨rfl,rfl,rfl⟩
  refine ⟨r,by rw [if_pos rfl]; exact hb,?_⟩
  simp only [pstep,if_true]
  exact hr.go fun fs=>by simp [pend]
 ·obtain ⟨r,hb,hr⟩:=IHh
  refine ⟨r,by rw [if_neg h]; exact hb,?_⟩
  simp only [pstep,if_neg h]
  exact hr.go fun fs=>by simp
end
theorem simT : ∀ l : List Nat,(∀ pl last st tok q,SimT pl last st tok q->OkT pl last st tok q l) ∧ OkH l
 | []=>⟨simT_nil,_,Big.eof (st2:=.nul) (io:=.no) rfl,[],rfl,fun fs=>by simp [prun,lrun]⟩
 | c :: t =>
  let ⟨h1,h2⟩:=simT t
  ⟨simT_cons h1 h2,simT_hash h1 h2⟩
theorem plain_lex (txt : List Nat) : lexAll true (txt.length + 1) .sp txt = lawO (refE (prun .non txt).1) (lrun .white [] (prun .non txt).2):=by
 obtain ⟨r,hb,hr⟩:=(simT txt).1 .non .white .sp [] false ⟨rfl,rfl,rfl⟩
 rw [big_all hb,hr.lawO]
 rfl
noncomputable def pndS (bg : Bool) (tok : List Nat) : List (List Nat):=match bg with
 | true=>[tok]
 | false=>[]
noncomputable def SimS (pl : Pl) (bg : Bool) (st : St) (tok : List Nat) (q : Bool) : Prop:=match pl,bg with
 | .non,false=>st = .sp ∧ tok = [] ∧ q = false
 | .non,true=>st = .a ∧ (q = true ∨ tok ≠ [])
 | .esc,true=>st = .ea
 | .esc,false=>st = .ea ∧ tok = []
 | .sq,true=>st = .sq
 | .dq,true=>st = .dq
 | .ed,true=>st = .ed
 | _,_=>False
noncomputable def OkS (pl : Pl) (bg : Bool) (st : St) (tok : List Nat) (q : Bool) (l : List Nat) : Prop :=
 ∃ r,Big false st tok q (rpP opsL l) r ∧ Res (refE (prun pl l).1) (fun fs=>krun bg (fs ++ pndS bg tok) (prun pl l).2) r
noncomputable def OkK (l : List Nat) : Prop:=∃ r,Big false .sp [] false (skipLine (rpP opsL l)) r ∧ Res (refE (prun .hash l).1) (fun fs=>krun false fs (prun .hash l).2) r
theorem simS_nil (pl : Pl) (bg : Bool) (st : St) (tok : List Nat) (q : Bool) (h : SimS pl bg st tok q) : OkS pl bg st tok q []:=by
 cases pl <;> cases bg <;> simp only [SimS] at h
 ·obtain ⟨rfl,rfl,rfl⟩:=h
  exact ⟨_,Big.eof (st2:=.nul) (io:=.no) rfl,[],rfl,fun fs=>by simp [prun,krun,pndS]⟩
 ·obtain ⟨rfl,ht⟩:=h
  exact ⟨_,tok_end rfl ht,[tok],rfl,fun fs=>by simp [prun,krun,pndS]⟩
 ·obtain ⟨rfl,rfl⟩:=h; exact ⟨_,Big.err (b:=false) rfl,rfl⟩
 ·subst h; exact ⟨_,Big.err (b:=false) rfl,rfl⟩
 ·subst h; exact ⟨_,Big.err (b:=true) rfl,rfl⟩
 ·subst h; exact ⟨_,Big.err (b:=true) rfl,rfl⟩
 ·subst h; exact ⟨_,Big.err (b:=false) rfl,rfl⟩
theorem rp_op {c : Nat} (h : c ∈ opsL) (t : List Nat) : rpP opsL (c :: t) = 32 :: c :: 32 :: rpP opsL t:=by
 unfold rpP
 rw [List.flatMap_cons,if_pos h]
 rfl
theorem rp_no {c : Nat} (h : c ∉ opsL) (t : List Nat) : rpP opsL (c :: t) = c :: rpP opsL t:=by
 unfold rpP
 rw [List.flatMap_cons,if_neg h]
 rfl
theorem isOp_t {c : Nat} (h : c ∈ opsL) : isOp [c] = true:=by simp [isOp,h]
theorem isOp_f {c : Nat} (h : c ∉ opsL) : isOp [c] = false:=by simp [isOp,h]
theorem isOp_0 : isOp [] = false:=rfl
theorem isOp_92 : isOp [92] = false:=by decide
section
variable {c : Nat} {t : List Nat} {tok : List Nat} {q : Bool}
theorem simS_cons (IH : ∀ pl bg st tok q,SimS pl bg st tok q->OkS pl bg st tok q t) (IHh : OkK t) (pl : Pl) (bg : Bool) (st : St) (tok : List Nat) (q : Bool) (h : SimS pl bg st tok q) : OkS pl bg st tok q (c :: t):=by
 have hp:=pstep_non c
 unfold OkS
 by_cases ho : c ∈ opsL
 ·-- an operator
  have hc : cl c = .punct:=(cl_op c).mp ho
  have n39 : c ≠ 39:=fun e=>by subst e; cases hc
  have n34 : c ≠ 34:=fun e=>by subst e; cases hc
  have n92 : c ≠ 92:=fun e=>by subst e; cases hc
  rw [hc] at hp
  dsimp only at hp
  have io:=isOp_t ho
  rw [rp_op ho]
  -- from outside: the operator alone,a blank behind it
  have out : ∀ {r},Big false .sp [] false (rpP opsL t) r->Big false .sp [] false (c :: 32 :: rpP opsL t) (r.cons [c]):=fun hb =>
   Big.go (st2:=.a) (tok2:=[c]) (q2:=false) (io:=.no) (by simp [step,hc]) (Big.tok (st2:=.sp) (t:=[c]) (q2:=false) (io:=.no) rfl (.inr (by simp)) hb)
  cases pl <;> cases bg <;> simp only [SimS] at h
  ·obtain ⟨rfl,rfl,rfl⟩:=h
   obtain ⟨r,hb,hr⟩:=IH .non false .sp [] false ⟨rfl,rfl,rfl⟩
   exact ⟨_,Big.go (st2:=.sp) (tok2:=[]) (q2:=false) (io:=.no) rfl (out hb),by rw [prun_cons,hp]; exact hr.emit fun fs=>by simp [pndS,krun_cons,kstep,begunOf]⟩
  ·obtain ⟨rfl,ht⟩:=h
   obtain ⟨r,hb,hr⟩:=IH .non false .sp [] false ⟨rfl,rfl,rfl⟩
   refine ⟨_,Big.tok (st2:=.sp) (t:=tok) (q2:=q) (io:=.no) rfl ht (out hb),?_⟩
   rw [prun_cons,hp]
   have e1 : Res (refE (prun .non t).1) (fun fs=>krun false (fs ++ [[c]]) (prun .non t).2) (r.cons [c]):=hr.emit fun fs=>by simp [pndS]
   exact e1.emit fun fs=>by simp [pndS,krun_cons,kstep,begunOf]
  ·obtain ⟨rfl,rfl⟩:=h
   obtain ⟨r,hb,hr⟩:=IH .non false .sp [] false ⟨rfl,rfl,rfl⟩
   refine ⟨_,Big.go (st2:=.a) (tok2:=[] ++ [32]) (q2:=q) (io:=.no) rfl (Big.go (st2:=.a) (tok2:=[] ++ [32] ++ [c]) (q2:=q) (io:=.no) (by simp [step,restOf,hc]) (Big.tok (st2:=.sp) (t:=[] ++ [32] ++ [c]) (q2:=q) (io:=.no) rfl (.inr (by simp)) hb)),?_⟩
   rw [prun_cons]
   exact hr.emit fun fs=>by simp [pstep,pndS,krun_cons,kstep,begunOf,begin1,preS,postS,io,addLast_snoc]
  ·subst h
   obtain ⟨r,hb,hr⟩:=IH .non false .sp [] false ⟨rfl,rfl,rfl⟩
   refine ⟨_,Big.go (st2:=.a) (tok2:=tok ++ [32]) (q2:=q) (io:=.no) rfl (Big.go (st2:=.a) (tok2:=tok ++ [32] ++ [c]) (q2:=q) (io:=.no) (by simp [step,restOf,hc]) (Big.tok (st2:=.sp) (t:=tok ++ [32] ++ [c]) (q2:=q) (io:=.no) rfl (.inr (by simp)) hb)),?_⟩
   rw [prun_cons]
   exact hr.emit fun fs=>by simp [pstep,pndS,krun_cons,kstep,begunOf,begin1,preS,postS,io,addLast_snoc]
  ·subst h
   obtain ⟨r,hb,hr⟩:=IH .sq true .sq (tok ++ [32] ++ [c] ++ [32]) true rfl
   refine ⟨_,Big.go (st2:=.sq) (tok2:=tok ++ [32]) (q2:=true) (io:=.no) rfl (Big.go (st2:=.sq) (tok2:=tok ++ [32] ++ [c]) (q2:=true) (io:=.no) (by simp [step,restOf,hc]) (Big.go (st2:=.sq) (tok2:=tok ++ [32] ++ [c] ++ [32]) (q2:=true) (io:=.no) rfl hb)),?_⟩
   rw [prun_cons]
   simp only [pstep,if_neg n39]
   exact hr.go fun fs=>by simp [pndS,krun_cons,kstep,begunOf,begin1,preS,postS,io,addLast_snoc]
  ·subst h
   obtain ⟨r,hb,hr⟩:=IH .dq true .dq (tok ++ [32] ++ [c] ++ [32]) true rfl
   refine ⟨_,Big.go (st2:=.dq) (tok2:=tok ++ [32]) (q2:=true) (io:=.no) rfl (Big.go (st2:=.dq) (tok2:=tok ++ [32] ++ [c]) (q2:=true) (io:=.no) (by simp [step,restOf,hc]) (Big.go (st2:=.dq) (tok2:=tok ++ [32] ++ [c] ++ [32]) (q2:=true) (io:=.no) rfl hb)),?_⟩
   rw [prun_cons]
   simp only [pstep,if_neg n92,if_neg n34]
   exact hr.go fun fs=>by simp [pndS,krun_cons,kstep,begunOf,begin1,preS,postS,io,addLast_snoc]
  ·subst h
   have hm : c ∉ [34,92]:=by simp [n34,n92]
   obtain ⟨r,hb,hr⟩:=IH .dq true .dq (tok ++ [92] ++ [32] ++ [c] ++ [32]) true rfl
   refine ⟨_,Big.go (st2:=.dq) (tok2:=tok ++ [92] ++ [32]) (q2:=q) (io:=.no) rfl (Big.go (st2:=.dq) (tok2:=tok ++ [92] ++ [32] ++ [c]) (q2:=true) (io:=.no) (by simp [step,restOf,hc]) (Big.go (st2:=.dq) (tok2:=tok ++ [92] ++ [32] ++ [c] ++ [32]) (q2:=true) (io:=.no) rfl hb)),?_⟩
   rw [prun_cons]
   simp only [pstep,if_neg hm]
   exact hr.go fun fs=>by simp [pndS,krun_cons,kstep,begunOf,begin1,preS,postS,io,isOp_92,addLast_snoc]
 ·have io:=isOp_f ho
  have hnp : cl c ≠ .punct:=fun e=>ho ((cl_op c).mpr e)
  rw [rp_no ho]
  cases pl <;> cases bg <;> simp only [SimS] at h
  ·-- non,outside of a word
   obtain ⟨rfl,rfl,rfl⟩:=h
   cases hc : cl c <;> rw [hc] at hp <;> dsimp only at hp
   ·obtain ⟨r,hb,hr⟩:=IH .non false .sp [] false ⟨rfl,rfl,rfl⟩
    exact ⟨r,Big.go (st2:=.sp) (tok2:=[]) (q2:=false) (io:=.no) (by simp [step,hc]) hb,by rw [prun_cons,hp]; exact hr.go fun fs=>by simp [pndS,krun_cons,kstep,begunOf]⟩
   ·obtain ⟨r,hb,hr⟩:=IHh
    exact ⟨r,Big.go (st2:=.sp) (tok2:=[]) (q2:=false) (io:=.line) (by simp [step,hc]) hb,by rw [prun_cons,hp]; exact hr.go fun fs=>by simp [pndS,krun_cons,kstep,begunOf]⟩
   ·obtain ⟨r,hb,hr⟩:=IH .esc false .ea [] false ⟨rfl,rfl⟩
    exact ⟨r,Big.go (st2:=.ea) (tok2:=[]) (q2:=false) (io:=.no) (by simp [step,hc]) hb,by rw [prun_cons,hp]; exact hr.go fun fs=>rfl⟩
   ·obtain ⟨r,hb,hr⟩:=IH .non true .a [c] false ⟨rfl,.inr (by simp)⟩
    exact ⟨r,Big.go (st2:=.a) (tok2:=[c]) (q2:=false) (io:=.no) (by simp [step,hc]) hb,by rw [prun_cons,hp]; exact hr.go fun fs=>by simp [pndS,krun_cons,kstep,begunOf,begin1,preS,postS,io,addLast_snoc]⟩
   ·exact absurd hc hnp
   ·obtain ⟨r,hb,hr⟩:=IH .sq true .sq [] false rfl
    exact ⟨r,Big.go (st2:=.sq) (tok2:=[]) (q2:=false) (io:=.no) (by simp [step,hc]) hb,by rw [prun_cons,hp]; exact hr.go fun fs=>by simp [pndS,krun_cons,kstep,begunOf,begin1,preS,postS,isOp_0,addLast_snoc]⟩
   ·obtain ⟨r,hb,hr⟩:=IH .dq true .dq [] false rfl
    exact ⟨r,Big.go (st2:=.dq) (tok2:=[]) (q2:=false) (io:=.no) (by simp [step,hc]) hb,by rw [prun_cons,hp]; exact hr.go fun fs=>by simp [pndS,krun_cons,kstep,begunOf,begin1,preS,postS,isOp_0,addLast_snoc]⟩
  ·-- non,in a word
   obtain ⟨rfl,ht⟩:=h
   cases hc : cl c <;> rw [hc] at hp <;> dsimp only at hp
   ·obtain ⟨r,hb,hr⟩:=IH .non false .sp [] false ⟨rfl,rfl,rfl⟩
    exact ⟨_,Big.tok (st2:=.sp) (t:=tok) (q2:=q) (io:=.no) (by simp [step,hc]) ht hb,by rw [prun_cons,hp]; exact hr.emit fun fs=>by simp [pndS,krun_cons,kstep,begunOf]⟩
   ·obtain ⟨r,hb,hr⟩:=IHh
    exact ⟨_,Big.tok (st2:=.sp) (t:=tok) (q2:=q) (io:=.line) (by simp [step,hc]) ht hb,by rw [prun_cons,hp]; exact hr.emit fun fs=>by simp [pndS,krun_cons,kstep,begunOf]⟩
   ·obtain ⟨r,hb,hr⟩:=IH .esc true .ea tok q rfl
    exact ⟨r,Big.go (st2:=.ea) (tok2:=tok) (q2:=q) (io:=.no) (by simp [step,hc]) hb,by rw [prun_cons,hp]; exact hr.go fun fs=>rfl⟩
   ·obtain ⟨r,hb,hr⟩:=IH .non true .a (tok ++ [c]) q ⟨rfl,.inr (by simp)⟩
    exact ⟨r,Big.go (st2:=.a) (tok2:=tok ++ [c]) (q2:=q) (io:=.no) (by simp [step,hc]) hb,by rw [prun_cons,hp]; exact hr.go fun fs=>by simp [pndS,krun_cons,kstep,begunOf,begin1,preS,postS,io,addLast_snoc]⟩
   ·exact absurd hc hnp
   ·obtain ⟨r,hb,hr⟩:=IH .sq true .sq tok q rfl
    exact ⟨r,Big.go (st2:=.sq) (tok2:=tok) (q2:=q) (io:=.no) (by simp [step,hc]) hb,by rw [prun_cons,hp]; exact hr.go fun fs=>by simp [pndS,krun_cons,kstep,begunOf,begin1,preS,postS,isOp_0,addLast_snoc]⟩
   ·obtain ⟨r,hb,hr⟩:=IH .dq true .dq tok q rfl
    exact ⟨r,Big.go (st2:=.dq) (tok2:=tok) (q2:=q) (io:=.no) (by simp [step,hc]) hb,by rw [prun_cons,hp]; exact hr.go fun fs=>by simp [pndS,krun_cons,kstep,begunOf,begin1,preS,postS,isOp_0,addLast_snoc]⟩
  ·-- esc,outside
   obtain ⟨rfl,rfl⟩:=h
   obtain ⟨r,hb,hr⟩:=IH .non true .a [c] q ⟨rfl,.inr (by simp)⟩
   exact ⟨r,Big.go (st2:=.a) (tok2:=[c]) (q2:=q) (io:=.no) (by simp [step]) hb,by rw [prun_cons]; exact hr.go fun fs=>by simp [pstep,pndS,krun_cons,kstep,begunOf,begin1,preS,postS,io,addLast_snoc]⟩
  ·-- esc,in a word
   subst h
   obtain ⟨r,hb,hr⟩:=IH .non true .a (tok ++ [c]) q ⟨rfl,.inr (by simp)⟩
   exact ⟨r,Big.go (st2:=.a) (tok2:=tok ++ [c]) (q2:=q) (io:=.no) (by simp [step]) hb,by rw [prun_cons]; exact hr.go fun fs=>by simp [pstep,pndS,krun_cons,kstep,begunOf,begin1,preS,postS,io,addLast_snoc]⟩
  ·-- sq
   subst h
   by_cases h39 : c = 39
   ·subst h39
    obtain ⟨r,hb,hr⟩:=IH .non true .a tok true ⟨rfl,.inl rfl⟩
    exact ⟨r,Big.go (st2:=.a) (tok2:=tok) (q2:=true) (io:=.no) rfl hb,by rw [prun_cons]; exact hr.go fun fs=>by simp [pstep,pndS]⟩
   ·have hs : step false .sq tok q (some c) = .go false .sq (tok ++ [c]) true .no:=by
     simp only [step]
     split
     ·rename_i h; exact absurd (cl_sq h) h39
     ·rfl
    obtain ⟨r,hb,hr⟩:=IH .sq true .sq (tok ++ [c]) true rfl
    exact ⟨r,Big.go hs hb,by rw [prun_cons]; simp only [pstep,if_neg h39]; exact hr.go fun fs=>by simp [pndS,krun_cons,kstep,begunOf,begin1,preS,postS,io,addLast_snoc]⟩
  ·-- dq
   subst h
   by_cases h92 : c = 92
   ·subst h92
    obtain ⟨r,hb,hr⟩:=IH .ed true .ed tok true rfl
    exact ⟨r,Big.go (st2:=.ed) (tok2:=tok) (q2:=true) (io:=.no) rfl hb,by rw [prun_cons]; exact hr.go fun fs=>by simp [pstep,pndS]⟩
   by_cases h34 : c = 34
   ·subst h34
    obtain ⟨r,hb,hr⟩:=IH .non true .a tok true ⟨rfl,.inl rfl⟩
    exact ⟨r,Big.go (st2:=.a) (tok2:=tok) (q2:=true) (io:=.no) rfl hb,by rw [prun_cons]; exact hr.go fun fs=>by simp [pstep,pndS]⟩
   ·have hs : step false .dq tok q (some c) = .go false .dq (tok ++ [c]) true .no:=by
     simp only [step]
     split
     ·rename_i h; exact absurd (cl_dq h) h34
     ·rename_i h; exact absurd (cl_esc h) h92
     ·rfl
    obtain ⟨r,hb,hr⟩:=IH .dq true .dq (tok ++ [c]) true rfl
    exact ⟨r,Big.go hs hb,by rw [prun_cons]; simp only [pstep,if_neg h92,if_neg h34]; exact hr.go fun fs=>by simp [pndS,krun_cons,kstep,begunOf,begin1,preS,postS,io,addLast_snoc]⟩
  ·-- ed
   subst h
   by_cases hm : c ∈ [34,92]
   ·have hs : step false .ed tok q (some c) = .go false .dq (tok ++ [c]) q .no:=by
     simp only [List.mem_cons,List.not_mem_nil,or_false] at hm
     rcases hm with rfl | rfl <;> rfl
    obtain ⟨r,hb,hr⟩:=IH .dq true .dq (tok ++ [c]) q rfl
    exact ⟨r,Big.go hs hb,by rw [prun_cons]; simp only [pstep,if_pos hm]; exact hr.go fun fs=>by simp [pndS,krun_cons,kstep,begunOf,begin1,preS,postS,io,isOp_0,addLast_snoc]⟩
   ·have hs : step false .ed tok q (some c) = .go false .dq (tok ++ [92] ++ [c]) q .no:=by
     simp only [List.mem_cons,List.not_mem_nil,or_false,not_or] at hm
     simp only [step]
     split
     ·rename_i h; exact absurd (cl_dq h) hm.1
     ·rename_i h; exact absurd (cl_esc h) hm.2
     ·rfl
    obtain ⟨r,hb,hr⟩:=IH .dq true .dq (tok ++ [92] ++ [c]) q rfl
    exact ⟨r,Big.go hs hb,by rw [prun_cons]; simp only [pstep,if_neg hm]; exact hr.go fun fs=>by simp [pndS,krun_cons,kstep,begunOf,begin1,preS,postS,io,isOp_92,addLast_snoc]⟩
theorem simS_hash (IH : ∀ pl bg st tok q,SimS pl bg st tok q->OkS pl bg st tok q t) (IHh : OkK t) : OkK (c :: t):=by
 unfold OkK
 by_cases ho : c ∈ opsL
 ·have n10 : c ≠ 10:=fun e=>by subst e; exact absurd ho (by decide)
  obtain ⟨r,hb,hr⟩:=IHh
  refine ⟨r,?_,?_⟩
  ·rw [rp_op ho,skip_cons,if_neg (by decide),skip_cons,if_neg n10,skip_cons,if_neg (by decide)]
   exact hb
  ·rw [prun_cons]
   simp only [pstep,if_neg n10]
   exact hr.go fun fs=>by simp
 rw [rp_no ho,skip_cons,prun_cons]
 by_cases h : c = 10
 ·subst h
  obtain ⟨r,hb,hr⟩:=IH .non false .sp [] false ⟨rfl,rfl,rfl⟩
  refine ⟨r,by rw [if_pos rfl]; exact hb,?_⟩
  simp only [pstep,if_true]
  exact hr.go fun fs=>by simp [pndS]
 ·obtain ⟨r,hb,hr⟩:=IHh
  refine ⟨r,by rw [if_neg h]; exact hb,?_⟩
  simp only [pstep,if_neg h]
  exact hr.go fun fs=>by simp
end
theorem simS : ∀ l : List Nat,(∀ pl bg st tok q,SimS pl bg st tok q->OkS pl bg st tok q l) ∧ OkK l
 | []=>⟨simS_nil,_,Big.eof (st2:=.nul) (io:=.no) rfl,[],rfl,fun fs=>by simp [prun,krun]⟩
 | c :: t =>
  let ⟨h1,h2⟩:=simS t
  ⟨simS_cons h1 h2,simS_hash h1 h2⟩
theorem plain_spl (txt : List Nat) : lexAll false ((rpP opsL txt).length + 1) .sp (rpP opsL txt) = lawO (refE (prun .non txt).1) (krun false [] (prun .non txt).2):=by
 obtain ⟨r,hb,hr⟩:=(simS txt).1 .non false .sp [] false ⟨rfl,rfl,rfl⟩
 rw [big_all hb,hr.lawO]
 rfl
theorem sgN_alpha (n : Nat) : ∀ c ∈ sgN n,c ∈ alpha:=by
 have h1 : ∀ j < 7,opsL.getD j 0 ∈ alpha:=by decide
 have h2 : ∀ j < 12,wdL.getD j 0 ∈ alpha:=by decide
 intro c hc
 unfold sgN at hc
 split at hc <;> simp only [List.mem_singleton,List.not_mem_nil] at hc
 all_goals first
  | (subst hc; decide)
  | (subst hc; exact h1 _ (Nat.mod_lt _ (by decide)))
  | (subst hc; exact h2 _ (Nat.mod_lt _ (by decide)))
theorem pstep_one (pl : Pl) (c : Nat) : ∀ x ∈ (pstep pl c).2,x.2.length ≤ 1:=by
 intro x hx
 cases pl <;> simp only [pstep] at hx <;> (repeat' split at hx) <;> simp at hx <;> (try (rcases hx with rfl | rfl)) <;> (try subst hx) <;> simp
theorem prun_one : ∀ (l : List Nat) (pl : Pl),∀ x ∈ (prun pl l).2,x.2.length ≤ 1
 | [],pl,x,hx=>by simp [prun] at hx
 | c :: t,pl,x,hx=>by
  rw [prun_cons] at hx
  rcases List.mem_append.mp hx with h | h
  ·exact pstep_one pl c x h
  ·exact prun_one t _ x h
theorem prun_len : ∀ (l : List Nat) (pl : Pl),(prun pl l).2.length ≤ 2 * l.length
 | [],pl=>by simp [prun]
 | c :: t,pl=>by
  rw [prun_cons]
  have h1:=pstep_len pl c
  have h2:=prun_len t (pstep pl c).1
  simp only [List.length_append,List.length_cons]
  omega
theorem plain : Plain:=fun ns=>by
 refine ⟨fun c hc=>?_,prun_one _ _,prun_len _ _,plain_lex _,plain_spl _⟩
 unfold textOf at hc
 obtain ⟨l,hl,hc⟩:=List.mem_flatten.mp hc
 obtain ⟨n,_,rfl⟩:=List.mem_map.mp hl
 exact sgN_alpha _ c hc
theorem done : rwl.Holds:=law_holds plain
end
end Mine
theorem PySem.Challenge.cw_ox0105_01_holds : PySem.Challenge.rw_ox0105_01.Holds := by
  exact Mine.done
