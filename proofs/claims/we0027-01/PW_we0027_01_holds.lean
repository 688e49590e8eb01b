import PyProof.Rows.All
import Wide.All
import OpenK.AllK
import Wide.FinOn
import PySem.Challenge.RW_we0027_01
open PySem PySem.W PyProof.Rows
set_option Elab.async false
set_option maxRecDepth 100000
set_option maxHeartbeats 8000000
-- rows of my own: each key asks for what a proof says by k_with
local macro_rules | `(tactic| walk_at "call builtin:divmod") => `(tactic| k_extra "my call builtin:divmod")
local macro_rules | `(tactic| walk_at "binaryOp RShift int int") => `(tactic| k_extra "my binaryOp RShift int int")
local macro_rules | `(tactic| walk_at "inplaceOp RShift int int") => `(tactic| k_extra "my inplaceOp RShift int int")
local macro_rules | `(tactic| walk_at "binaryOp LShift int int") => `(tactic| k_extra "my binaryOp LShift int int")
local macro_rules | `(tactic| walk_at "inplaceOp LShift int int") => `(tactic| k_extra "my inplaceOp LShift int int")
local macro_rules | `(tactic| walk_at "binaryOp Mult int int") => `(tactic| k_extra "my binaryOp Mult int int")
local macro_rules | `(tactic| walk_at "inplaceOp Mult int int") => `(tactic| k_extra "my inplaceOp Mult int int")
local macro_rules | `(tactic| walk_at "binaryOp Add int int") => `(tactic| k_extra "my binaryOp Add int int")
local macro_rules | `(tactic| walk_at "binaryOp Sub int int") => `(tactic| k_extra "my binaryOp Sub int int")
local macro_rules | `(tactic| walk_at "binaryOp BitAnd int int") => `(tactic| k_extra "my binaryOp BitAnd int int")
local macro_rules | `(tactic| walk_at "binaryOp BitOr int int") => `(tactic| k_extra "my binaryOp BitOr int int")
local macro_rules | `(tactic| walk_at "inplaceOp Add int int") => `(tactic| k_extra "my inplaceOp Add int int")
local macro_rules | `(tactic| walk_at "inplaceOp Sub int int") => `(tactic| k_extra "my inplaceOp Sub int int")
local macro_rules | `(tactic| walk_at "binaryOp FloorDiv int int") => `(tactic| k_extra "my binaryOp FloorDiv int int")
local macro_rules | `(tactic| walk_at "call ref") => `(tactic| k_extra "my call ref")
local macro_rules | `(tactic| walk_at "binaryOp Mult ref int") => `(tactic| k_extra "my binaryOp Mult ref int")
local macro_rules | `(tactic| walk_at "call builtin:len") => `(tactic| k_extra "my call builtin:len")
local macro_rules | `(tactic| walk_at "setItem ref int") => `(tactic| k_extra "my setItem ref int")
local macro_rules | `(tactic| walk_at "truthy ref") => `(tactic| k_extra "my truthy ref")
local macro_rules | `(tactic| walk_at "call builtin:list.append") => `(tactic| k_extra "my call builtin:list.append")
local macro_rules | `(tactic| walk_at "call builtin:list.reverse") => `(tactic| k_extra "my call builtin:list.reverse")
local macro_rules | `(tactic| walk_at "binaryOp Pow int int") => `(tactic| k_extra "my binaryOp Pow int int")
local macro_rules | `(tactic| walk_at "exec While") => `(tactic| k_extra "my exec While")
local macro_rules | `(tactic| walk_at "CompSrc") => `(tactic| k_extra "my CompSrc")
local macro_rules | `(tactic| walk_at "CompRest") => `(tactic| k_extra "my CompRest")
local macro_rules | `(tactic| walk_at "EnEnd") => `(tactic| k_extra "my EnEnd")
local macro_rules | `(tactic| walk_at "FinE") => `(tactic| k_extra "my FinE")
local macro_rules | `(tactic| walk_at "subscriptTail Name Constant ref int") => `(tactic| k_extra "my subscriptTail Name Constant ref int")
local macro_rules | `(tactic| walk_at "subscriptTail Name BinOp ref int") => `(tactic| k_extra "my subscriptTail Name BinOp ref int")
local macro_rules | `(tactic| walk_at "subscriptTail Name Name ref int") => `(tactic| k_extra "my subscriptTail Name Name ref int")
local macro_rules | `(tactic| walk_at "subscriptTail Name Slice str ref") => `(tactic| k_extra "my subscriptTail Name Slice str ref")
local macro_rules | `(tactic| walk_at "subscriptTail Name BinOp str int") => `(tactic| k_extra "my subscriptTail Name BinOp str int")
local macro_rules | `(tactic| walk_at "call builtin:str.find") => `(tactic| k_extra "my call builtin:str.find")
local macro_rules | `(tactic| walk_at "call builtin:str.split") => `(tactic| k_extra "my call builtin:str.split")
local macro_rules | `(tactic| walk_at "call type:int") => `(tactic| k_extra "my call type:int")
local macro_rules | `(tactic| walk_at "subscriptTail Name Name str int") => `(tactic| k_extra "my subscriptTail Name Name str int")
local macro_rules | `(tactic| walk_at "exec While Compare") => `(tactic| k_extra "my exec While Compare")
local macro_rules | `(tactic| walk_at "binaryOp Add str str") => `(tactic| k_extra "my binaryOp Add str str")
local macro_rules | `(tactic| walk_at "compareOp In str ref") => `(tactic| k_extra "my compareOp In str ref")
local macro_rules | `(tactic| walk_at "subscriptTail Name Name ref str") => `(tactic| k_extra "my subscriptTail Name Name ref str")
local macro_rules | `(tactic| walk_at "subscriptTail") => `(tactic| k_extra "my subscriptTail")
local macro_rules | `(tactic| walk_at "subscriptTail Name Slice ref ref") => `(tactic| k_extra "my subscriptTail Name Slice ref ref")
local macro_rules | `(tactic| walk_at "call builtin:sum") => `(tactic| k_extra "my call builtin:sum")
local macro_rules | `(tactic| walk_at "exec Assign cons ListComp") => `(tactic| k_extra "my exec Assign cons ListComp")
local macro_rules | `(tactic| walk_at "call type:enumerate") => `(tactic| k_extra "my call type:enumerate")
local macro_rules | `(tactic| walk_at "EnRest") => `(tactic| k_extra "my EnRest")
local macro_rules | `(tactic| walk_at "call builtin:str.join") => `(tactic| k_extra "my call builtin:str.join")
local macro_rules | `(tactic| walk_at "FinA") => `(tactic| k_extra "my FinA")
local macro_rules | `(tactic| walk_at "subscriptTail Constant str BinOp str int") => `(tactic| k_extra "my subscriptTail Constant str BinOp str int")
local macro_rules | `(tactic| walk_at "binaryOp Mult int str") => `(tactic| k_extra "my binaryOp Mult int str")
local macro_rules | `(tactic| walk_at "call builtin:str.replace") => `(tactic| k_extra "my call builtin:str.replace")
local macro_rules | `(tactic| walk_at "compareOp Eq ref ref") => `(tactic| k_extra "my compareOp Eq ref ref")
-- part HD
name_quick tw8075568018651887793 for PySem.W.S.findZ by PySem.W.S.findZ_eq
name_quick tw14979626087600564940 for PySem.W.S.findZ by PySem.W.S.findZ_eq
name_quick tw188570719252767759 for PySem.W.S.findZ by PySem.W.S.findZ_eq
name_quick tw3540427207667962197 for PySem.W.S.findZ by PySem.W.S.findZ_eq
name_quick tw16414604833108395602 for PySem.W.S.findZ by PySem.W.S.findZ_eq
name_quick tw3670520836272599126 for PySem.W.S.findZ by PySem.W.S.findZ_eq
name_quick tw9862997608875712007 for PySem.W.S.findZ by PySem.W.S.findZ_eq
name_quick tw8537084889766193716 for PySem.W.S.findZ by PySem.W.S.findZ_eq
name_quick tw17111948838632640456 for PySem.W.S.findZ by PySem.W.S.findZ_eq
name_quick tw10887116778572429059 for PySem.W.S.findZ by PySem.W.S.findZ_eq
name_quick tw4292500188555128830 for PySem.W.S.findZ by PySem.W.S.findZ_eq
name_quick tw17532718790514356516 for PySem.W.S.findZ by PySem.W.S.findZ_eq
name_quick tw5515242420486718171 for PySem.W.S.findZ by PySem.W.S.findZ_eq
name_quick tw12233582284571471492 for PySem.W.S.findZ by PySem.W.S.findZ_eq
name_quick tw1258299570235058372 for PySem.W.S.findZ by PySem.W.S.findZ_eq
name_quick tw5152614393039654373 for PySem.W.S.findZ by PySem.W.S.findZ_eq
name_quick tw6589095468515690095 for PySem.W.S.findZ by PySem.W.S.findZ_eq
name_quick tw3891137856419664920 for PySem.W.S.findZ by PySem.W.S.findZ_eq
name_quick tw1355338860687761863 for PySem.W.S.findZ by PySem.W.S.findZ_eq
name_quick tw14108194823987119177 for PySem.W.S.findZ by PySem.W.S.findZ_eq
name_quick tw5721027456603625697 for PySem.W.S.findZ by PySem.W.S.findZ_eq
name_quick tw14311459727803291754 for PySem.W.S.findZ by PySem.W.S.findZ_eq
name_quick tw682011567655089306 for PySem.W.S.findZ by PySem.W.S.findZ_eq
name_quick tw9467589175468403638 for PySem.W.S.findZ by PySem.W.S.findZ_eq
name_quick tw18345786424863182364 for PySem.W.S.findZ by PySem.W.S.findZ_eq
name_quick tw1702518465993881591 for PySem.W.S.findZ by PySem.W.S.findZ_eq
name_quick tw16593013826814733010 for PySem.W.S.findZ by PySem.W.S.findZ_eq
name_quick tw18211773271919218964 for PySem.W.S.findZ by PySem.W.S.findZ_eq
name_quick tw6683783046931543321 for PySem.W.S.findZ by PySem.W.S.findZ_eq
name_quick tw8860024209350480642 for PySem.W.S.findZ by PySem.W.S.findZ_eq
name_quick tw11985326045990495214 for PySem.W.S.findZ by PySem.W.S.findZ_eq
name_quick tw16241802466949684156 for PySem.W.S.findZ by PySem.W.S.findZ_eq
name_quick tw10942035263794033107 for PySem.W.S.findZ by PySem.W.S.findZ_eq
name_quick tw15112985482279097393 for PySem.W.S.findZ by PySem.W.S.findZ_eq
name_quick tw9315938663221665524 for PySem.W.S.findZ by PySem.W.S.findZ_eq
name_quick tw13016732220969518872 for PySem.W.S.findZ by PySem.W.S.findZ_eq
name_quick tw4552823106982906706 for PySem.W.S.findZ by PySem.W.S.findZ_eq
name_quick tw10833955939284561965 for PySem.W.S.findZ by PySem.W.S.findZ_eq
name_quick tw11317593695737139937 for PySem.W.S.findZ by PySem.W.S.findZ_eq
name_quick tw16817318245366136608 for PySem.W.S.findZ by PySem.W.S.findZ_eq
name_quick tw11588390666370768167 for PySem.W.S.findZ by PySem.W.S.findZ_eq
name_quick tw15980859228951719591 for PySem.W.S.findZ by PySem.W.S.findZ_eq
name_quick tw4558998842232669794 for PySem.W.S.findZ by PySem.W.S.findZ_eq
name_quick tw13512673800721320934 for PySem.W.S.findZ by PySem.W.S.findZ_eq
name_quick tw17888162413812561239 for PySem.W.S.findZ by PySem.W.S.findZ_eq
name_quick tw8753696776887207221 for PySem.W.S.findZ by PySem.W.S.findZ_eq
name_quick tw5770868932273138760 for PySem.W.S.findZ by PySem.W.S.findZ_eq
name_quick tw505943868828395459 for PySem.W.S.findZ by PySem.W.S.findZ_eq
name_quick tw7232422423428716515 for PySem.W.S.findZ by PySem.W.S.findZ_eq
name_quick tw3778451253796500701 for PySem.W.S.findZ by PySem.W.S.findZ_eq
name_quick tw151948405760981731 for PySem.W.S.findZ by PySem.W.S.findZ_eq
name_quick tw10948738476641704880 for PySem.W.S.findZ by PySem.W.S.findZ_eq
name_quick tw14126943448341045398 for PySem.W.S.findZ by PySem.W.S.findZ_eq
name_quick tw9564595351457756722 for PySem.W.S.findZ by PySem.W.S.findZ_eq
name_quick tw13317431791736044220 for PySem.W.S.findZ by PySem.W.S.findZ_eq
name_quick tw3282434896037501709 for PySem.W.S.findZ by PySem.W.S.findZ_eq
name_quick tw136631920214876835 for PySem.W.S.findZ by PySem.W.S.findZ_eq
name_quick tw1092655722715705105 for PySem.W.S.findZ by PySem.W.S.findZ_eq
name_quick tw18220123701641295943 for PySem.W.S.findZ by PySem.W.S.findZ_eq
name_quick tw18056578402003937789 for PySem.W.S.findZ by PySem.W.S.findZ_eq
name_quick tw7745614565497352828 for PySem.W.S.findZ by PySem.W.S.findZ_eq
name_quick tw14714103240675001986 for PySem.W.S.findZ by PySem.W.S.findZ_eq
name_quick tw8206430501311747189 for PySem.W.S.findZ by PySem.W.S.findZ_eq
name_quick tw2478078296215019888 for PySem.W.S.findZ by PySem.W.S.findZ_eq
name_quick tw8603108125212654177 for PySem.W.S.findZ by PySem.W.S.findZ_eq
name_quick tw8703263022893421829 for PySem.W.S.findZ by PySem.W.S.findZ_eq
name_quick tw1829445100760108279 for PySem.W.S.findZ by PySem.W.S.findZ_eq
name_quick tw3131671291697673992 for PySem.W.S.findZ by PySem.W.S.findZ_eq
name_quick tw10424941004445345732 for PySem.W.S.findZ by PySem.W.S.findZ_eq
name_quick tw17964007177503468958 for PySem.W.S.findZ by PySem.W.S.findZ_eq
name_quick tw4302124980754421698 for PySem.W.S.findZ by PySem.W.S.findZ_eq
name_quick tw13607416678640721797 for PySem.W.S.findZ by PySem.W.S.findZ_eq
name_quick tw4090926877573551719 for PySem.W.S.findZ by PySem.W.S.findZ_eq
name_quick tw9011979029575296479 for PySem.W.S.findZ by PySem.W.S.findZ_eq
name_quick tw8579058602437062094 for PySem.W.S.findZ by PySem.W.S.findZ_eq
name_quick tw17100903815162463580 for PySem.W.S.findZ by PySem.W.S.findZ_eq
name_quick tw3972328310683599613 for PySem.W.S.findZ by PySem.W.S.findZ_eq
name_quick tw17988542015724977305 for PySem.W.S.findZ by PySem.W.S.findZ_eq
name_quick tw14168537005229113720 for PySem.W.S.findZ by PySem.W.S.findZ_eq
name_quick tw4797165386629745026 for PySem.W.S.findZ by PySem.W.S.findZ_eq
name_quick tw11729385059970357855 for PySem.W.S.findZ by PySem.W.S.findZ_eq
name_quick tw8693227569615203950 for PySem.W.S.findZ by PySem.W.S.findZ_eq
name_quick tw13335737130258781183 for PySem.W.S.findZ by PySem.W.S.findZ_eq
name_quick tw662354867322794072 for PySem.W.S.findZ by PySem.W.S.findZ_eq
name_quick tw7276740287692124622 for PySem.W.S.findZ by PySem.W.S.findZ_eq
name_quick tw13678640442995254988 for PySem.W.S.findZ by PySem.W.S.findZ_eq
name_quick tw4933834842325187142 for PySem.W.S.findZ by PySem.W.S.findZ_eq
name_quick tw6929956602132211858 for PySem.W.S.findZ by PySem.W.S.findZ_eq
name_quick tw13236226663087606529 for PySem.W.S.findZ by PySem.W.S.findZ_eq
name_quick tw392140993173905013 for PySem.W.S.findZ by PySem.W.S.findZ_eq
name_quick tw9407582987413476825 for PySem.W.S.findZ by PySem.W.S.findZ_eq
name_quick tw16018607276475445134 for PySem.W.S.findZ by PySem.W.S.findZ_eq
name_quick tw8424611434330503625 for PySem.W.S.findZ by PySem.W.S.findZ_eq
name_quick tw5902227825499142635 for PySem.W.S.findZ by PySem.W.S.findZ_eq
name_quick tw117213463901210413 for PySem.W.S.findZ by PySem.W.S.findZ_eq
name_quick tw17279654841073493023 for PySem.W.S.findZ by PySem.W.S.findZ_eq
name_quick tw9196623565179802929 for PySem.W.S.findZ by PySem.W.S.findZ_eq
name_quick tw14537914154153760125 for PySem.W.S.findZ by PySem.W.S.findZ_eq
name_quick tw10007627690174824804 for PySem.W.S.findZ by PySem.W.S.findZ_eq
name_quick tw16916688483869632129 for PySem.W.S.findZ by PySem.W.S.findZ_eq
name_quick tw470574548607681690 for PySem.W.S.findZ by PySem.W.S.findZ_eq
name_quick tw2532725972614424836 for PySem.W.S.findZ by PySem.W.S.findZ_eq
name_quick tw6448080314894763839 for PySem.W.S.findZ by PySem.W.S.findZ_eq
name_quick tw3421647286062184163 for PySem.W.S.findZ by PySem.W.S.findZ_eq
name_quick tw17476080006546285661 for PySem.W.S.findZ by PySem.W.S.findZ_eq
name_quick tw1258717718454355964 for PySem.W.S.findZ by PySem.W.S.findZ_eq
name_quick tw17018628822417861297 for PySem.W.S.findZ by PySem.W.S.findZ_eq
name_quick tw282004115355043989 for PySem.W.S.findZ by PySem.W.S.findZ_eq
name_quick tw4071324889030633612 for PySem.W.S.findZ by PySem.W.S.findZ_eq
name_quick tw17069979004554194336 for PySem.W.S.findZ by PySem.W.S.findZ_eq
name_quick tw4011157648589011858 for PySem.W.S.findZ by PySem.W.S.findZ_eq
name_quick tw15475462885187679331 for PySem.W.S.findZ by PySem.W.S.findZ_eq
name_quick tw14834023430324568649 for PySem.W.S.findZ by PySem.W.S.findZ_eq
name_quick tw1291980286583624508 for PySem.W.S.findZ by PySem.W.S.findZ_eq
name_quick tw14333388528381170442 for PySem.W.S.findZ by PySem.W.S.findZ_eq
name_quick tw17975652961387846372 for PySem.W.S.findZ by PySem.W.S.findZ_eq
name_quick tw8376441433122354887 for PySem.W.S.findZ by PySem.W.S.findZ_eq
name_quick tw16049961110935095269 for PySem.W.S.findZ by PySem.W.S.findZ_eq
name_quick tw7275051467321613617 for PySem.W.S.findZ by PySem.W.S.findZ_eq
name_quick tw12268644228514654432 for PySem.W.S.findZ by PySem.W.S.findZ_eq
name_quick tw5978237884098788730 for PySem.W.S.findZ by PySem.W.S.findZ_eq
name_quick tw18350330562280901221 for PySem.W.S.findZ by PySem.W.S.findZ_eq
name_quick tw3619232141914619222 for PySem.W.S.findZ by PySem.W.S.findZ_eq
name_quick tw10010936943081839664 for PySem.W.S.findZ by PySem.W.S.findZ_eq
name_quick tw4658958612460137192 for PySem.W.S.findZ by PySem.W.S.findZ_eq
name_quick tw704327219915372674 for PySem.W.S.findZ by PySem.W.S.findZ_eq
name_quick tw6380047634161181297 for PySem.W.S.findZ by PySem.W.S.findZ_eq
name_quick tw17000155066101142889 for PySem.W.S.findZ by PySem.W.S.findZ_eq
name_quick tw4527066259768149269 for PySem.W.S.findZ by PySem.W.S.findZ_eq
name_quick tw17730428716208468724 for PySem.W.S.findZ by PySem.W.S.findZ_eq
name_quick tw1414301608579184545 for PySem.W.S.findZ by PySem.W.S.findZ_eq
name_quick tw2283851925072248500 for PySem.W.S.findZ by PySem.W.S.findZ_eq
name_quick tw10029231156530900338 for PySem.W.S.findZ by PySem.W.S.findZ_eq
name_quick tw5349121933718820234 for PySem.W.S.findZ by PySem.W.S.findZ_eq
name_quick tw1962928258387122110 for PySem.W.S.findZ by PySem.W.S.findZ_eq
name_quick tw7892128664451923741 for PySem.W.S.findZ by PySem.W.S.findZ_eq
name_quick tw1537898542681612871 for PySem.W.S.findZ by PySem.W.S.findZ_eq
name_quick tw1333364371103165705 for PySem.W.S.findZ by PySem.W.S.findZ_eq
name_quick tw3105397867545767578 for PySem.W.S.findZ by PySem.W.S.findZ_eq
name_quick tw3976722010076183465 for PySem.W.S.findZ by PySem.W.S.findZ_eq
name_quick tw9908251947323293946 for PySem.W.S.findZ by PySem.W.S.findZ_eq
name_quick tw13254397897704925713 for PySem.W.S.findZ by PySem.W.S.findZ_eq
name_quick tw3152983702415266003 for PySem.W.S.findZ by PySem.W.S.findZ_eq
name_quick tw6679490504615227074 for PySem.W.S.findZ by PySem.W.S.findZ_eq
name_quick tw12866136484021002089 for PySem.W.S.findZ by PySem.W.S.findZ_eq
name_quick tw11420187438672877268 for PySem.W.S.findZ by PySem.W.S.findZ_eq
name_quick tw951843321253372498 for PySem.W.S.findZ by PySem.W.S.findZ_eq
name_quick tw6245536207120538393 for PySem.W.S.findZ by PySem.W.S.findZ_eq
name_quick tw7269565832213808900 for PySem.W.S.findZ by PySem.W.S.findZ_eq
name_quick tw10227693086864044499 for PySem.W.S.findZ by PySem.W.S.findZ_eq
name_quick tw2627984346626558326 for PySem.W.S.findZ by PySem.W.S.findZ_eq
name_quick tw16349804527192203551 for PySem.W.S.findZ by PySem.W.S.findZ_eq
name_quick tw4549333791460862111 for PySem.W.S.findZ by PySem.W.S.findZ_eq
name_quick tw9948023125614773506 for PySem.W.S.findZ by PySem.W.S.findZ_eq
name_quick tw3764465048917985505 for PySem.W.S.findZ by PySem.W.S.findZ_eq
namespace Mine
open_top hd for PySem.Challenge.rw_we0027_01
end Mine
-- part OP
namespace Mine
section
variable {prog : Program} {w : World} {A : Around} {E : Value → Shared → Prop} {a b : Int} {t u : Tok} {Q : Value → Shared → Prop} {hp : Heap} {gn : Array GenState} {dr : Drawn} {tk : Nat} {os : OsState}
theorem g_add (h : ∀ t k, Q (.int (a + b) t) ⟨hp, gn, dr, k, os⟩) : wpAny (model prog w) A (binaryOp .Add (.int a t) (.int b u)) Q E ⟨hp, gn, dr, tk, os⟩ := PyProof.Rows.add_int (h _ _)
theorem g_sub (h : ∀ t k, Q (.int (a - b) t) ⟨hp, gn, dr, k, os⟩) : wpAny (model prog w) A (binaryOp .Sub (.int a t) (.int b u)) Q E ⟨hp, gn, dr, tk, os⟩ := PyProof.Rows.sub_int (h _ _)
theorem g_mul (hm : IntMulOk a b) (h : ∀ t k, Q (.int (a * b) t) ⟨hp, gn, dr, k, os⟩) : wpAny (model prog w) A (binaryOp .Mult (.int a t) (.int b u)) Q E ⟨hp, gn, dr, tk, os⟩ := PyProof.Rows.mul_int (h _ _) hm
theorem g_and (h : ∀ t k, Q (.int (Builtin.bitAnd a b) t) ⟨hp, gn, dr, k, os⟩) : wpAny (model prog w) A (binaryOp .BitAnd (.int a t) (.int b u)) Q E ⟨hp, gn, dr, tk, os⟩ := and_int (h _ _)
theorem g_or (h : ∀ t k, Q (.int (Builtin.bitOr a b) t) ⟨hp, gn, dr, k, os⟩) : wpAny (model prog w) A (binaryOp .BitOr (.int a t) (.int b u)) Q E ⟨hp, gn, dr, tk, os⟩ := or_int (h _ _)
theorem g_rsh (hn : 0 ≤ b) (h : ∀ t k, Q (.int (a.fdiv (2 ^ b.toNat)) t) ⟨hp, gn, dr, k, os⟩) : wpAny (model prog w) A (binaryOp .RShift (.int a t) (.int b u)) Q E ⟨hp, gn, dr, tk, os⟩ := rshift_int hn (h _ _)
theorem g_lsh (hn : 0 ≤ b) (hs : (Builtin.Int.intBits a : Int) + b ≤ 2 ^ 27) (h : ∀ t k, Q (.int (a * 2 ^ b.toNat) t) ⟨hp, gn, dr, k, os⟩) : wpAny (model prog w) A (binaryOp .LShift (.int a t) (.int b u)) Q E ⟨hp, gn, dr, tk, os⟩ := lshift_int hn hs (h _ _)
theorem g_mod (hb : b ≠ 0) (h : ∀ t k, Q (.int (a.fmod b) t) ⟨hp, gn, dr, k, os⟩) : wpAny (model prog w) A (binaryOp .Mod (.int a t) (.int b u)) Q E ⟨hp, gn, dr, tk, os⟩ := PyProof.Rows.mod_int hb (h _ _)
theorem g_iadd (h : ∀ t k, Q (.int (a + b) t) ⟨hp, gn, dr, k, os⟩) : wpAny (model prog w) A (inplaceOp .Add (.int a t) (.int b u)) Q E ⟨hp, gn, dr, tk, os⟩ := PyProof.Rows.iadd_int (h _ _)
theorem g_isub (h : ∀ t k, Q (.int (a - b) t) ⟨hp, gn, dr, k, os⟩) : wpAny (model prog w) A (inplaceOp .Sub (.int a t) (.int b u)) Q E ⟨hp, gn, dr, tk, os⟩ := PyProof.Rows.isub_int (h _ _)
theorem g_imul (hm : IntMulOk a b) (h : ∀ t k, Q (.int (a * b) t) ⟨hp, gn, dr, k, os⟩) : wpAny (model prog w) A (inplaceOp .Mult (.int a t) (.int b u)) Q E ⟨hp, gn, dr, tk, os⟩ := PyProof.Rows.imul_int (h _ _) hm
theorem g_irsh (hn : 0 ≤ b) (h : ∀ t k, Q (.int (a.fdiv (2 ^ b.toNat)) t) ⟨hp, gn, dr, k, os⟩) : wpAny (model prog w) A (inplaceOp .RShift (.int a t) (.int b u)) Q E ⟨hp, gn, dr, tk, os⟩ := irshift_int hn (h _ _)
theorem g_ilsh (hn : 0 ≤ b) (hs : (Builtin.Int.intBits a : Int) + b ≤ 2 ^ 27) (h : ∀ t k, Q (.int (a * 2 ^ b.toNat) t) ⟨hp, gn, dr, k, os⟩) : wpAny (model prog w) A (inplaceOp .LShift (.int a t) (.int b u)) Q E ⟨hp, gn, dr, tk, os⟩ := ilshift_int hn hs (h _ _)
end
end Mine
-- part CT
namespace Mine
/-- a call out of a frame: what it hands back, over what ledger -/
noncomputable abbrev Ctr (w : World) (f : Addr) (vs : List Value) (d u : Nat) (led : List (Addr × Obj)) (Out : Value → List (Addr × Obj) → Prop) : Prop :=
  ∀ (dp un : Nat) (gd : Option (List Code)) (cn : Str) (cs : Scope) (a : Addr) (ccd : Value) (cl : List (Str × Addr)) (outer : List Env) (A₀ : Around) (base h₀ : Heap) (L : Addr) (m : Str → Option Value) (s : Shared) (Q E : Value → Shared → Prop)
    (loose : List Str) (mean : ExcName → Option Value) (mg mb : Str → Option Value),
    Below A₀ base outer h₀ → Fr h₀ L s.heap m → (Mine.hd.heap_39 w.params).In h₀ → News h₀ L s.heap led → Top topProg loose mean mg mb h₀ → CodeHd base 41 37 → CodeHd base 34 30 → cs.kind = .function → dp + d < recursionLimit → un + u < cLine →
    (∀ r led' h' tk', Fr h₀ L h' m → News h₀ L h' led' → Out r led' → Q r { s with heap := h', toks := tk' }) →
    wpAny (model PySem.Challenge.rw_we0027_01.row.prog w) (ktrTop dp un gd cn cs L a ccd cl outer) (call (.ref f) vs) Q E s
theorem Ctr.use {w : World} {f : Addr} {vs : List Value} {d u : Nat} {led : List (Addr × Obj)} {Out : Value → List (Addr × Obj) → Prop}
    {dp un : Nat} {gd : Option (List Code)} {cn : Str} {cs : Scope} {a : Addr} {ccd : Value} {cl : List (Str × Addr)} {outer : List Env} {A₀ : Around} {base h₀ : Heap} {L : Addr} {m : Str → Option Value} {s : Shared} {Q E : Value → Shared → Prop}
    {loose : List Str} {mean : ExcName → Option Value} {mg mb : Str → Option Value} (C : Ctr w f vs d u led Out)
    (B : Below A₀ base outer h₀) (F : Fr h₀ L s.heap m) (X : (Mine.hd.heap_39 w.params).In h₀) (N : News h₀ L s.heap led) (T : Top topProg loose mean mg mb h₀) (C1 : CodeHd base 41 37) (C2 : CodeHd base 34 30) (hk : cs.kind = .function) (hd : dp + d < recursionLimit) (hu : un + u < cLine)
    (ret : ∀ r led' h' tk', Fr h₀ L h' m → News h₀ L h' led' → Out r led' → Q r { s with heap := h', toks := tk' }) :
    wpAny (model PySem.Challenge.rw_we0027_01.row.prog w) (ktrTop dp un gd cn cs L a ccd cl outer) (call (.ref f) vs) Q E s :=
  C dp un gd cn cs a ccd cl outer A₀ base h₀ L m s Q E loose mean mg mb B F X N T C1 C2 hk hd hu ret
noncomputable abbrev pairObj (a b : Value) : Obj := { cls := .type "tuple", data := .seq #[a, b] 0 }
noncomputable abbrev PairOut (x y : Int) (led : List (Addr × Obj)) (r : Value) (led' : List (Addr × Obj)) : Prop := ∃ D t1 t2, r = .ref D ∧ led' = (D, pairObj (.int x t1) (.int y t2)) :: led ∧ ∀ p ∈ led, p.1 < D
theorem rest_ne {d e : Nat} : ∀ {l : List (Addr × Obj)}, AllLt d l → d ≤ e → ∀ p ∈ l, p.1 ≠ e
  | [], _, _, _, hp => nomatch hp
  | _ :: _, h, he, p, hp => by
    rcases List.mem_cons.mp hp with rfl | hp
    · exact Nat.ne_of_lt (Nat.lt_of_lt_of_le h.1 he)
    · exact rest_ne h.2 he p hp
/-- a divisor whose divisions stay off _pylong -/
noncomputable def Near (b : Int) : Prop := ∀ x, Builtin.divisionGoesByPylong x b = false
theorem near_of {b : Int} (h : b.natAbs < 2 ^ 8000) : Near b := fun x => by
  unfold Builtin.divisionGoesByPylong
  have : ¬ ((if b == 0 then 0 else b.natAbs.log2 / 30 + 1) > 300) := by
    split
    · decide
    · rename_i hb
      have hb' : b.natAbs ≠ 0 := by
        intro e
        exact hb (by simp; (first | lia | omega))
      have : b.natAbs.log2 < 8000 := (Nat.log2_lt hb').mpr h
      (first | lia | omega)
  simp only [this, decide_false, Bool.false_and]
theorem news_lt {h₀ : Heap} {L : Addr} {h : Heap} {led : List (Addr × Obj)} (N : News h₀ L h led) : ∀ p ∈ led, p.1 < h.objs.size := fun p hp => Heap.lt_size (N p hp).1
theorem my_divmod {prog : Program} {w : World} {A : Around} {E : Value → Shared → Prop} {s : Shared} {a b : Int} {t u : Tok} {Q : Value → Shared → Prop} {h₀ : Heap} {L : Addr} {m : Str → Option Value} {news : List (Addr × Obj)} (F : Fr h₀ L s.heap m) (N : News h₀ L s.heap news) (hb : b ≠ 0) (hp : Near b)
    (h : ∀ D h' t1 t2 tk', Fr h₀ L h' m → News h₀ L h' ((D, pairObj (.int (a.fdiv b) t1) (.int (a.fmod b) t2)) :: news) → (∀ p ∈ news, p.1 < D) → Q (.ref D) { s with toks := tk', heap := h' }) :
    wpAny (model prog w) A (call (.builtin "divmod") [.int a t, .int b u]) Q E s :=
  divmod_N F N hb (fun h' F' N' => h _ _ _ _ _ F' N' (news_lt N)) (.inl (hp a))
theorem allLt_to {d : Nat} : ∀ {l : List (Addr × Obj)}, AllLt d l → ∀ p ∈ l, p.1 < d
  | [], _, _, hp => nomatch hp
  | _ :: _, h, p, hp => by
    rcases List.mem_cons.mp hp with rfl | hp
    · exact h.1
    · exact allLt_to h.2 p hp
theorem pair_end {h₀ h' : Heap} {L : Addr} {m : Str → Option Value} {led news' : List (Addr × Obj)} {s : Shared} {Q : Value → Shared → Prop} {x y : Int} {D : Addr} {t1 t2 : Tok} {tk' : Nat}
    (hret : ∀ (r : Value) (led' : List (Addr × Obj)) (h' : Heap) (tk' : Nat), Fr h₀ L h' m → News h₀ L h' led' → PairOut x y led r led' → Q r { s with heap := h', toks := tk' })
    (F : Fr h₀ L h' m) (N : News h₀ L h' ((D, pairObj (.int x t1) (.int y t2)) :: news')) (hsub : ∀ p ∈ led, p ∈ news') (hlt : ∀ p ∈ led, p.1 < D) : Q (.ref D) { s with heap := h', toks := tk' } :=
  hret _ _ _ _ F (fun p hp => by
    rcases List.mem_cons.mp hp with rfl | hp
    · exact N _ (.head _)
    · exact N p (.tail _ (hsub p hp))) ⟨D, t1, t2, rfl, rfl, hlt⟩
theorem Ctr.u0_0 {w : World} {f : Addr} {vs : List Value} {d u : Nat} {led : List (Addr × Obj)}
    {dp un : Nat} {gd : Option (List Code)} {cn : Str} {cs : Scope} {a : Addr} {ccd : Value} {cl : List (Str × Addr)} {outer : List Env} {A₀ : Around} {base h₀ : Heap} {L : Addr} {m : Str → Option Value} {hp : Heap} {gn : Array GenState} {dr : Drawn} {tk : Tok} {os : OsState} {Q E : Value → Shared → Prop}
    {loose : List Str} {mean : ExcName → Option Value} {mg mb : Str → Option Value} {rv : Value} {lf : List (Addr × Obj)} (C : Ctr w f vs d u led (fun r l => r = rv ∧ l = lf))
    (B : Below A₀ base outer h₀) (F : Fr h₀ L hp m) (X : (Mine.hd.heap_39 w.params).In h₀) (N : News h₀ L hp led) (T : Top topProg loose mean mg mb h₀) (C1 : CodeHd base 41 37) (C2 : CodeHd base 34 30) (hk : cs.kind = .function) (hd : dp + d < recursionLimit) (hu : un + u < cLine)
    (ret : ∀ h' tk', Fr h₀ L h' m → News h₀ L h' (lf) → Q rv ⟨h', gn, dr, tk', os⟩) :
    wpAny (model PySem.Challenge.rw_we0027_01.row.prog w) (ktrTop dp un gd cn cs L a ccd cl outer) (call (.ref f) vs) Q E ⟨hp, gn, dr, tk, os⟩ :=
  C.use B F X N T C1 C2 hk hd hu fun r l h' tk' F' N' hO => by
    obtain ⟨e1, e2⟩ := hO
    subst e1
    subst e2
    exact ret h' tk' F' N'
theorem Ctr.u1_0 {w : World} {f : Addr} {vs : List Value} {d u : Nat} {led : List (Addr × Obj)}
    {dp un : Nat} {gd : Option (List Code)} {cn : Str} {cs : Scope} {a : Addr} {ccd : Value} {cl : List (Str × Addr)} {outer : List Env} {A₀ : Around} {base h₀ : Heap} {L : Addr} {m : Str → Option Value} {hp : Heap} {gn : Array GenState} {dr : Drawn} {tk : Tok} {os : OsState} {Q E : Value → Shared → Prop}
    {loose : List Str} {mean : ExcName → Option Value} {mg mb : Str → Option Value} {α0 : Type} {rv : α0 → Value} {lf : α0 → List (Addr × Obj)} (C : Ctr w f vs d u led (fun r l => ∃ x0, r = rv x0 ∧ l = lf x0))
    (B : Below A₀ base outer h₀) (F : Fr h₀ L hp m) (X : (Mine.hd.heap_39 w.params).In h₀) (N : News h₀ L hp led) (T : Top topProg loose mean mg mb h₀) (C1 : CodeHd base 41 37) (C2 : CodeHd base 34 30) (hk : cs.kind = .function) (hd : dp + d < recursionLimit) (hu : un + u < cLine)
    (ret : ∀ x0, ∀ h' tk', Fr h₀ L h' m → News h₀ L h' (lf x0) → Q (rv x0) ⟨h', gn, dr, tk', os⟩) :
    wpAny (model PySem.Challenge.rw_we0027_01.row.prog w) (ktrTop dp un gd cn cs L a ccd cl outer) (call (.ref f) vs) Q E ⟨hp, gn, dr, tk, os⟩ :=
  C.use B F X N T C1 C2 hk hd hu fun r l h' tk' F' N' hO => by
    obtain ⟨x0, e1, e2⟩ := hO
    subst e1
    subst e2
    exact ret x0 h' tk' F' N'
theorem Ctr.u3_0 {w : World} {f : Addr} {vs : List Value} {d u : Nat} {led : List (Addr × Obj)}
    {dp un : Nat} {gd : Option (List Code)} {cn : Str} {cs : Scope} {a : Addr} {ccd : Value} {cl : List (Str × Addr)} {outer : List Env} {A₀ : Around} {base h₀ : Heap} {L : Addr} {m : Str → Option Value} {hp : Heap} {gn : Array GenState} {dr : Drawn} {tk : Tok} {os : OsState} {Q E : Value → Shared → Prop}
    {loose : List Str} {mean : ExcName → Option Value} {mg mb : Str → Option Value} {α0 α1 α2 : Type} {rv : α0 → α1 → α2 → Value} {lf : α0 → α1 → α2 → List (Addr × Obj)} (C : Ctr w f vs d u led (fun r l => ∃ x0 x1 x2, r = rv x0 x1 x2 ∧ l = lf x0 x1 x2))
    (B : Below A₀ base outer h₀) (F : Fr h₀ L hp m) (X : (Mine.hd.heap_39 w.params).In h₀) (N : News h₀ L hp led) (T : Top topProg loose mean mg mb h₀) (C1 : CodeHd base 41 37) (C2 : CodeHd base 34 30) (hk : cs.kind = .function) (hd : dp + d < recursionLimit) (hu : un + u < cLine)
    (ret : ∀ x0 x1 x2, ∀ h' tk', Fr h₀ L h' m → News h₀ L h' (lf x0 x1 x2) → Q (rv x0 x1 x2) ⟨h', gn, dr, tk', os⟩) :
    wpAny (model PySem.Challenge.rw_we0027_01.row.prog w) (ktrTop dp un gd cn cs L a ccd cl outer) (call (.ref f) vs) Q E ⟨hp, gn, dr, tk, os⟩ :=
  C.use B F X N T C1 C2 hk hd hu fun r l h' tk' F' N' hO => by
    obtain ⟨x0, x1, x2, e1, e2⟩ := hO
    subst e1
    subst e2
    exact ret x0 x1 x2 h' tk' F' N'
theorem Ctr.u7_0 {w : World} {f : Addr} {vs : List Value} {d u : Nat} {led : List (Addr × Obj)}
    {dp un : Nat} {gd : Option (List Code)} {cn : Str} {cs : Scope} {a : Addr} {ccd : Value} {cl : List (Str × Addr)} {outer : List Env} {A₀ : Around} {base h₀ : Heap} {L : Addr} {m : Str → Option Value} {hp : Heap} {gn : Array GenState} {dr : Drawn} {tk : Tok} {os : OsState} {Q E : Value → Shared → Prop}
    {loose : List Str} {mean : ExcName → Option Value} {mg mb : Str → Option Value} {α0 α1 α2 α3 α4 α5 α6 : Type} {rv : α0 → α1 → α2 → α3 → α4 → α5 → α6 → Value} {lf : α0 → α1 → α2 → α3 → α4 → α5 → α6 → List (Addr × Obj)} (C : Ctr w f vs d u led (fun r l => ∃ x0 x1 x2 x3 x4 x5 x6, r = rv x0 x1 x2 x3 x4 x5 x6 ∧ l = lf x0 x1 x2 x3 x4 x5 x6))
    (B : Below A₀ base outer h₀) (F : Fr h₀ L hp m) (X : (Mine.hd.heap_39 w.params).In h₀) (N : News h₀ L hp led) (T : Top topProg loose mean mg mb h₀) (C1 : CodeHd base 41 37) (C2 : CodeHd base 34 30) (hk : cs.kind = .function) (hd : dp + d < recursionLimit) (hu : un + u < cLine)
    (ret : ∀ x0 x1 x2 x3 x4 x5 x6, ∀ h' tk', Fr h₀ L h' m → News h₀ L h' (lf x0 x1 x2 x3 x4 x5 x6) → Q (rv x0 x1 x2 x3 x4 x5 x6) ⟨h', gn, dr, tk', os⟩) :
    wpAny (model PySem.Challenge.rw_we0027_01.row.prog w) (ktrTop dp un gd cn cs L a ccd cl outer) (call (.ref f) vs) Q E ⟨hp, gn, dr, tk, os⟩ :=
  C.use B F X N T C1 C2 hk hd hu fun r l h' tk' F' N' hO => by
    obtain ⟨x0, x1, x2, x3, x4, x5, x6, e1, e2⟩ := hO
    subst e1
    subst e2
    exact ret x0 x1 x2 x3 x4 x5 x6 h' tk' F' N'
theorem Ctr.u3_2 {w : World} {f : Addr} {vs : List Value} {d u : Nat} {led : List (Addr × Obj)}
    {dp un : Nat} {gd : Option (List Code)} {cn : Str} {cs : Scope} {a : Addr} {ccd : Value} {cl : List (Str × Addr)} {outer : List Env} {A₀ : Around} {base h₀ : Heap} {L : Addr} {m : Str → Option Value} {hp : Heap} {gn : Array GenState} {dr : Drawn} {tk : Tok} {os : OsState} {Q E : Value → Shared → Prop}
    {loose : List Str} {mean : ExcName → Option Value} {mg mb : Str → Option Value} {α0 α1 α2 : Type} {rv : α0 → α1 → α2 → Value} {lf : α0 → α1 → α2 → List (Addr × Obj)} {P0 : α0 → α1 → α2 → Prop} {P1 : α0 → α1 → α2 → Prop} (C : Ctr w f vs d u led (fun r l => ∃ x0 x1 x2, r = rv x0 x1 x2 ∧ P0 x0 x1 x2 ∧ P1 x0 x1 x2 ∧ l = lf x0 x1 x2))
    (B : Below A₀ base outer h₀) (F : Fr h₀ L hp m) (X : (Mine.hd.heap_39 w.params).In h₀) (N : News h₀ L hp led) (T : Top topProg loose mean mg mb h₀) (C1 : CodeHd base 41 37) (C2 : CodeHd base 34 30) (hk : cs.kind = .function) (hd : dp + d < recursionLimit) (hu : un + u < cLine)
    (ret : ∀ x0 x1 x2, P0 x0 x1 x2 → P1 x0 x1 x2 → ∀ h' tk', Fr h₀ L h' m → News h₀ L h' (lf x0 x1 x2) → Q (rv x0 x1 x2) ⟨h', gn, dr, tk', os⟩) :
    wpAny (model PySem.Challenge.rw_we0027_01.row.prog w) (ktrTop dp un gd cn cs L a ccd cl outer) (call (.ref f) vs) Q E ⟨hp, gn, dr, tk, os⟩ :=
  C.use B F X N T C1 C2 hk hd hu fun r l h' tk' F' N' hO => by
    obtain ⟨x0, x1, x2, e1, g0, g1, e2⟩ := hO
    subst e1
    subst e2
    exact ret x0 x1 x2 g0 g1 h' tk' F' N'
theorem Ctr.u5_4 {w : World} {f : Addr} {vs : List Value} {d u : Nat} {led : List (Addr × Obj)}
    {dp un : Nat} {gd : Option (List Code)} {cn : Str} {cs : Scope} {a : Addr} {ccd : Value} {cl : List (Str × Addr)} {outer : List Env} {A₀ : Around} {base h₀ : Heap} {L : Addr} {m : Str → Option Value} {hp : Heap} {gn : Array GenState} {dr : Drawn} {tk : Tok} {os : OsState} {Q E : Value → Shared → Prop}
    {loose : List Str} {mean : ExcName → Option Value} {mg mb : Str → Option Value} {α0 α1 α2 α3 α4 : Type} {rv : α0 → α1 → α2 → α3 → α4 → Value} {lf : α0 → α1 → α2 → α3 → α4 → List (Addr × Obj)} {P0 : α0 → α1 → α2 → α3 → α4 → Prop} {P1 : α0 → α1 → α2 → α3 → α4 → Prop} {P2 : α0 → α1 → α2 → α3 → α4 → Prop} {P3 : α0 → α1 → α2 → α3 → α4 → Prop} (C : Ctr w f vs d u led (fun r l => ∃ x0 x1 x2 x3 x4, r = rv x0 x1 x2 x3 x4 ∧ P0 x0 x1 x2 x3 x4 ∧ P1 x0 x1 x2 x3 x4 ∧ P2 x0 x1 x2 x3 x4 ∧ P3 x0 x1 x2 x3 x4 ∧ l = lf x0 x1 x2 x3 x4))
    (B : Below A₀ base outer h₀) (F : Fr h₀ L hp m) (X : (Mine.hd.heap_39 w.params).In h₀) (N : News h₀ L hp led) (T : Top topProg loose mean mg mb h₀) (C1 : CodeHd base 41 37) (C2 : CodeHd base 34 30) (hk : cs.kind = .function) (hd : dp + d < recursionLimit) (hu : un + u < cLine)
    (ret : ∀ x0 x1 x2 x3 x4, P0 x0 x1 x2 x3 x4 → P1 x0 x1 x2 x3 x4 → P2 x0 x1 x2 x3 x4 → P3 x0 x1 x2 x3 x4 → ∀ h' tk', Fr h₀ L h' m → News h₀ L h' (lf x0 x1 x2 x3 x4) → Q (rv x0 x1 x2 x3 x4) ⟨h', gn, dr, tk', os⟩) :
    wpAny (model PySem.Challenge.rw_we0027_01.row.prog w) (ktrTop dp un gd cn cs L a ccd cl outer) (call (.ref f) vs) Q E ⟨hp, gn, dr, tk, os⟩ :=
  C.use B F X N T C1 C2 hk hd hu fun r l h' tk' F' N' hO => by
    obtain ⟨x0, x1, x2, x3, x4, e1, g0, g1, g2, g3, e2⟩ := hO
    subst e1
    subst e2
    exact ret x0 x1 x2 x3 x4 g0 g1 g2 g3 h' tk' F' N'
theorem Ctr.u3_3 {w : World} {f : Addr} {vs : List Value} {d u : Nat} {led : List (Addr × Obj)}
    {dp un : Nat} {gd : Option (List Code)} {cn : Str} {cs : Scope} {a : Addr} {ccd : Value} {cl : List (Str × Addr)} {outer : List Env} {A₀ : Around} {base h₀ : Heap} {L : Addr} {m : Str → Option Value} {hp : Heap} {gn : Array GenState} {dr : Drawn} {tk : Tok} {os : OsState} {Q E : Value → Shared → Prop}
    {loose : List Str} {mean : ExcName → Option Value} {mg mb : Str → Option Value} {α0 α1 α2 : Type} {rv : α0 → α1 → α2 → Value} {lf : α0 → α1 → α2 → List (Addr × Obj)} {P0 : α0 → α1 → α2 → Prop} {P1 : α0 → α1 → α2 → Prop} {P2 : α0 → α1 → α2 → Prop} (C : Ctr w f vs d u led (fun r l => ∃ x0 x1 x2, r = rv x0 x1 x2 ∧ P0 x0 x1 x2 ∧ P1 x0 x1 x2 ∧ P2 x0 x1 x2 ∧ l = lf x0 x1 x2))
    (B : Below A₀ base outer h₀) (F : Fr h₀ L hp m) (X : (Mine.hd.heap_39 w.params).In h₀) (N : News h₀ L hp led) (T : Top topProg loose mean mg mb h₀) (C1 : CodeHd base 41 37) (C2 : CodeHd base 34 30) (hk : cs.kind = .function) (hd : dp + d < recursionLimit) (hu : un + u < cLine)
    (ret : ∀ x0 x1 x2, P0 x0 x1 x2 → P1 x0 x1 x2 → P2 x0 x1 x2 → ∀ h' tk', Fr h₀ L h' m → News h₀ L h' (lf x0 x1 x2) → Q (rv x0 x1 x2) ⟨h', gn, dr, tk', os⟩) :
    wpAny (model PySem.Challenge.rw_we0027_01.row.prog w) (ktrTop dp un gd cn cs L a ccd cl outer) (call (.ref f) vs) Q E ⟨hp, gn, dr, tk, os⟩ :=
  C.use B F X N T C1 C2 hk hd hu fun r l h' tk' F' N' hO => by
    obtain ⟨x0, x1, x2, e1, g0, g1, g2, e2⟩ := hO
    subst e1
    subst e2
    exact ret x0 x1 x2 g0 g1 g2 h' tk' F' N'
theorem Ctr.u2_2 {w : World} {f : Addr} {vs : List Value} {d u : Nat} {led : List (Addr × Obj)}
    {dp un : Nat} {gd : Option (List Code)} {cn : Str} {cs : Scope} {a : Addr} {ccd : Value} {cl : List (Str × Addr)} {outer : List Env} {A₀ : Around} {base h₀ : Heap} {L : Addr} {m : Str → Option Value} {hp : Heap} {gn : Array GenState} {dr : Drawn} {tk : Tok} {os : OsState} {Q E : Value → Shared → Prop}
    {loose : List Str} {mean : ExcName → Option Value} {mg mb : Str → Option Value} {α0 α1 : Type} {rv : α0 → α1 → Value} {lf : α0 → α1 → List (Addr × Obj)} {P0 : α0 → α1 → Prop} {P1 : α0 → α1 → Prop} (C : Ctr w f vs d u led (fun r l => ∃ x0 x1, r = rv x0 x1 ∧ P0 x0 x1 ∧ P1 x0 x1 ∧ l = lf x0 x1))
    (B : Below A₀ base outer h₀) (F : Fr h₀ L hp m) (X : (Mine.hd.heap_39 w.params).In h₀) (N : News h₀ L hp led) (T : Top topProg loose mean mg mb h₀) (C1 : CodeHd base 41 37) (C2 : CodeHd base 34 30) (hk : cs.kind = .function) (hd : dp + d < recursionLimit) (hu : un + u < cLine)
    (ret : ∀ x0 x1, P0 x0 x1 → P1 x0 x1 → ∀ h' tk', Fr h₀ L h' m → News h₀ L h' (lf x0 x1) → Q (rv x0 x1) ⟨h', gn, dr, tk', os⟩) :
    wpAny (model PySem.Challenge.rw_we0027_01.row.prog w) (ktrTop dp un gd cn cs L a ccd cl outer) (call (.ref f) vs) Q E ⟨hp, gn, dr, tk, os⟩ :=
  C.use B F X N T C1 C2 hk hd hu fun r l h' tk' F' N' hO => by
    obtain ⟨x0, x1, e1, g0, g1, e2⟩ := hO
    subst e1
    subst e2
    exact ret x0 x1 g0 g1 h' tk' F' N'
theorem Ctr.u9_2 {w : World} {f : Addr} {vs : List Value} {d u : Nat} {led : List (Addr × Obj)}
    {dp un : Nat} {gd : Option (List Code)} {cn : Str} {cs : Scope} {a : Addr} {ccd : Value} {cl : List (Str × Addr)} {outer : List Env} {A₀ : Around} {base h₀ : Heap} {L : Addr} {m : Str → Option Value} {hp : Heap} {gn : Array GenState} {dr : Drawn} {tk : Tok} {os : OsState} {Q E : Value → Shared → Prop}
    {loose : List Str} {mean : ExcName → Option Value} {mg mb : Str → Option Value} {α0 α1 α2 α3 α4 α5 α6 α7 α8 : Type} {rv : α0 → α1 → α2 → α3 → α4 → α5 → α6 → α7 → α8 → Value} {lf : α0 → α1 → α2 → α3 → α4 → α5 → α6 → α7 → α8 → List (Addr × Obj)} {P0 : α0 → α1 → α2 → α3 → α4 → α5 → α6 → α7 → α8 → Prop} {P1 : α0 → α1 → α2 → α3 → α4 → α5 → α6 → α7 → α8 → Prop} (C : Ctr w f vs d u led (fun r l => ∃ x0 x1 x2 x3 x4 x5 x6 x7 x8, r = rv x0 x1 x2 x3 x4 x5 x6 x7 x8 ∧ P0 x0 x1 x2 x3 x4 x5 x6 x7 x8 ∧ P1 x0 x1 x2 x3 x4 x5 x6 x7 x8 ∧ l = lf x0 x1 x2 x3 x4 x5 x6 x7 x8))
    (B : Below A₀ base outer h₀) (F : Fr h₀ L hp m) (X : (Mine.hd.heap_39 w.params).In h₀) (N : News h₀ L hp led) (T : Top topProg loose mean mg mb h₀) (C1 : CodeHd base 41 37) (C2 : CodeHd base 34 30) (hk : cs.kind = .function) (hd : dp + d < recursionLimit) (hu : un + u < cLine)
    (ret : ∀ x0 x1 x2 x3 x4 x5 x6 x7 x8, P0 x0 x1 x2 x3 x4 x5 x6 x7 x8 → P1 x0 x1 x2 x3 x4 x5 x6 x7 x8 → ∀ h' tk', Fr h₀ L h' m → News h₀ L h' (lf x0 x1 x2 x3 x4 x5 x6 x7 x8) → Q (rv x0 x1 x2 x3 x4 x5 x6 x7 x8) ⟨h', gn, dr, tk', os⟩) :
    wpAny (model PySem.Challenge.rw_we0027_01.row.prog w) (ktrTop dp un gd cn cs L a ccd cl outer) (call (.ref f) vs) Q E ⟨hp, gn, dr, tk, os⟩ :=
  C.use B F X N T C1 C2 hk hd hu fun r l h' tk' F' N' hO => by
    obtain ⟨x0, x1, x2, x3, x4, x5, x6, x7, x8, e1, g0, g1, e2⟩ := hO
    subst e1
    subst e2
    exact ret x0 x1 x2 x3 x4 x5 x6 x7 x8 g0 g1 h' tk' F' N'
theorem Ctr.w1 {w : World} {f : Addr} {vs : List Value} {d u : Nat} {led : List (Addr × Obj)}
    {dp un : Nat} {gd : Option (List Code)} {cn : Str} {cs : Scope} {a : Addr} {ccd : Value} {cl : List (Str × Addr)} {outer : List Env} {A₀ : Around} {base h₀ : Heap} {L : Addr} {m : Str → Option Value} {hp : Heap} {gn : Array GenState} {dr : Drawn} {tk : Tok} {os : OsState} {Q E : Value → Shared → Prop}
    {loose : List Str} {mean : ExcName → Option Value} {mg mb : Str → Option Value} {α0 : Type} {rv : α0 → Value} {lf : List (Addr × Obj)} (C : Ctr w f vs d u led (fun r l => l = lf ∧ ∃ x0, r = rv x0))
    (B : Below A₀ base outer h₀) (F : Fr h₀ L hp m) (X : (Mine.hd.heap_39 w.params).In h₀) (N : News h₀ L hp led) (T : Top topProg loose mean mg mb h₀) (C1 : CodeHd base 41 37) (C2 : CodeHd base 34 30) (hk : cs.kind = .function) (hd : dp + d < recursionLimit) (hu : un + u < cLine)
    (ret : ∀ x0 h' tk', Fr h₀ L h' m → News h₀ L h' lf → Q (rv x0) ⟨h', gn, dr, tk', os⟩) :
    wpAny (model PySem.Challenge.rw_we0027_01.row.prog w) (ktrTop dp un gd cn cs L a ccd cl outer) (call (.ref f) vs) Q E ⟨hp, gn, dr, tk, os⟩ :=
  C.use B F X N T C1 C2 hk hd hu fun r l h' tk' F' N' hO => by
    obtain ⟨e1, x0, e2⟩ := hO
    subst e1
    subst e2
    exact ret x0 h' tk' F' N'
theorem Ctr.v1_1 {w : World} {f : Addr} {vs : List Value} {d u : Nat} {led : List (Addr × Obj)}
    {dp un : Nat} {gd : Option (List Code)} {cn : Str} {cs : Scope} {a : Addr} {ccd : Value} {cl : List (Str × Addr)} {outer : List Env} {A₀ : Around} {base h₀ : Heap} {L : Addr} {m : Str → Option Value} {hp : Heap} {gn : Array GenState} {dr : Drawn} {tk : Tok} {os : OsState} {Q E : Value → Shared → Prop}
    {loose : List Str} {mean : ExcName → Option Value} {mg mb : Str → Option Value} {α0 : Type} {rv : Value} {lf : α0 → List (Addr × Obj)} {P0 : α0 → Prop} (C : Ctr w f vs d u led (fun r l => r = rv ∧ ∃ x0, P0 x0 ∧ l = lf x0))
    (B : Below A₀ base outer h₀) (F : Fr h₀ L hp m) (X : (Mine.hd.heap_39 w.params).In h₀) (N : News h₀ L hp led) (T : Top topProg loose mean mg mb h₀) (C1 : CodeHd base 41 37) (C2 : CodeHd base 34 30) (hk : cs.kind = .function) (hd : dp + d < recursionLimit) (hu : un + u < cLine)
    (ret : ∀ x0, P0 x0 → ∀ h' tk', Fr h₀ L h' m → News h₀ L h' (lf x0) → Q rv ⟨h', gn, dr, tk', os⟩) :
    wpAny (model PySem.Challenge.rw_we0027_01.row.prog w) (ktrTop dp un gd cn cs L a ccd cl outer) (call (.ref f) vs) Q E ⟨hp, gn, dr, tk, os⟩ :=
  C.use B F X N T C1 C2 hk hd hu fun r l h' tk' F' N' hO => by
    obtain ⟨e1, x0, g0, e2⟩ := hO
    subst e1
    subst e2
    exact ret x0 g0 h' tk' F' N'
theorem Ctr.usep {w : World} {f : Addr} {vs : List Value} {d u : Nat} {led : List (Addr × Obj)}
    {dp un : Nat} {gd : Option (List Code)} {cn : Str} {cs : Scope} {a : Addr} {ccd : Value} {cl : List (Str × Addr)} {outer : List Env} {A₀ : Around} {base h₀ : Heap} {L : Addr} {m : Str → Option Value} {hp : Heap} {gn : Array GenState} {dr : Drawn} {tk : Tok} {os : OsState} {Q E : Value → Shared → Prop}
    {loose : List Str} {mean : ExcName → Option Value} {mg mb : Str → Option Value} {x y : Int} (C : Ctr w f vs d u led (PairOut x y led))
    (B : Below A₀ base outer h₀) (F : Fr h₀ L hp m) (X : (Mine.hd.heap_39 w.params).In h₀) (N : News h₀ L hp led) (T : Top topProg loose mean mg mb h₀) (C1 : CodeHd base 41 37) (C2 : CodeHd base 34 30) (hk : cs.kind = .function) (hd : dp + d < recursionLimit) (hu : un + u < cLine)
    (ret : ∀ D t1 t2, (∀ p ∈ led, p.1 < D) → ∀ h' tk', Fr h₀ L h' m → News h₀ L h' ((D, pairObj (.int x t1) (.int y t2)) :: led) → Q (.ref D) ⟨h', gn, dr, tk', os⟩) :
    wpAny (model PySem.Challenge.rw_we0027_01.row.prog w) (ktrTop dp un gd cn cs L a ccd cl outer) (call (.ref f) vs) Q E ⟨hp, gn, dr, tk, os⟩ :=
  C.use B F X N T C1 C2 hk hd hu fun r l h' tk' F' N' hO => by
    obtain ⟨D, t1, t2, e1, e2, hlt⟩ := hO
    subst e1
    subst e2
    exact ret D t1 t2 hlt h' tk' F' N'
end Mine
-- part BT
namespace Mine
/-- fewer than k bits -/
noncomputable def Bd (k : Nat) (x : Int) : Prop := x.natAbs < 2 ^ k
theorem Bd.bits {k : Nat} {x : Int} (h : Bd k x) : Builtin.Int.intBits x ≤ k := by
  unfold Builtin.Int.intBits
  split
  · exact Nat.zero_le _
  · rename_i hb
    have hb' : x.natAbs ≠ 0 := by
      intro e
      exact hb (by simp; omega)
    exact (Nat.log2_lt hb').mpr h
theorem Bd.of_bits {k : Nat} {x : Int} (h : Builtin.Int.intBits x ≤ k) : Bd k x := by
  unfold Builtin.Int.intBits at h
  unfold Bd
  by_cases hx : x = 0
  · subst hx; exact Nat.two_pow_pos k
  · have e : (x == 0) = false := by simpa using hx
    rw [e] at h
    simp only [Bool.false_eq_true, if_false] at h
    have hb' : x.natAbs ≠ 0 := by (first | lia | omega)
    exact (Nat.log2_lt hb').mp (by (first | lia | omega))
theorem Bd.mono {j k : Nat} {x : Int} (h : Bd j x) (hk : j ≤ k) : Bd k x := Nat.lt_of_lt_of_le h (Nat.pow_le_pow_right (by decide) hk)
theorem Bd.mul {j k : Nat} {x y : Int} (h : Bd j x) (h' : Bd k y) : Bd (j + k) (x * y) := by
  unfold Bd at *
  rw [Int.natAbs_mul, Nat.pow_add]
  exact Nat.mul_lt_mul'' h h'
theorem Bd.add {k : Nat} {x y : Int} (h : Bd k x) (h' : Bd k y) : Bd (k + 1) (x + y) := by
  unfold Bd at *
  rw [Nat.pow_succ]
  have := Int.natAbs_add_le x y
  (first | lia | omega)
theorem Bd.neg {k : Nat} {x : Int} (h : Bd k x) : Bd k (-x) := by
  unfold Bd at *
  rwa [Int.natAbs_neg]
theorem Bd.sub {k : Nat} {x y : Int} (h : Bd k x) (h' : Bd k y) : Bd (k + 1) (x - y) := by
  rw [Int.sub_eq_add_neg]
  exact h.add h'.neg
theorem Bd.inv {k : Nat} {x : Int} (h : Bd k x) : Bd (k + 1) (-1 - x) := by
  unfold Bd at *
  have : 1 ≤ 2 ^ k := Nat.one_le_two_pow
  rw [Nat.pow_succ]
  omega
theorem Bd.pow (n : Nat) : Bd (n + 1) (2 ^ n) := by
  unfold Bd
  rw [Int.natAbs_pow]
  exact Nat.pow_lt_pow_right (by decide) (Nat.lt_succ_self n)
theorem Bd.lt {k : Nat} {x : Int} (h0 : 0 ≤ x) (h : x < 2 ^ k) : Bd k x := by
  unfold Bd
  have e : ((2 : Int) ^ k) = ((2 ^ k : Nat) : Int) := by simp
  rw [e] at h
  (first | lia | omega)
theorem Bd.to {k : Nat} {x : Int} (h : Bd k x) : x < 2 ^ k ∧ -(2 ^ k) < x := by
  unfold Bd at h
  have e : ((2 : Int) ^ k) = ((2 ^ k : Nat) : Int) := by simp
  rw [e]
  omega
theorem mulOk {j k : Nat} {x y : Int} (h : Bd j x) (h' : Bd k y) (hk : j + k ≤ 134217728) : IntMulOk x y := by
  have := h.bits
  have := h'.bits
  unfold IntMulOk Builtin.Int.intTooBig
  have e : ¬ ((Builtin.Int.intBits x : Int) + (Builtin.Int.intBits y : Int) > bitsLine) := by
    unfold bitsLine
    (first | lia | omega)
  simp only [Bool.and_eq_true, decide_eq_true_eq]
  exact fun q => e q.2
theorem shlOk {j : Nat} {x n : Int} (h : Bd j x) (hn : n ≤ 100000000) (hj : j ≤ 1000000) : (Builtin.Int.intBits x : Int) + n ≤ 2 ^ 27 := by
  have := h.bits
  (first | lia | omega)
theorem pow_pos' (k : Nat) : (0 : Int) < 2 ^ k := Int.pow_pos (by decide)
theorem and_shift (u : Int) : ∀ (k : Nat) (v : Int), 0 ≤ v → v < 2 ^ k → Builtin.bitAnd (u * 2 ^ k) v = 0 := by
  intro k
  induction k with
  | zero =>
    intro v h0 h1
    have : v = 0 := by simp at h1; (first | lia | omega)
    subst this
    rw [bitAnd_zero]
  | succ k ih =>
    intro v h0 h1
    have e : u * 2 ^ (k + 1) = 2 * (u * 2 ^ k) := by rw [Int.pow_succ]; grind
    have h1' : v < 2 * 2 ^ k := by rw [Int.pow_succ] at h1; (first | lia | omega)
    rw [kbt_halves, e, show 2 * (u * 2 ^ k) / 2 = u * 2 ^ k by (first | lia | omega), ih (v / 2) (by (first | lia | omega)) (by (first | lia | omega)), if_neg (by (first | lia | omega))]
    rfl
theorem or_shift {u v : Int} {k : Nat} (h0 : 0 ≤ v) (h1 : v < 2 ^ k) : Builtin.bitOr (u * 2 ^ k) v = u * 2 ^ k + v := by
  rw [bitOr_and, and_shift u k v h0 h1]; (first | lia | omega)
theorem and_high (u : Int) : ∀ (k : Nat) (v : Int), 0 ≤ v → v < 2 ^ k → Builtin.bitAnd (u * 2 ^ k + v) (u * 2 ^ k) = u * 2 ^ k := by
  intro k
  induction k with
  | zero =>
    intro v h0 h1
    have : v = 0 := by simp at h1; (first | lia | omega)
    subst this
    rw [Int.add_zero, bitAnd_self]
  | succ k ih =>
    intro v h0 h1
    have e : u * 2 ^ (k + 1) = 2 * (u * 2 ^ k) := by rw [Int.pow_succ]; grind
    have h1' : v < 2 * 2 ^ k := by rw [Int.pow_succ] at h1; (first | lia | omega)
    rw [kbt_halves, e, show 2 * (u * 2 ^ k) / 2 = u * 2 ^ k by (first | lia | omega), show (2 * (u * 2 ^ k) + v) / 2 = u * 2 ^ k + v / 2 by (first | lia | omega), ih (v / 2) (by (first | lia | omega)) (by (first | lia | omega)), if_neg (by (first | lia | omega))]
    (first | lia | omega)
theorem xor_shift (x : Int) (k : Nat) : Builtin.bitXor x (x.fdiv (2 ^ k) * 2 ^ k) = x.fmod (2 ^ k) := by
  have hp := pow_pos' k
  have e := Int.mul_fdiv_add_fmod x (2 ^ k)
  have h0 := Int.fmod_nonneg_of_pos x hp
  have h1 := Int.fmod_lt_of_pos x hp
  have e2 : x.fdiv (2 ^ k) * 2 ^ k + x.fmod (2 ^ k) = x := by rw [Int.mul_comm]; exact e
  have := and_high (x.fdiv (2 ^ k)) k (x.fmod (2 ^ k)) h0 h1
  rw [e2] at this
  rw [bitXor_and, this]
  omega
theorem mask_mod (x : Int) (k : Nat) : Builtin.bitAnd x (1 * 2 ^ k - 1) = x.fmod (2 ^ k) := by rw [Int.one_mul]; exact kbt_maskF x k
/-- a floor division told by its two facts -/
theorem fdm {x b q r : Int} (h : q * b + r = x) (h0 : 0 ≤ r) (h1 : r < b) : x.fdiv b = q ∧ x.fmod b = r := by
  have hb : b ≠ 0 := by (first | lia | omega)
  subst h
  rw [Int.add_comm, Int.add_mul_fdiv_right _ _ hb, Int.add_mul_fmod_self_right, Int.fmod_eq_of_lt h0 h1]
  refine ⟨?_, rfl⟩
  have := Int.mul_fdiv_add_fmod r b
  rw [Int.fmod_eq_of_lt h0 h1] at this
  have h2 : b * r.fdiv b = b * 0 := by (first | lia | omega)
  rw [Int.eq_of_mul_eq_mul_left hb h2]
  (first | lia | omega)
end Mine
-- part F21
namespace Mine
theorem fdiv_pow (x : Int) (j k : Nat) : (x.fdiv (2 ^ j)).fdiv (2 ^ k) = x.fdiv (2 ^ (j + k)) := by
  have p1 := pow_pos' j
  have p2 := pow_pos' k
  have p3 := pow_pos' (j + k)
  rw [Int.fdiv_eq_ediv_of_nonneg _ (by (first | lia | omega)), Int.fdiv_eq_ediv_of_nonneg _ (by (first | lia | omega)), Int.fdiv_eq_ediv_of_nonneg _ (by (first | lia | omega)), Int.ediv_ediv_of_nonneg (by (first | lia | omega)), Int.pow_add]
structure F21 (A B N : Int) : Prop where
  h0 : 0 ≤ N.fdiv (2 ^ Int.toNat 1)
  h1 : N.fdiv (2 ^ Int.toNat 1) ≤ 4000
  a1 : 0 ≤ A.fdiv (2 ^ N.toNat)
  a2 : 0 ≤ Builtin.bitAnd (A.fdiv (2 ^ (N.fdiv (2 ^ Int.toNat 1)).toNat)) (1 * 2 ^ (N.fdiv (2 ^ Int.toNat 1)).toNat - 1)
  a3 : Builtin.bitAnd (A.fdiv (2 ^ (N.fdiv (2 ^ Int.toNat 1)).toNat)) (1 * 2 ^ (N.fdiv (2 ^ Int.toNat 1)).toNat - 1) < 2 ^ (N.fdiv (2 ^ Int.toNat 1)).toNat
  b1 : B = B.fdiv (2 ^ (N.fdiv (2 ^ Int.toNat 1)).toNat) * 2 ^ (N.fdiv (2 ^ Int.toNat 1)).toNat + Builtin.bitAnd B (1 * 2 ^ (N.fdiv (2 ^ Int.toNat 1)).toNat - 1)
  b2 : 0 < B.fdiv (2 ^ (N.fdiv (2 ^ Int.toNat 1)).toNat)
  b3 : B.fdiv (2 ^ (N.fdiv (2 ^ Int.toNat 1)).toNat) < 2 ^ (N.fdiv (2 ^ Int.toNat 1)).toNat
  b4 : 0 ≤ Builtin.bitAnd B (1 * 2 ^ (N.fdiv (2 ^ Int.toNat 1)).toNat - 1)
  b5 : Builtin.bitAnd B (1 * 2 ^ (N.fdiv (2 ^ Int.toNat 1)).toNat - 1) < 2 ^ (N.fdiv (2 ^ Int.toNat 1)).toNat
  c1 : A.fdiv (2 ^ N.toNat) * 2 ^ (N.fdiv (2 ^ Int.toNat 1)).toNat + Builtin.bitAnd (A.fdiv (2 ^ (N.fdiv (2 ^ Int.toNat 1)).toNat)) (1 * 2 ^ (N.fdiv (2 ^ Int.toNat 1)).toNat - 1) < 2 ^ (N.fdiv (2 ^ Int.toNat 1)).toNat * B
  d1 : 0 ≤ (A.fdiv (2 ^ N.toNat) * 2 ^ (N.fdiv (2 ^ Int.toNat 1)).toNat + Builtin.bitAnd (A.fdiv (2 ^ (N.fdiv (2 ^ Int.toNat 1)).toNat)) (1 * 2 ^ (N.fdiv (2 ^ Int.toNat 1)).toNat - 1)).fmod B
  d2 : 0 ≤ Builtin.bitAnd A (1 * 2 ^ (N.fdiv (2 ^ Int.toNat 1)).toNat - 1)
  d3 : Builtin.bitAnd A (1 * 2 ^ (N.fdiv (2 ^ Int.toNat 1)).toNat - 1) < 2 ^ (N.fdiv (2 ^ Int.toNat 1)).toNat
  d4 : (A.fdiv (2 ^ N.toNat) * 2 ^ (N.fdiv (2 ^ Int.toNat 1)).toNat + Builtin.bitAnd (A.fdiv (2 ^ (N.fdiv (2 ^ Int.toNat 1)).toNat)) (1 * 2 ^ (N.fdiv (2 ^ Int.toNat 1)).toNat - 1)).fmod B * 2 ^ (N.fdiv (2 ^ Int.toNat 1)).toNat + Builtin.bitAnd A (1 * 2 ^ (N.fdiv (2 ^ Int.toNat 1)).toNat - 1) < 2 ^ (N.fdiv (2 ^ Int.toNat 1)).toNat * B
  k1 : Bd 9000 ((A.fdiv (2 ^ N.toNat) * 2 ^ (N.fdiv (2 ^ Int.toNat 1)).toNat + Builtin.bitAnd (A.fdiv (2 ^ (N.fdiv (2 ^ Int.toNat 1)).toNat)) (1 * 2 ^ (N.fdiv (2 ^ Int.toNat 1)).toNat - 1)).fdiv B)
  e1 : Builtin.bitOr ((A.fdiv (2 ^ N.toNat) * 2 ^ (N.fdiv (2 ^ Int.toNat 1)).toNat + Builtin.bitAnd (A.fdiv (2 ^ (N.fdiv (2 ^ Int.toNat 1)).toNat)) (1 * 2 ^ (N.fdiv (2 ^ Int.toNat 1)).toNat - 1)).fdiv B * 2 ^ (N.fdiv (2 ^ Int.toNat 1)).toNat)
    (((A.fdiv (2 ^ N.toNat) * 2 ^ (N.fdiv (2 ^ Int.toNat 1)).toNat + Builtin.bitAnd (A.fdiv (2 ^ (N.fdiv (2 ^ Int.toNat 1)).toNat)) (1 * 2 ^ (N.fdiv (2 ^ Int.toNat 1)).toNat - 1)).fmod B * 2 ^ (N.fdiv (2 ^ Int.toNat 1)).toNat + Builtin.bitAnd A (1 * 2 ^ (N.fdiv (2 ^ Int.toNat 1)).toNat - 1)).fdiv B) = A.fdiv B
  e2 : ((A.fdiv (2 ^ N.toNat) * 2 ^ (N.fdiv (2 ^ Int.toNat 1)).toNat + Builtin.bitAnd (A.fdiv (2 ^ (N.fdiv (2 ^ Int.toNat 1)).toNat)) (1 * 2 ^ (N.fdiv (2 ^ Int.toNat 1)).toNat - 1)).fmod B * 2 ^ (N.fdiv (2 ^ Int.toNat 1)).toNat + Builtin.bitAnd A (1 * 2 ^ (N.fdiv (2 ^ Int.toNat 1)).toNat - 1)).fmod B = A.fmod B
theorem F21.of {A B N : Int} {k : Nat} (hN : N = 2 * ((k + 1 : Nat) : Int)) (hk : k < 4000) (hA : 0 ≤ A) (hB1 : 2 ^ (2 * k + 1) ≤ B) (hB2 : B < 2 ^ (2 * k + 2)) (hlt : A < 2 ^ (2 * k + 2) * B) : F21 A B N := by
  have eH : N.fdiv (2 ^ Int.toNat 1) = ((k + 1 : Nat) : Int) := by
    rw [hN]
    show (2 * ((k + 1 : Nat) : Int)).fdiv (2 ^ 1) = _
    rw [Int.fdiv_eq_ediv_of_nonneg _ (by decide)]
    omega
  have eN : N.toNat = (k + 1) + (k + 1) := by omega
  have eP : ∀ x, Builtin.bitAnd x (1 * 2 ^ (k + 1) - 1) = x.fmod (2 ^ (k + 1)) := fun x => mask_mod x _
  have hpp : (2 : Int) ^ (2 * k + 2) = 2 ^ (k + 1) * 2 ^ (k + 1) := by rw [← Int.pow_add]; congr 1; omega
  have hp0 := pow_pos' (k + 1)
  have hpk := pow_pos' k
  have hpk2 : (2 : Int) ^ (2 * k + 1) = 2 ^ k * 2 ^ (k + 1) := by rw [← Int.pow_add]; congr 1; omega
  have hB0 : 0 < B := Int.lt_of_lt_of_le (pow_pos' _) hB1
  have eA : A.fdiv (2 ^ ((k + 1) + (k + 1))) * 2 ^ (k + 1) + (A.fdiv (2 ^ (k + 1))).fmod (2 ^ (k + 1)) = A.fdiv (2 ^ (k + 1)) := by
    rw [← fdiv_pow, Int.mul_comm]
    exact Int.mul_fdiv_add_fmod _ _
  have eB : B = B.fdiv (2 ^ (k + 1)) * 2 ^ (k + 1) + B.fmod (2 ^ (k + 1)) := by
    rw [Int.mul_comm]
    exact (Int.mul_fdiv_add_fmod _ _).symm
  have eA2 : A = A.fdiv (2 ^ (k + 1)) * 2 ^ (k + 1) + A.fmod (2 ^ (k + 1)) := by
    rw [Int.mul_comm]
    exact (Int.mul_fdiv_add_fmod _ _).symm
  have m0 : ∀ x : Int, 0 ≤ x.fmod (2 ^ (k + 1)) := fun x => Int.fmod_nonneg_of_pos x hp0
  have m1 : ∀ x : Int, x.fmod (2 ^ (k + 1)) < 2 ^ (k + 1) := fun x => Int.fmod_lt_of_pos x hp0
  have nn : ∀ {x : Int} (j : Nat), 0 ≤ x → 0 ≤ x.fdiv (2 ^ j) := fun {x} j h => by
    rw [Int.fdiv_eq_ediv_of_nonneg _ (Int.le_of_lt (pow_pos' j))]
    exact Int.ediv_nonneg h (Int.le_of_lt (pow_pos' j))
  rw [hpp] at hB2 hlt
  rw [hpk2] at hB1
  have b2 : 0 < B.fdiv (2 ^ (k + 1)) := by
    have := m1 B
    have h : 0 < B.fdiv (2 ^ (k + 1)) * 2 ^ (k + 1) := by
      have h1k : (1 : Int) ≤ 2 ^ k := by omega
      have := Int.mul_le_mul_of_nonneg_right (c := 2 ^ (k + 1)) h1k (by omega)
      omega
    exact Int.pos_of_mul_pos_left h hp0
  have b3 : B.fdiv (2 ^ (k + 1)) < 2 ^ (k + 1) := by
    have := m0 B
    exact Int.lt_of_mul_lt_mul_right (a := 2 ^ (k + 1)) (by omega) (by omega)
  have c1 : A.fdiv (2 ^ (k + 1)) < 2 ^ (k + 1) * B := by
    have := m0 A
    have h : A.fdiv (2 ^ (k + 1)) * 2 ^ (k + 1) < (2 ^ (k + 1) * B) * 2 ^ (k + 1) := by
      have : (2 ^ (k + 1) * B) * 2 ^ (k + 1) = 2 ^ (k + 1) * 2 ^ (k + 1) * B := by grind
      omega
    exact Int.lt_of_mul_lt_mul_right h (by omega)
  have d0 : 0 ≤ (A.fdiv (2 ^ (k + 1))).fmod B := Int.fmod_nonneg_of_pos _ hB0
  have d1 : (A.fdiv (2 ^ (k + 1))).fmod B < B := Int.fmod_lt_of_pos _ hB0
  have d4 : (A.fdiv (2 ^ (k + 1))).fmod B * 2 ^ (k + 1) + A.fmod (2 ^ (k + 1)) < 2 ^ (k + 1) * B := by
    have := m1 A
    have h : ((A.fdiv (2 ^ (k + 1))).fmod B + 1) * 2 ^ (k + 1) ≤ B * 2 ^ (k + 1) := Int.mul_le_mul_of_nonneg_right (by omega) (by omega)
    have h2 : ((A.fdiv (2 ^ (k + 1))).fmod B + 1) * 2 ^ (k + 1) = (A.fdiv (2 ^ (k + 1))).fmod B * 2 ^ (k + 1) + 2 ^ (k + 1) := by grind
    have h3 := Int.mul_comm B (2 ^ (k + 1))
    omega
  have q0 := nn (k + 1) hA
  have eq1 := Int.mul_fdiv_add_fmod (A.fdiv (2 ^ (k + 1))) B
  have eq2 := Int.mul_fdiv_add_fmod ((A.fdiv (2 ^ (k + 1))).fmod B * 2 ^ (k + 1) + A.fmod (2 ^ (k + 1))) B
  have r0 := Int.fmod_nonneg_of_pos ((A.fdiv (2 ^ (k + 1))).fmod B * 2 ^ (k + 1) + A.fmod (2 ^ (k + 1))) hB0
  have r1 := Int.fmod_lt_of_pos ((A.fdiv (2 ^ (k + 1))).fmod B * 2 ^ (k + 1) + A.fmod (2 ^ (k + 1))) hB0
  have z0 : 0 ≤ (A.fdiv (2 ^ (k + 1))).fdiv B := by rw [Int.fdiv_eq_ediv_of_nonneg _ (by omega)]; exact Int.ediv_nonneg q0 (by omega)
  have z1 : 0 ≤ ((A.fdiv (2 ^ (k + 1))).fmod B * 2 ^ (k + 1) + A.fmod (2 ^ (k + 1))).fdiv B := by
    rw [Int.fdiv_eq_ediv_of_nonneg _ (by omega)]
    exact Int.ediv_nonneg (Int.add_nonneg (Int.mul_nonneg d0 (by omega)) (m0 A)) (by omega)
  have z2 : ((A.fdiv (2 ^ (k + 1))).fmod B * 2 ^ (k + 1) + A.fmod (2 ^ (k + 1))).fdiv B < 2 ^ (k + 1) := by
    have h3 := Int.mul_comm B (2 ^ (k + 1))
    exact Int.lt_of_mul_lt_mul_left (a := B) (by omega) (by omega)
  have z3 : (A.fdiv (2 ^ (k + 1))).fdiv B < 2 ^ (k + 1) := by
    have h3 := Int.mul_comm B (2 ^ (k + 1))
    exact Int.lt_of_mul_lt_mul_left (a := B) (by omega) (by omega)
  have fin := fdm (x := A) (b := B) (q := (A.fdiv (2 ^ (k + 1))).fdiv B * 2 ^ (k + 1) + ((A.fdiv (2 ^ (k + 1))).fmod B * 2 ^ (k + 1) + A.fmod (2 ^ (k + 1))).fdiv B)
    (r := ((A.fdiv (2 ^ (k + 1))).fmod B * 2 ^ (k + 1) + A.fmod (2 ^ (k + 1))).fmod B) (by grind) r0 r1
  refine ⟨?_, ?_, ?_, ?_, ?_, ?_, ?_, ?_, ?_, ?_, ?_, ?_, ?_, ?_, ?_, ?_, ?_, ?_⟩
  all_goals simp only [eH, eN, eP, Int.toNat_natCast, eA]
  · omega
  · omega
  · exact nn _ hA
  · exact m0 _
  · exact m1 _
  · exact eB
  · exact b2
  · exact b3
  · exact m0 _
  · exact m1 _
  · exact c1
  · exact d0
  · exact m0 _
  · exact m1 _
  · exact d4
  · exact (Bd.lt z0 z3).mono (by omega)
  · rw [or_shift z1 z2]; exact fin.1.symm
  · exact fin.2.symm
end Mine
namespace Mine
theorem two_fdiv (a b : Int) (hb : 0 < b) : (a * 2 ^ Int.toNat 1).fdiv (b * 2 ^ Int.toNat 1) = a.fdiv b := by
  show (a * 2).fdiv (b * 2) = _
  have e := Int.mul_fdiv_add_fmod a b
  have := fdm (x := a * 2) (b := b * 2) (q := a.fdiv b) (r := a.fmod b * 2) (by grind) (by have := Int.fmod_nonneg_of_pos a hb; omega) (by have := Int.fmod_lt_of_pos a hb; omega)
  exact this.1
theorem two_fmod (a b : Int) (hb : 0 < b) : ((a * 2 ^ Int.toNat 1).fmod (b * 2 ^ Int.toNat 1)).fdiv (2 ^ Int.toNat 1) = a.fmod b := by
  show ((a * 2).fmod (b * 2)).fdiv 2 = _
  have e := Int.mul_fdiv_add_fmod a b
  have := fdm (x := a * 2) (b := b * 2) (q := a.fdiv b) (r := a.fmod b * 2) (by grind) (by have := Int.fmod_nonneg_of_pos a hb; omega) (by have := Int.fmod_lt_of_pos a hb; omega)
  rw [this.2, Int.fdiv_eq_ediv_of_nonneg _ (by decide)]
  omega
end Mine
-- part NS
namespace Mine
open PySem.Calls PySem.Spec
/-- a def's table of the defs within: still empty, or with the one code that it has made -/
inductive TabSt (P : Addr) (line col : Int) (qual : Str) : List (Addr × Obj) → Prop
  | new : TabSt P line col qual [(P, tabObj #[])]
  | old {c : Addr} {oc : Obj} {vs : Array Value} {t : Tok} : oc.data = .fields vs → vs[1]? = some (.str qual t) → TabSt P line col qual [(P, tabObj #[rawInt line, rawInt col, .ref c]), (c, oc)]
/-- no address of the one stands in the other -/
noncomputable abbrev Apart (tl rest : List (Addr × Obj)) : Prop := ∀ q ∈ tl, ∀ p ∈ rest, p.1 ≠ q.1
noncomputable def AllNe (d : Nat) : List (Addr × Obj) → Prop
  | [] => True
  | p :: r => @Ne Nat d p.1 ∧ AllNe d r
theorem allNe_of {d : Nat} : ∀ {l : List (Addr × Obj)}, (∀ p ∈ l, d ≠ p.1) → AllNe d l
  | [], _ => trivial
  | _ :: _, h => ⟨h _ (.head _), allNe_of fun q hq => h q (.tail _ hq)⟩
noncomputable def AllGt (d : Nat) : List (Addr × Obj) → Prop
  | [] => True
  | p :: r => @LT.lt Nat _ d p.1 ∧ AllGt d r
theorem allGt_to {d : Nat} : ∀ {l : List (Addr × Obj)}, AllGt d l → ∀ p ∈ l, p.1 > d
  | [], _, _, hp => nomatch hp
  | _ :: _, h, p, hp => by
    rcases List.mem_cons.mp hp with rfl | hp
    · exact h.1
    · exact allGt_to h.2 p hp
section
variable {M : Model} {A : Around} {E : Value → Shared → Prop} {s : Shared} {name qual : Str} {params : Arguments} {body : List Stmt} {scope : Scope} {c P L a : Addr} {pos : Pos} {firstLine : Nat} {mg mb : Str → Option Value}
  {clos : List (Str × Addr)} {Q : Value → Shared → Prop} {h₀ : Heap} {m : Str → Option Value} {news : List (Addr × Obj)} {p : Program} {loose : List Str} {mean : ExcName → Option Value} {cn : Str} {cs : Scope} {ccd : Value} {cl : List (Str × Addr)}
theorem my_nest {tl own1 rest : List (Addr × Obj)} {q : Str} {line col : Int} (F : Fr h₀ L s.heap m) (N : News h₀ L s.heap (own1 ++ (tl ++ rest))) (T : Top p loose mean mg mb h₀) (C : CodeHd h₀ c P) (hcd : ccd = .ref c)
    (hst : TabSt P line col q tl) (hq : q = qual) (hl : line = pos.line) (hc : col = pos.col) (htl : AllLt L tl) (hne : ∀ p ∈ own1, p.1 ≠ P) (hap : Apart tl rest) (hlo' : AllGt L own1)
    (hhit : ∀ c' : Addr, codeAmong pos [rawInt pos.line, rawInt pos.col, .ref c'] = some (.ref c')) (htr : ∀ c' : Addr, TriplesOk [rawInt pos.line, rawInt pos.col, .ref c'])
    (hcl : closureFor scope (envX cn cs L a ccd cl) = pure clos)
    (h : ∀ f c' oc vs t ctv doc h' tk, Fr h₀ L h' m →
      News h₀ L h' ((f, fnMade name qual params body scope clos doc ((mg "__name__").getD .none) c' ctv) :: (c', oc) :: (P, tabObj #[rawInt pos.line, rawInt pos.col, .ref c']) :: (own1 ++ rest)) →
      oc.data = .fields vs → vs[1]? = some (.str qual t) → AllLt f own1 → AllNe c' own1 → @LT.lt Nat _ c' f → @Ne Nat c' L → Apart [(P, tabObj #[rawInt pos.line, rawInt pos.col, .ref c']), (c', oc)] rest → Q (.ref f) { s with heap := h', toks := tk }) :
    wpAny M A (makeFunction name qual params (.stmts body) scope (envX cn cs L a ccd cl) [] [] [] pos firstLine) Q E s := by
  subst hq hl hc
  have hlo := allGt_to hlo'
  cases hst with
  | new =>
    refine nest_K (news := (P, tabObj #[]) :: (own1 ++ rest)) (ps := #[]) F (fun p hp => N p ?_) T C hcd (UpdF.head fun p hp => ?_) True.intro rfl hcl ?_
    · rcases List.mem_cons.mp hp with rfl | hp
      · exact List.mem_append_right _ (.head _)
      · rcases List.mem_append.mp hp with hp | hp
        · exact List.mem_append_left _ hp
        · exact List.mem_append_right _ (.tail _ hp)
    · rcases List.mem_append.mp hp with hp | hp
      · exact hne p hp
      · exact hap _ (.head _) p hp
    · intro f c' oc vs t ctv doc h' tk F' N' d1 d2 l1 l2
      have hL := F.ns.lt
      refine h f c' oc vs t ctv doc h' tk F' N' d1 d2 (allLt_of fun p hp => Nat.lt_trans (l1 p (.tail _ (List.mem_append_left _ hp))) l2) (allNe_of fun p hp => Nat.ne_of_gt (l1 p (.tail _ (List.mem_append_left _ hp)))) l2 ?_ ?_
      · have := (N' (c', oc) (.tail _ (.head _))).2.1
        exact this
      · intro q hq p hp
        rcases List.mem_cons.mp hq with rfl | hq
        · exact hap _ (.head _) p hp
        · rw [List.mem_singleton.mp hq]
          exact Nat.ne_of_lt (l1 p (.tail _ (List.mem_append_right _ hp)))
  | old d1 d2 =>
    rename_i c' oc vs t
    refine nestHit_K (news := (c', oc) :: (P, tabObj #[rawInt pos.line, rawInt pos.col, .ref c']) :: (own1 ++ rest)) (ps := #[rawInt pos.line, rawInt pos.col, .ref c']) F (fun p hp => N p ?_) T C hcd (.tail _ (.head _)) (htr c') (hhit c') hcl ?_
    · rcases List.mem_cons.mp hp with rfl | hp
      · exact List.mem_append_right _ (.tail _ (.head _))
      · rcases List.mem_cons.mp hp with rfl | hp
        · exact List.mem_append_right _ (.head _)
        · rcases List.mem_append.mp hp with hp | hp
          · exact List.mem_append_left _ hp
          · exact List.mem_append_right _ (.tail _ (.tail _ hp))
    · intro f ctv doc h' tk F' N' l1
      have hc' : c' < L := (htl.2).1
      refine h f c' oc vs t ctv doc h' tk F' N' d1 d2 (allLt_of fun p hp => l1 p (.tail _ (.tail _ (List.mem_append_left _ hp)))) (allNe_of fun p hp => Nat.ne_of_lt (Nat.lt_trans hc' (hlo p hp))) (l1 _ (.head _)) (Nat.ne_of_lt hc') hap
end
theorem allLt_app {d : Nat} : ∀ {l l' : List (Addr × Obj)}, AllLt d (l ++ l') ↔ AllLt d l ∧ AllLt d l'
  | [], _ => by simp [AllLt]
  | p :: r, l' => by
    show (@LT.lt Nat _ p.1 d ∧ AllLt d (r ++ l')) ↔ (@LT.lt Nat _ p.1 d ∧ AllLt d r) ∧ AllLt d l'
    rw [allLt_app, and_assoc]
end Mine
-- part DG
namespace Mine
noncomputable def digs (n : Nat) : Nat → Int → List Int
  | 0, _ => []
  | k + 1, x => x.fmod (2 ^ n) :: digs n k (x.fdiv (2 ^ n))
theorem digs_len (n : Nat) : ∀ (k : Nat) (x : Int), (digs n k x).length = k
  | 0, _ => rfl
  | k + 1, x => by rw [digs, List.length_cons, digs_len n k]
theorem digs_one {n : Nat} {x : Int} (h0 : 0 ≤ x) (h1 : x < 2 ^ n) : digs n 1 x = [x] := by
  rw [digs, digs, Int.fmod_eq_of_lt h0 h1]
theorem digs_bd (n : Nat) : ∀ (k : Nat) (x : Int), ∀ d ∈ digs n k x, 0 ≤ d ∧ d < 2 ^ n
  | 0, _, _, h => nomatch h
  | k + 1, x, d, h => by
    rw [digs] at h
    rcases List.mem_cons.mp h with rfl | h
    · exact ⟨Int.fmod_nonneg_of_pos _ (pow_pos' n), Int.fmod_lt_of_pos _ (pow_pos' n)⟩
    · exact digs_bd n k _ d h
theorem fmod_two (x P Q : Int) (hP : 0 < P) (hQ : 0 < Q) : (x.fmod (P * Q)).fmod P = x.fmod P ∧ (x.fmod (P * Q)).fdiv P = (x.fdiv P).fmod Q ∧ x.fdiv (P * Q) = (x.fdiv P).fdiv Q := by
  have e1 := Int.mul_fdiv_add_fmod x P
  have e2 := Int.mul_fdiv_add_fmod (x.fdiv P) Q
  have a0 := Int.fmod_nonneg_of_pos x hP
  have a1 := Int.fmod_lt_of_pos x hP
  have b0 := Int.fmod_nonneg_of_pos (x.fdiv P) hQ
  have b1 := Int.fmod_lt_of_pos (x.fdiv P) hQ
  have h3 : ((x.fdiv P).fmod Q + 1) * P ≤ Q * P := Int.mul_le_mul_of_nonneg_right (by omega) (by omega)
  have h4 : ((x.fdiv P).fmod Q + 1) * P = (x.fdiv P).fmod Q * P + P := by grind
  have h5 : Q * P = P * Q := Int.mul_comm ..
  have k1 := fdm (x := x) (b := P * Q) (q := (x.fdiv P).fdiv Q) (r := (x.fdiv P).fmod Q * P + x.fmod P) (by grind) (Int.add_nonneg (Int.mul_nonneg b0 (by omega)) a0) (by omega)
  have k2 := fdm (x := (x.fdiv P).fmod Q * P + x.fmod P) (b := P) rfl a0 a1
  rw [k1.2, k1.1, k2.1, k2.2]
  exact ⟨rfl, rfl, rfl⟩
theorem digs_app (n : Nat) : ∀ (j k : Nat) (x : Int), digs n (j + k) x = digs n j (x.fmod (2 ^ (n * j))) ++ digs n k (x.fdiv (2 ^ (n * j)))
  | 0, k, x => by
    rw [Nat.zero_add, Nat.mul_zero, digs, List.nil_append, Int.pow_zero]
    congr 1
    have := Int.mul_fdiv_add_fmod x 1
    have h := Int.fmod_lt_of_pos x (b := 1) (by decide)
    have h0 := Int.fmod_nonneg_of_pos x (b := 1) (by decide)
    (first | lia | omega)
  | j + 1, k, x => by
    have e : (2 : Int) ^ (n * (j + 1)) = 2 ^ n * 2 ^ (n * j) := by rw [← Int.pow_add]; congr 1; rw [Nat.mul_succ, Nat.add_comm]
    obtain ⟨h1, h2, h3⟩ := fmod_two x (2 ^ n) (2 ^ (n * j)) (pow_pos' _) (pow_pos' _)
    rw [show j + 1 + k = (j + k) + 1 by (first | lia | omega), digs, digs, e, h1, h2, h3, digs_app n j k, List.cons_append]
noncomputable def undig (n : Nat) : List Int → Int
  | [] => 0
  | d :: r => d + 2 ^ n * undig n r
theorem undig_app (n : Nat) : ∀ (a b : List Int), undig n (a ++ b) = undig n a + 2 ^ (n * a.length) * undig n b
  | [], b => by simp [undig]
  | d :: r, b => by
    have e : (2 : Int) ^ (n * (r.length + 1)) = 2 ^ n * 2 ^ (n * r.length) := by rw [← Int.pow_add]; congr 1; rw [Nat.mul_succ, Nat.add_comm]
    rw [List.cons_append, undig, undig, undig_app n r b, List.length_cons, e]
    grind
theorem undig_bd (n : Nat) : ∀ {l : List Int}, (∀ d ∈ l, 0 ≤ d ∧ d < 2 ^ n) → 0 ≤ undig n l ∧ undig n l < 2 ^ (n * l.length)
  | [], _ => by simp [undig]
  | d :: r, h => by
    have ⟨i0, i1⟩ := undig_bd n (l := r) fun x hx => h x (.tail _ hx)
    have ⟨d0, d1⟩ := h d (.head _)
    have hp := pow_pos' n
    have e : (2 : Int) ^ (n * (r.length + 1)) = 2 ^ n * 2 ^ (n * r.length) := by rw [← Int.pow_add]; congr 1; rw [Nat.mul_succ, Nat.add_comm]
    rw [undig, List.length_cons, e]
    have h1 : 0 ≤ 2 ^ n * undig n r := Int.mul_nonneg (by (first | lia | omega)) i0
    have h2 : 2 ^ n * (undig n r + 1) ≤ 2 ^ n * 2 ^ (n * r.length) := Int.mul_le_mul_of_nonneg_left (by (first | lia | omega)) (by (first | lia | omega))
    have h3 : 2 ^ n * (undig n r + 1) = 2 ^ n * undig n r + 2 ^ n := by grind
    (first | lia | omega)
theorem undig_digs (n : Nat) : ∀ (k : Nat) (x : Int), 0 ≤ x → x < 2 ^ (n * k) → undig n (digs n k x) = x
  | 0, x, h0, h1 => by
    simp at h1
    simp [digs, undig]
    omega
  | k + 1, x, h0, h1 => by
    have e : (2 : Int) ^ (n * (k + 1)) = 2 ^ n * 2 ^ (n * k) := by rw [← Int.pow_add]; congr 1; rw [Nat.mul_succ, Nat.add_comm]
    have hp := pow_pos' n
    have m := Int.mul_fdiv_add_fmod x (2 ^ n)
    have m0 := Int.fmod_nonneg_of_pos x hp
    have q0 : 0 ≤ x.fdiv (2 ^ n) := by rw [Int.fdiv_eq_ediv_of_nonneg _ (by omega)]; exact Int.ediv_nonneg h0 (by omega)
    have q1 : x.fdiv (2 ^ n) < 2 ^ (n * k) := Int.lt_of_mul_lt_mul_left (a := 2 ^ n) (by omega) (by omega)
    rw [digs, undig, undig_digs n k _ q0 q1]
    omega
noncomputable def horner (n : Nat) (l : List Int) : Int := l.foldl (fun a d => a * 2 ^ n + d) 0
theorem horner_snoc (n : Nat) (l : List Int) (d : Int) : horner n (l ++ [d]) = horner n l * 2 ^ n + d := by
  unfold horner
  rw [List.foldl_append]
  rfl
theorem horner_rev (n : Nat) : ∀ l : List Int, horner n l.reverse = undig n l
  | [] => rfl
  | d :: r => by
    rw [List.reverse_cons, horner_snoc, horner_rev n r, undig, Int.mul_comm]
    (first | lia | omega)
theorem undig_rev (n : Nat) (l : List Int) : undig n l.reverse = horner n l := by
  have := horner_rev n l.reverse
  rw [List.reverse_reverse] at this
  exact this.symm
end Mine
-- part CL
namespace Mine
open PySem.Calls PySem.Spec
section
variable {prog : Program} {w : World} {A : Around} {E : Value → Shared → Prop} {s : Shared} {h₀ : Heap} {L D : Addr} {m : Str → Option Value} {news news' : List (Addr × Obj)} {vs : List Value} {n : Nat} {k : Int} {t : Tok} {v : Value}
theorem my_set {Q : Unit → Shared → Prop} (F : Fr h₀ L s.heap m) (N : News h₀ L s.heap news) (U : Upd D (listOf vs.toArray n) (listOf (vs.set k.toNat v).toArray n) news news') (h0 : 0 ≤ k) (h1 : k < vs.length) (hfit : k < 2 ^ 63)
    (h : ∀ h', Fr h₀ L h' m → News h₀ L h' news' → Q () { s with heap := h' }) :
    wpAny (model prog w) A (setItem (.ref D) (.int k t) v) Q E s := by
  obtain ⟨pre, post, rfl, rfl, a, b⟩ := U.split
  have z := N (D, listOf vs.toArray n) (List.mem_append.mpr (.inr (.head _)))
  have hs : vs.toArray.size = vs.length := by rw [List.size_toArray]
  have hj : k.toNat < vs.length := by omega
  refine ki_setAt z.1 h0 hfit (by omega) (h _ (F.change (Heap.SameBut.update ..) z.2.1 z.2.2) (ki_turn _ N a b ?_ ?_))
  · show vs.toArray.setIfInBounds k.toNat v = (vs.set k.toNat v).toArray
    apply Array.toList_inj.mp
    simp
  · simp
theorem my_len {Q : Value → Shared → Prop} (N : News h₀ L s.heap news) (hm : (D, listOf vs.toArray n) ∈ news) (hk : (vs.length : Int) = k) (hfit : k < 2 ^ 62) (h : ∀ t tk, Q (.int k t) { s with toks := tk }) :
    wpAny (model prog w) A (call (.builtin "len") [.ref D]) Q E s := by
  have e : (vs.toArray.size : Int) = k := by rw [List.size_toArray]; exact hk
  exact len_list (PySem.IsL.isList (n := n) (N _ hm).1) (by rw [e]; (first | lia | omega)) (by rw [e]; exact h _ _)
end
noncomputable abbrev I2Led (f c' P D l' cN cA cI : Addr) (fo oc tab oL oN oA oI : Obj) (rest : List (Addr × Obj)) (vs : List Value) : List (Addr × Obj) :=
  (f, fo) :: (c', oc) :: (P, tab) :: (D, listOf vs.toArray 0) :: (l', oL) :: (cN, oN) :: (cA, oA) :: (cI, oI) :: rest
noncomputable abbrev I2Claim (w : World) (n : Int) (f c' P D l' cN cA cI : Addr) (fo oc tab oL oN oA oI : Obj) (rest : List (Addr × Obj)) (K : Nat) : Prop :=
  ∀ (x Li Ri : Int) (tx tl tr : Tok) (vpre vmid vpost : List Value), 0 ≤ x → x < 2 ^ (n.toNat * vmid.length) → Li = vpre.length → Ri = vpre.length + vmid.length → 1 ≤ vmid.length → vmid.length ≤ K → vpre.length + vmid.length + vpost.length ≤ 300 →
    Ctr w f [.int x tx, .int Li tl, .int Ri tr] (K + 1) (12 * K + 16) (I2Led f c' P D l' cN cA cI fo oc tab oL oN oA oI rest (vpre ++ (vmid ++ vpost)))
      (fun r led' => r = .none ∧ ∃ vd, IntsAre vd (digs n.toNat vmid.length x) ∧ led' = I2Led f c' P D l' cN cA cI fo oc tab oL oN oA oI rest (vpre ++ (vd ++ vpost)))
theorem i2_start {w : World} {n : Int} {f c' P D l' cN cA cI : Addr} {fo oc tab oL oN oA oI : Obj} {rest : List (Addr × Obj)} {vs : List Value} {h₀ h : Heap} {L : Addr} {G : Prop} (_N : News h₀ L h (I2Led f c' P D l' cN cA cI fo oc tab oL oN oA oI rest vs))
    (claim : ∀ K, I2Claim w n f c' P D l' cN cA cI fo oc tab oL oN oA oI rest K) (k : (∀ K, I2Claim w n f c' P D l' cN cA cI fo oc tab oL oN oA oI rest K) → G) : G := k claim
theorem set_mid (pre : List Value) (v0 v : Value) (post : List Value) : (pre ++ ([v0] ++ post)).set pre.length v = pre ++ ([v] ++ post) := by
  induction pre with
  | nil => rfl
  | cons a r ih => rw [List.cons_append, List.length_cons, List.set_cons_succ, ih]; rfl
end Mine
namespace Mine
theorem ints_app : ∀ {vs ws : List Value} {ns ms : List Int}, IntsAre vs ns → IntsAre ws ms → IntsAre (vs ++ ws) (ns ++ ms)
  | _, _, _, _, .nil, h => h
  | _, _, _, _, .cons i t h, h' => .cons i t (ints_app h h')
structure I2F (x Li Ri n : Int) (j k a b : Nat) : Prop where
  km : IntMulOk ((Li + Ri).fdiv (2 ^ Int.toNat 1) - Li) n
  s0 : 0 ≤ ((Li + Ri).fdiv (2 ^ Int.toNat 1) - Li) * n
  sh : (Builtin.Int.intBits (x.fdiv (2 ^ (((Li + Ri).fdiv (2 ^ Int.toNat 1) - Li) * n).toNat)) : Int) + ((Li + Ri).fdiv (2 ^ Int.toNat 1) - Li) * n ≤ 2 ^ 27
  l0 : 0 ≤ Builtin.bitXor x (x.fdiv (2 ^ (((Li + Ri).fdiv (2 ^ Int.toNat 1) - Li) * n).toNat) * 2 ^ (((Li + Ri).fdiv (2 ^ Int.toNat 1) - Li) * n).toNat)
  l1 : Builtin.bitXor x (x.fdiv (2 ^ (((Li + Ri).fdiv (2 ^ Int.toNat 1) - Li) * n).toNat) * 2 ^ (((Li + Ri).fdiv (2 ^ Int.toNat 1) - Li) * n).toNat) < 2 ^ (n.toNat * j)
  u0 : 0 ≤ x.fdiv (2 ^ (((Li + Ri).fdiv (2 ^ Int.toNat 1) - Li) * n).toNat)
  u1 : x.fdiv (2 ^ (((Li + Ri).fdiv (2 ^ Int.toNat 1) - Li) * n).toNat) < 2 ^ (n.toNat * k)
  m : (Li + Ri).fdiv (2 ^ Int.toNat 1) = (a : Int) + (j : Int)
  d : digs n.toNat (j + k) x = digs n.toNat j (Builtin.bitXor x (x.fdiv (2 ^ (((Li + Ri).fdiv (2 ^ Int.toNat 1) - Li) * n).toNat) * 2 ^ (((Li + Ri).fdiv (2 ^ Int.toNat 1) - Li) * n).toNat)) ++ digs n.toNat k (x.fdiv (2 ^ (((Li + Ri).fdiv (2 ^ Int.toNat 1) - Li) * n).toNat))
theorem I2F.of {x Li Ri n : Int} {j k a b : Nat} (hn : 0 < n) (hn2 : n ≤ 10000) (hx : 0 ≤ x) (hx1 : x < 2 ^ (n.toNat * (j + k))) (hL : Li = (a : Int)) (hR : Ri = (a : Int) + ((j + k : Nat) : Int)) (hj : j = (j + k) / 2) (hjk : j + k ≤ 300) : I2F x Li Ri n j k a b := by
  have em : (Li + Ri).fdiv (2 ^ Int.toNat 1) = (a : Int) + (j : Int) := by
    show (Li + Ri).fdiv 2 = _
    rw [Int.fdiv_eq_ediv_of_nonneg _ (by decide)]
    (first | lia | omega)
  have ed : (Li + Ri).fdiv (2 ^ Int.toNat 1) - Li = (j : Int) := by (first | lia | omega)
  have es : (((Li + Ri).fdiv (2 ^ Int.toNat 1) - Li) * n).toNat = n.toNat * j := by
    rw [ed]
    have : ((j : Int) * n) = ((n.toNat * j : Nat) : Int) := by
      rw [Int.natCast_mul, Int.toNat_of_nonneg (by (first | lia | omega)), Int.mul_comm]
    rw [this, Int.toNat_natCast]
  have ejn : (j : Int) * n ≤ 300 * 10000 := Int.le_trans (Int.mul_le_mul_of_nonneg_right (by (first | lia | omega) : (j : Int) ≤ 300) (by (first | lia | omega))) (Int.mul_le_mul_of_nonneg_left hn2 (by decide))
  have ejn0 : 0 ≤ (j : Int) * n := Int.mul_nonneg (by (first | lia | omega)) (by (first | lia | omega))
  have hnk : n.toNat * (j + k) ≤ 10000 * 300 := Nat.mul_le_mul (by (first | lia | omega)) hjk
  have bx : Bd (10000 * 300) x := (Bd.lt hx hx1).mono hnk
  have q0 : ∀ i : Nat, 0 ≤ x.fdiv (2 ^ i) := fun i => by rw [Int.fdiv_eq_ediv_of_nonneg _ (Int.le_of_lt (pow_pos' i))]; exact Int.ediv_nonneg hx (Int.le_of_lt (pow_pos' i))
  have q1 : x.fdiv (2 ^ (n.toNat * j)) ≤ x := by rw [Int.fdiv_eq_ediv_of_nonneg _ (Int.le_of_lt (pow_pos' _))]; exact Int.ediv_le_self _ hx
  have xs := xor_shift x (n.toNat * j)
  have hp := pow_pos' (n.toNat * j)
  refine ⟨?_, ?_, ?_, ?_, ?_, ?_, ?_, em, ?_⟩
  · rw [ed]
    exact mulOk (j := 20) (k := 20) (.lt (by (first | lia | omega)) (by (first | lia | omega))) (.lt (by (first | lia | omega)) (by (first | lia | omega))) (by decide)
  · rw [ed]; exact ejn0
  · rw [es, ed]
    have := (Bd.lt (q0 (n.toNat * j)) (Int.lt_of_le_of_lt q1 bx.to.1)).bits
    (first | lia | omega)
  · rw [es, xs]; exact Int.fmod_nonneg_of_pos _ hp
  · rw [es, xs]; exact Int.fmod_lt_of_pos _ hp
  · rw [es]; exact q0 _
  · rw [es]
    have e := Int.mul_fdiv_add_fmod x (2 ^ (n.toNat * j))
    have m0 := Int.fmod_nonneg_of_pos x hp
    rw [Nat.mul_add, Int.pow_add] at hx1
    exact Int.lt_of_mul_lt_mul_left (a := 2 ^ (n.toNat * j)) (by (first | lia | omega)) (by (first | lia | omega))
  · rw [es, xs]; exact digs_app _ _ _ _
end Mine
namespace Mine
open PySem.Calls PySem.Spec
section
variable {prog : Program} {w : World} {A : Around} {E : Value → Shared → Prop} {s : Shared} {h₀ : Heap} {L D : Addr} {m : Str → Option Value} {news news' : List (Addr × Obj)} {vs : List Value} {n : Nat}
theorem my_truthy {Q : Bool → Shared → Prop} (N : News h₀ L s.heap news) (hm : (D, listOf vs.toArray n) ∈ news) (hfit : vs.length ≤ 1000000) (h1 : vs ≠ [] → ∀ tk, Q true { s with toks := tk }) (h0 : vs = [] → ∀ tk, Q false { s with toks := tk }) :
    wpAny (model prog w) A (truthy (.ref D)) Q E s := by
  refine wpAny_truthy_list (PySem.IsL.isList (n := n) (N _ hm).1) (by rw [List.size_toArray]; (first | lia | omega)) ?_
  cases vs with
  | nil => exact h0 rfl _
  | cons a r => exact h1 (fun e => nomatch e) _
theorem my_item {value slice : PySem.Expr} {Q : Value → Shared → Prop} {k : Int} {u : Tok} {v : Value} (N : News h₀ L s.heap news) (hm : (D, listOf vs.toArray n) ∈ news) (h0 : 0 ≤ k) (hfit : k < 2 ^ 63) (hx : vs[k.toNat]? = some v) (h : Q v s)
    (hs : subscripted slice false (.ref D) (.int k u) = operate [.ref D, .int k u] (getItem (.ref D) (.int k u)) := by with_unfolding_all rfl) (hg : ∀ r, letTemporaryGo value (.ref D) r = pure () := by intro _; with_unfolding_all rfl) :
    wpAny (model prog w) A (subscriptTail value slice (.ref D) (.int k u)) Q E s :=
  item_list (PySem.IsL.isList (n := n) (N _ hm).1) h0 hfit (by simpa using hx) h hs hg
end
noncomputable abbrev I3Claim (w : World) (n : Int) (f : Addr) (LED : List (Addr × Obj)) (ns : List Int) (K : Nat) : Prop :=
  ∀ (Li Ri : Int) (tl tr : Tok) (pre mid post : List Int), ns = pre ++ (mid ++ post) → Li = pre.length → Ri = pre.length + mid.length → 1 ≤ mid.length → mid.length ≤ K →
    Ctr w f [.int Li tl, .int Ri tr] (K + 1) (12 * K + 16) LED (fun r led' => ∃ t, r = .int (undig n.toNat mid) t ∧ led' = LED)
theorem i3_start {w : World} {n : Int} {f : Addr} {LED : List (Addr × Obj)} {ns : List Int} {h₀ h : Heap} {L : Addr} {G : Prop} (_N : News h₀ L h LED)
    (claim : ∀ K, I3Claim w n f LED ns K) (k : (∀ K, I3Claim w n f LED ns K) → G) : G := k claim
structure I3F (Li Ri n : Int) (m1 m2 : List Int) (a : Nat) : Prop where
  km : IntMulOk ((Li + Ri).fdiv (2 ^ Int.toNat 1) - Li) n
  s0 : 0 ≤ ((Li + Ri).fdiv (2 ^ Int.toNat 1) - Li) * n
  sh : (Builtin.Int.intBits (undig n.toNat m2) : Int) + ((Li + Ri).fdiv (2 ^ Int.toNat 1) - Li) * n ≤ 2 ^ 27
  m : (Li + Ri).fdiv (2 ^ Int.toNat 1) = (a : Int) + (m1.length : Int)
  d : undig n.toNat m2 * 2 ^ (((Li + Ri).fdiv (2 ^ Int.toNat 1) - Li) * n).toNat + undig n.toNat m1 = undig n.toNat (m1 ++ m2)
theorem I3F.of {Li Ri n : Int} {m1 m2 : List Int} {a : Nat} (hn : 0 < n) (hn2 : n ≤ 10000) (hL : Li = (a : Int)) (hR : Ri = (a : Int) + ((m1.length + m2.length : Nat) : Int)) (hj : m1.length = (m1.length + m2.length) / 2) (hjk : m1.length + m2.length ≤ 300) (hb : ∀ d ∈ m2, 0 ≤ d ∧ d < 2 ^ n.toNat) : I3F Li Ri n m1 m2 a := by
  have em : (Li + Ri).fdiv (2 ^ Int.toNat 1) = (a : Int) + (m1.length : Int) := by
    show (Li + Ri).fdiv 2 = _
    rw [Int.fdiv_eq_ediv_of_nonneg _ (by decide)]
    (first | lia | omega)
  have ed : (Li + Ri).fdiv (2 ^ Int.toNat 1) - Li = (m1.length : Int) := by (first | lia | omega)
  have es : (((Li + Ri).fdiv (2 ^ Int.toNat 1) - Li) * n).toNat = n.toNat * m1.length := by
    rw [ed]
    have : ((m1.length : Int) * n) = ((n.toNat * m1.length : Nat) : Int) := by
      rw [Int.natCast_mul, Int.toNat_of_nonneg (by (first | lia | omega)), Int.mul_comm]
    rw [this, Int.toNat_natCast]
  have ejn : (m1.length : Int) * n ≤ 300 * 10000 := Int.le_trans (Int.mul_le_mul_of_nonneg_right (by (first | lia | omega) : (m1.length : Int) ≤ 300) (by (first | lia | omega))) (Int.mul_le_mul_of_nonneg_left hn2 (by decide))
  have ejn0 : 0 ≤ (m1.length : Int) * n := Int.mul_nonneg (by (first | lia | omega)) (by (first | lia | omega))
  have hnk : n.toNat * m2.length ≤ 10000 * 300 := Nat.mul_le_mul (by (first | lia | omega)) (by (first | lia | omega))
  obtain ⟨b0, b1⟩ := undig_bd n.toNat hb
  refine ⟨?_, ?_, ?_, em, ?_⟩
  · rw [ed]
    exact mulOk (j := 20) (k := 20) (.lt (by (first | lia | omega)) (by (first | lia | omega))) (.lt (by (first | lia | omega)) (by (first | lia | omega))) (by decide)
  · rw [ed]; exact ejn0
  · rw [ed]
    have := ((Bd.lt b0 b1).mono hnk).bits
    (first | lia | omega)
  · rw [es, undig_app, Int.mul_comm]
    (first | lia | omega)
theorem get_mid {ns : List Int} {vs : List Value} (hi : IntsAre vs ns) {pre post : List Int} {d : Int} (e : ns = pre ++ ([d] ++ post)) : ∃ t, vs[pre.length]? = some (.int d t) := by
  subst e
  have : ∀ {pre : List Int} {vs : List Value}, IntsAre vs (pre ++ ([d] ++ post)) → ∃ t, vs[pre.length]? = some (.int d t) := by
    intro pre
    induction pre with
    | nil =>
      intro vs hi
      cases hi with
      | cons i t h => exact ⟨t, rfl⟩
    | cons a r ih =>
      intro vs hi
      cases hi with
      | cons i t h =>
        obtain ⟨t', e⟩ := ih h
        exact ⟨t', by simpa using e⟩
  exact this hi
end Mine
-- part D1
namespace Mine
theorem d21_small (w : World) (a b n : Int) (ta tb tn : Tok) (led : List (Addr × Obj)) (hb : 0 < b) (hN : Near b) (hn : (PySem.Builtin.Int.intBits a : Int) - n ≤ 4000) :
    Ctr w 21 [.int a ta, .int b tb, .int n tn] 2 16 led (PairOut (a.fdiv b) (a.fmod b) led) := by
  unfold Ctr; k_fill
  intro dp un gd cn cs a ccd cl outer A₀ base h₀ L m s Q E loose mean mg mb B F X N T C1 C2 hk hd hu hret
  w_on
  w_top on
  k_with_none
  k_with "my call builtin:divmod" => (k_here; k_dflt (refine' my_divmod ?zqF ?zqN ?zqb ?zqp ?_; (case zqF => k_asm); (case zqN => k_asm); (case zqb => first | assumption | (first | lia | omega)); (case zqp => assumption); k_whole; intro D' h' t1' t2' tk' F' N' hlt'; (try k_sweep)))
  refine wpAny_call ?_
  k_dflt cell_enter
  k_steps
  exact hret _ _ _ _ (by assumption) (by assumption) ⟨_, _, _, rfl, rfl, by assumption⟩
end Mine
-- part D2
namespace Mine

theorem d28_start2 {a12 a3 b b1 b2 P : Int} (hb : b = b1 * P + b2) (hb1 : 0 < b1) (hP : 0 < P) (h3 : a3 < P) (hb2 : 0 ≤ b2) (h12 : 0 ≤ a12) :
    (a12.fdiv b1) * b + (a12.fmod b1 * P + a3 - a12.fdiv b1 * b2) = a12 * P + a3 ∧ a12.fmod b1 * P + a3 - a12.fdiv b1 * b2 < b := by
  have e := Int.mul_fdiv_add_fmod a12 b1
  have h1 := Int.fmod_lt_of_pos a12 hb1
  have h0 : 0 ≤ a12.fdiv b1 := by rw [Int.fdiv_eq_ediv_of_nonneg _ (by (first | lia | omega))]; exact Int.ediv_nonneg h12 (by (first | lia | omega))
  generalize a12.fdiv b1 = q at *
  generalize a12.fmod b1 = r at *
  subst hb
  refine ⟨?_, ?_⟩
  · have : q * (b1 * P + b2) + (r * P + a3 - q * b2) = (b1 * q + r) * P + a3 := by grind
    rw [this, e]
  · have h2 : 0 ≤ q * b2 := Int.mul_nonneg h0 hb2
    have h4 : (r + 1) * P ≤ b1 * P := Int.mul_le_mul_of_nonneg_right (by (first | lia | omega)) (by (first | lia | omega))
    have h5 : (r + 1) * P = r * P + P := by grind
    (first | lia | omega)
theorem d28_start1 {a12 a3 b b1 b2 P : Int} (hb : b = b1 * P + b2) (hlt : a12 * P + a3 < P * b) :
    (P - 1) * b + ((a12 - b1 * P + b1) * P + a3 - (P - 1) * b2) = a12 * P + a3 ∧ (a12 - b1 * P + b1) * P + a3 - (P - 1) * b2 < b := by
  subst hb
  have : (P - 1) * (b1 * P + b2) + ((a12 - b1 * P + b1) * P + a3 - (P - 1) * b2) = a12 * P + a3 := by grind
  refine ⟨this, ?_⟩
  have h2 : (P - 1) * (b1 * P + b2) = P * (b1 * P + b2) - (b1 * P + b2) := by grind
  (first | lia | omega)
theorem d28 (w : World) (a12 a3 b b1 b2 n : Int) (ta tb tc td te tn : Tok) (led : List (Addr × Obj)) (hn : 0 ≤ n) (hn2 : n ≤ 4000) (h12 : 0 ≤ a12) (h3 : 0 ≤ a3) (h3' : a3 < 2 ^ n.toNat) (hb : b = b1 * 2 ^ n.toNat + b2)
    (hb1 : 0 < b1) (hb1' : b1 < 2 ^ n.toNat) (hb2 : 0 ≤ b2) (hb2' : b2 < 2 ^ n.toNat) (hlt : a12 * 2 ^ n.toNat + a3 < 2 ^ n.toNat * b) :
    Ctr w 28 [.int a12 ta, .int a3 tb, .int b tc, .int b1 td, .int b2 te, .int n tn] 5 40 led (PairOut ((a12 * 2 ^ n.toNat + a3).fdiv b) ((a12 * 2 ^ n.toNat + a3).fmod b) led) := by
  unfold Ctr; k_fill
  intro dp un gd cn cs a ccd cl outer A₀ base h₀ L m s Q E loose mean mg mb B F X N T C1 C2 hk hd hu hret
  obtain ⟨hp9, gn9, dr9, tk9, os9⟩ := s
  w_on
  w_top on
  have hP := pow_pos' n.toNat
  have k12' : Bd (n.toNat + n.toNat) a12 := by
    refine .lt h12 ?_
    have h1 : b < 2 ^ n.toNat * 2 ^ n.toNat := by
      have : (b1 + 1) * 2 ^ n.toNat ≤ 2 ^ n.toNat * 2 ^ n.toNat := Int.mul_le_mul_of_nonneg_right (by (first | lia | omega)) (by (first | lia | omega))
      have e : (b1 + 1) * 2 ^ n.toNat = b1 * 2 ^ n.toNat + 2 ^ n.toNat := by grind
      (first | lia | omega)
    have h2 : 2 ^ n.toNat * a12 < 2 ^ n.toNat * b := by rw [Int.mul_comm]; (first | lia | omega)
    have h4 : a12 < b := Int.lt_of_mul_lt_mul_left h2 (by (first | lia | omega))
    rw [Int.pow_add]
    (first | lia | omega)
  have k12 : Bd 8010 a12 := k12'.mono (by (first | lia | omega))
  have k1 : Bd 4001 1 := Bd.mono (j := 1) (by unfold Bd; decide) (by (first | lia | omega))
  have kb1 : Bd 4000 b1 := (Bd.lt (by (first | lia | omega)) hb1').mono (by (first | lia | omega))
  have kb2 : Bd 4000 b2 := (Bd.lt hb2 hb2').mono (by (first | lia | omega))
  have kP : Bd 4001 (2 ^ n.toNat) := (Bd.pow _).mono (by (first | lia | omega))
  have kr1 : Bd 8100 (a12 - b1 * 2 ^ n.toNat + b1) := ((k12.sub ((kb1.mul kP).mono (by (first | lia | omega) : 4000 + 4001 ≤ 8010))).add (kb1.mono (by (first | lia | omega)))).mono (by (first | lia | omega))
  have kr2 : Bd 4001 (a12.fmod b1) := (Bd.lt (Int.fmod_nonneg_of_pos _ hb1) (Int.lt_trans (Int.fmod_lt_of_pos _ hb1) hb1')).mono (by (first | lia | omega))
  have km1 : IntMulOk (1 * 2 ^ n.toNat - 1) b2 := mulOk (by rw [Int.one_mul]; exact kP.sub ((by unfold Bd; decide : Bd 1 (1 : Int)).mono (by (first | lia | omega)))) kb2 (by (first | lia | omega))
  have km2 : IntMulOk (a12.fdiv b1) b2 := by
    refine mulOk (j := 8010) ?_ kb2 (by (first | lia | omega))
    have : a12.fdiv b1 ≤ a12 := by rw [Int.fdiv_eq_ediv_of_nonneg _ (by (first | lia | omega))]; exact Int.ediv_le_self _ h12
    have h0 : 0 ≤ a12.fdiv b1 := by rw [Int.fdiv_eq_ediv_of_nonneg _ (by (first | lia | omega))]; exact Int.ediv_nonneg h12 (by (first | lia | omega))
    exact .lt h0 (Int.lt_of_le_of_lt this k12.to.1)
  have hbits : (Builtin.Int.intBits a12 : Int) - n ≤ 4000 := by
    have := k12'.bits
    (first | lia | omega)
  have hb0 : 0 < b := by
    have : 0 < b1 * 2 ^ n.toNat := Int.mul_pos hb1 hP
    (first | lia | omega)
  have hNear : Near b1 := near_of (Nat.lt_of_lt_of_le kb1 (Nat.pow_le_pow_right (by decide) (by decide)))
  have hs1 := d28_start1 hb hlt
  have hs2 := d28_start2 hb hb1 hP h3' hb2 h12
  k_with_none
  k_with "my binaryOp RShift int int" => (k_here; (with_reducible refine g_rsh ?zqkb1 ?_); (case zqkb1 => first | assumption | (first | lia | omega)); intro tz9' kz9')
  k_with "my inplaceOp RShift int int" => (k_here; (with_reducible refine g_irsh ?zqkb1 ?_); (case zqkb1 => first | assumption | (first | lia | omega)); intro tz9' kz9')
  k_with "my binaryOp LShift int int" => (k_here; (with_reducible refine g_lsh ?zqkb1 ?zqkb2 ?_); (case zqkb1 => first | assumption | (first | lia | omega)); (case zqkb2 => first | exact shlOk (by assumption) (by (first | lia | omega)) (by first | assumption | (first | lia | omega)) | assumption); intro tz9' kz9')
  k_with "my inplaceOp LShift int int" => (k_here; (with_reducible refine g_ilsh ?zqkb1 ?zqkb2 ?_); (case zqkb1 => first | assumption | (first | lia | omega)); (case zqkb2 => first | exact shlOk (by assumption) (by (first | lia | omega)) (by first | assumption | (first | lia | omega)) | assumption); intro tz9' kz9')
  k_with "my binaryOp Mult int int" => (k_here; (with_reducible refine g_mul ?zqkb1 ?_); (case zqkb1 => assumption); intro tz9' kz9')
  k_with "my inplaceOp Mult int int" => (k_here; (with_reducible refine g_imul ?zqkb1 ?_); (case zqkb1 => assumption); intro tz9' kz9')
  k_with "my binaryOp Add int int" => (k_here; (with_reducible refine g_add ?_); intro tz9' kz9')
  k_with "my binaryOp Sub int int" => (k_here; (with_reducible refine g_sub ?_); intro tz9' kz9')
  k_with "my binaryOp BitAnd int int" => (k_here; (with_reducible refine g_and ?_); intro tz9' kz9')
  k_with "my binaryOp BitOr int int" => (k_here; (with_reducible refine g_or ?_); intro tz9' kz9')
  k_with "my inplaceOp Add int int" => (k_here; (with_reducible refine g_iadd ?_); intro tz9' kz9')
  k_with "my inplaceOp Sub int int" => (k_here; (with_reducible refine g_isub ?_); intro tz9' kz9')
  k_with "my binaryOp FloorDiv int int" => (k_here; (with_reducible refine floordiv_int ?zqkb1 ?_ ?zqkb2); (case zqkb1 => first | assumption | (first | lia | omega)); (case zqkb2 => exact .inl ((by assumption : Near _) _)))
  k_with "my call builtin:divmod" => (k_here; k_dflt (refine' my_divmod ?zqF ?zqN ?zqb ?zqp ?_; (case zqF => k_asm); (case zqN => k_asm); (case zqb => first | assumption | (first | lia | omega)); (case zqp => assumption); k_whole; intro D' h' t1' t2' tk' F' N' hlt'; (try k_sweep)))
  k_with "my call ref" => (k_here; k_dflt (refine' Ctr.usep (d21_small _ _ _ _ _ _ _ _ ?zqp1 ?zqp2 ?zqp3) ?zqcB ?zqcF ?zqcX ?zqcN ?zqcT ?zqcC1 ?zqcC2 ?zqck ?zqcd ?zqcu ?_; (case zqcB => k_asm); (case zqcF => k_asm); (case zqcX => k_asm); (case zqcN => first | k_asm | (simp only [List.append_assoc, List.nil_append, List.append_nil]; k_asm)); (case zqcT => k_asm); (case zqcC1 => k_asm); (case zqcC2 => k_asm); (case zqck => first | exact rfl | assumption); (case zqcd => ktr_room); (case zqcu => ktr_units); (case zqp1 => assumption); (case zqp2 => assumption); (case zqp3 => assumption); intro D9 t19 t29 hlt9 h9 tk9 F9 N9; (try k_lt hlt9); (try dsimp only); (try k_sweep); (try k_fold)))
  k_with "exec While Compare cons nil" => k_while (fun _ q r => q * b + r = a12 * 2 ^ n.toNat + a3 ∧ r < b) (fun _ _ r => (-r).toNat) "q" "r"
  k_with "state" => (first | (rw [or_shift h3 h3', Int.one_mul]; exact hs1) | (rw [or_shift h3 h3']; exact hs2) | (refine ⟨?_, ?_⟩ <;> grind))
  refine wpAny_call ?_
  k_dflt cell_enter
  k_steps
  --END
  all_goals (
    have e9 := fdm (x := a12 * 2 ^ n.toNat + a3) (b := b) (by assumption) (by (first | lia | omega)) (by assumption)
    rw [e9.1, e9.2] at hret
    exact pair_end hret (by assumption) (by assumption) (by intro p9 hp9; (repeat (first | exact hp9 | refine List.Mem.tail _ ?_))) (by first | assumption | exact allLt_to (by assumption) | exact allLt_to (by assumption : _ ∧ AllLt _ led).2 | exact allLt_to (by assumption : _ ∧ _ ∧ AllLt _ led).2.2 | exact allLt_to (by assumption : _ ∧ _ ∧ _ ∧ AllLt _ led).2.2.2 | exact allLt_to (by assumption : _ ∧ _ ∧ _ ∧ _ ∧ AllLt _ led).2.2.2.2))
end Mine
-- part D3
namespace Mine

theorem d21_big (w : World) (a b n : Int) (ta tb tn : Tok) (led : List (Addr × Obj)) (hn : 0 ≤ n) (hb0 : 0 < b) (ka : Bd 100000 a) (kb : Bd 100000 b) (hbits : ¬ (Builtin.Int.intBits a : Int) - n ≤ 4000)
    (f : Builtin.bitAnd n 1 = 0 → F21 a b n) (g : Builtin.bitAnd n 1 ≠ 0 → F21 (a * 2 ^ Int.toNat 1) (b * 2 ^ Int.toNat 1) (n + 1)) :
    Ctr w 21 [.int a ta, .int b tb, .int n tn] 8 60 led (PairOut (a.fdiv b) (a.fmod b) led) := by
  unfold Ctr; k_fill
  intro dp un gd cn cs a ccd cl outer A₀ base h₀ L m s Q E loose mean mg mb B F X N T C1 C2 hk hd hu hret
  obtain ⟨hp9, gn9, dr9, tk9, os9⟩ := s
  w_on
  w_top on
  have k1 : Bd 1 1 := by unfold Bd; decide
  k_with_none
  k_with "my binaryOp RShift int int" => (k_here; (with_reducible refine g_rsh ?zqkb1 ?_); (case zqkb1 => first | assumption | (first | lia | omega)); intro tz9' kz9')
  k_with "my inplaceOp RShift int int" => (k_here; (with_reducible refine g_irsh ?zqkb1 ?_); (case zqkb1 => first | assumption | (first | lia | omega)); intro tz9' kz9')
  k_with "my binaryOp LShift int int" => (k_here; (with_reducible refine g_lsh ?zqkb1 ?zqkb2 ?_); (case zqkb1 => first | assumption | (first | lia | omega)); (case zqkb2 => first | exact shlOk (by assumption) (by (first | lia | omega)) (by first | assumption | (first | lia | omega)) | assumption); intro tz9' kz9')
  k_with "my inplaceOp LShift int int" => (k_here; (with_reducible refine g_ilsh ?zqkb1 ?zqkb2 ?_); (case zqkb1 => first | assumption | (first | lia | omega)); (case zqkb2 => first | exact shlOk (by assumption) (by (first | lia | omega)) (by first | assumption | (first | lia | omega)) | assumption); intro tz9' kz9')
  k_with "my binaryOp Mult int int" => (k_here; (with_reducible refine g_mul ?zqkb1 ?_); (case zqkb1 => assumption); intro tz9' kz9')
  k_with "my inplaceOp Mult int int" => (k_here; (with_reducible refine g_imul ?zqkb1 ?_); (case zqkb1 => assumption); intro tz9' kz9')
  k_with "my binaryOp Add int int" => (k_here; (with_reducible refine g_add ?_); intro tz9' kz9')
  k_with "my binaryOp Sub int int" => (k_here; (with_reducible refine g_sub ?_); intro tz9' kz9')
  k_with "my binaryOp BitAnd int int" => (k_here; (with_reducible refine g_and ?_); intro tz9' kz9')
  k_with "my binaryOp BitOr int int" => (k_here; (with_reducible refine g_or ?_); intro tz9' kz9')
  k_with "my inplaceOp Add int int" => (k_here; (with_reducible refine g_iadd ?_); intro tz9' kz9')
  k_with "my inplaceOp Sub int int" => (k_here; (with_reducible refine g_isub ?_); intro tz9' kz9')
  k_with "my binaryOp FloorDiv int int" => (k_here; (with_reducible refine floordiv_int ?zqkb1 ?_ ?zqkb2); (case zqkb1 => first | assumption | (first | lia | omega)); (case zqkb2 => exact .inl ((by assumption : Near _) _)))
  k_with "my call builtin:divmod" => (k_here; k_dflt (refine' my_divmod ?zqF ?zqN ?zqb ?zqp ?_; (case zqF => k_asm); (case zqN => k_asm); (case zqb => first | assumption | (first | lia | omega)); (case zqp => assumption); k_whole; intro D' h' t1' t2' tk' F' N' hlt'; (try k_sweep)))
  k_with "my call ref" => (k_here; k_dflt (refine' Ctr.usep (d28 _ _ _ _ _ _ _ _ _ _ _ _ _ _ ?zqp1 ?zqp2 ?zqp3 ?zqp4 ?zqp5 ?zqp6 ?zqp7 ?zqp8 ?zqp9 ?zqp10 ?zqp11) ?zqcB ?zqcF ?zqcX ?zqcN ?zqcT ?zqcC1 ?zqcC2 ?zqck ?zqcd ?zqcu ?_; (case zqcB => k_asm); (case zqcF => k_asm); (case zqcX => k_asm); (case zqcN => first | k_asm | (simp only [List.append_assoc, List.nil_append, List.append_nil]; k_asm)); (case zqcT => k_asm); (case zqcC1 => k_asm); (case zqcC2 => k_asm); (case zqck => first | exact rfl | assumption); (case zqcd => ktr_room); (case zqcu => ktr_units); (case zqp1 => assumption); (case zqp2 => assumption); (case zqp3 => assumption); (case zqp4 => assumption); (case zqp5 => assumption); (case zqp6 => assumption); (case zqp7 => assumption); (case zqp8 => assumption); (case zqp9 => assumption); (case zqp10 => assumption); (case zqp11 => assumption); intro D9 t19 t29 hlt9 h9 tk9 F9 N9; (try k_lt hlt9); (try dsimp only); (try k_sweep); (try k_fold)))
  k_with "ite" => ((with_reducible refine split_ine (fun hpd => ?x1) (fun hpd => ?x2)); (case' x1 => k_dflt (obtain ⟨h0, h1, a1, a2, a3, b1, b2, b3, b4, b5, c1, d1, d2, d3, d4, k2, e1, e2⟩ := g hpd; rw [two_fdiv _ _ hb0] at e1)); (case' x2 => k_dflt (obtain ⟨h0, h1, a1, a2, a3, b1, b2, b3, b4, b5, c1, d1, d2, d3, d4, k2, e1, e2⟩ := f hpd)))
  refine wpAny_call ?_
  k_dflt cell_enter
  k_steps
  --END
  all_goals (try exact absurd (by assumption : Builtin.bitAnd n 1 = 0) (by assumption))
  all_goals (first | rw [← two_fmod _ _ hb0, ← e2, ← e1] at hret | rw [← e2, ← e1] at hret)
  all_goals exact pair_end hret (by assumption) (by assumption) (by intro p9 hp9; (repeat (first | exact hp9 | refine List.Mem.tail _ ?_))) (by first | assumption | exact allLt_to (by assumption) | exact allLt_to (by assumption : _ ∧ AllLt _ led).2 | exact allLt_to (by assumption : _ ∧ _ ∧ AllLt _ led).2.2 | exact allLt_to (by assumption : _ ∧ _ ∧ _ ∧ AllLt _ led).2.2.2 | exact allLt_to (by assumption : _ ∧ _ ∧ _ ∧ _ ∧ AllLt _ led).2.2.2.2)
end Mine
-- part D4
namespace Mine

theorem Ctr.mono {w : World} {f : Addr} {vs : List Value} {d u d' u' : Nat} {led : List (Addr × Obj)} {Out : Value → List (Addr × Obj) → Prop} (C : Ctr w f vs d u led Out) (hd : d ≤ d') (hu : u ≤ u') : Ctr w f vs d' u' led Out :=
  fun dp un gd cn cs a ccd cl outer A₀ base h₀ L m s Q E loose mean mg mb B F X N T C1 C2 hk hd' hu' hret =>
    C dp un gd cn cs a ccd cl outer A₀ base h₀ L m s Q E loose mean mg mb B F X N T C1 C2 hk (by (first | lia | omega)) (by (first | lia | omega)) hret
theorem d21 (w : World) (a b n : Int) (ta tb tn : Tok) (led : List (Addr × Obj)) (k : Nat) (hn : n = ((k + 1 : Nat) : Int)) (hk : k < 6900) (hb1 : 2 ^ k ≤ b) (hb2 : b < 2 ^ (k + 1)) (ha : 0 ≤ a) (hlt : a < 2 ^ (k + 1) * b) :
    Ctr w 21 [.int a ta, .int b tb, .int n tn] 8 60 led (PairOut (a.fdiv b) (a.fmod b) led) := by
  have hb0 : 0 < b := Int.lt_of_lt_of_le (pow_pos' k) hb1
  have kb : Bd (k + 1) b := .lt (by (first | lia | omega)) hb2
  by_cases hbits : (Builtin.Int.intBits a : Int) - n ≤ 4000
  · exact (d21_small w a b n ta tb tn led hb0 (near_of (Nat.lt_of_lt_of_le kb (Nat.pow_le_pow_right (by decide) (by (first | lia | omega))))) hbits).mono (by decide) (by decide)
  · have ka : Bd 100000 a := by
      refine Bd.mono (j := k + 1 + (k + 1)) (.lt ha ?_) (by (first | lia | omega))
      rw [Int.pow_add]
      exact Int.lt_of_lt_of_le hlt (Int.mul_le_mul_of_nonneg_left (Int.le_of_lt hb2) (Int.le_of_lt (pow_pos' _)))
    refine d21_big w a b n ta tb tn led (by (first | lia | omega)) hb0 ka (kb.mono (by (first | lia | omega))) hbits (fun hp => ?_) (fun hp => ?_)
    · rw [bitAnd_m1] at hp
      have hj : k = 2 * (k / 2) + 1 := by (first | lia | omega)
      have h2 : k + 1 = 2 * (k / 2) + 2 := by (first | lia | omega)
      refine F21.of (k := k / 2) (by (first | lia | omega)) (by (first | lia | omega)) ha ?_ ?_ ?_
      · rw [← hj]; exact hb1
      · rw [← h2]; exact hb2
      · rw [← h2]; exact hlt
    · rw [bitAnd_m1] at hp
      have hj : k = 2 * (k / 2) := by (first | lia | omega)
      have h1 : 2 * (k / 2) + 1 = k + 1 := by (first | lia | omega)
      have h2 : 2 * (k / 2) + 2 = k + 1 + 1 := by (first | lia | omega)
      have p1 := pow_pos' (k + 1)
      have e1 : (2 : Int) ^ (k + 1) = 2 ^ k * 2 := Int.pow_succ ..
      have e2 : (2 : Int) ^ (k + 1 + 1) = 2 ^ (k + 1) * 2 := Int.pow_succ ..
      refine F21.of (k := k / 2) (by (first | lia | omega)) (by (first | lia | omega)) ?_ ?_ ?_ ?_
      · exact Int.mul_nonneg ha (by decide)
      · rw [h1]
        show 2 ^ (k + 1) ≤ b * 2
        (first | lia | omega)
      · rw [h2]
        show b * 2 < 2 ^ (k + 1 + 1)
        (first | lia | omega)
      · rw [h2, e2]
        show a * 2 < 2 ^ (k + 1) * 2 * (b * 2)
        have h3 : 2 ^ (k + 1) * 2 * (b * 2) = (2 ^ (k + 1) * b) * 4 := by grind
        (first | lia | omega)
end Mine
-- part E1
namespace Mine

theorem flat_one {α : Type} (v : α) : ∀ k : Nat, (List.replicate k [v]).flatten = List.replicate k v
  | 0 => rfl
  | k + 1 => by rw [List.replicate_succ, List.flatten_cons, flat_one v k]; rfl
local macro_rules | `(tactic| k_all) => `(tactic| first | assumption | exact rest_ne (by assumption) (by omega))
theorem d35 (w : World) (a0 n : Int) (K0 : Nat) (ta tn : Tok) (tl rest : List (Addr × Obj)) (hst : TabSt 30 32 4 (Str.ofString "_int2digits.<locals>.inner") tl) (hap : Apart tl rest) (hn : 0 < n) (hn2 : n ≤ 10000) (ha : 0 ≤ a0) (hN : Near n)
    (hK : ((Builtin.Int.intBits a0 : Int) + n - 1).fdiv n = (K0 : Int)) (hK2 : K0 ≤ 250) (hK3 : a0 < 2 ^ (n.toNat * K0)) (hK4 : a0 = 0 → K0 = 0) (hK5 : a0 ≠ 0 → 1 ≤ K0) :
    Ctr w 35 [.int a0 ta, .int n tn] 300 3500 (tl ++ rest) (fun r led' => ∃ D tl' vd, r = .ref D ∧ TabSt 30 32 4 (Str.ofString "_int2digits.<locals>.inner") tl' ∧ Apart tl' rest ∧ IntsAre vd (digs n.toNat K0 a0) ∧ led' = (D, listOf vd.toArray 0) :: (tl' ++ rest)) := by
  have h0 : 0 ≤ ((Builtin.Int.intBits a0 : Int) + n - 1).fdiv n := by (first | lia | omega)
  have h1 : ((Builtin.Int.intBits a0 : Int) + n - 1).fdiv n ≤ 250 := by (first | lia | omega)
  have hKt : (((Builtin.Int.intBits a0 : Int) + n - 1).fdiv n).toNat = K0 := by (first | lia | omega)
  unfold Ctr; k_fill
  intro dp un gd cn cs a ccd cl outer A₀ base h₀ L m s Q E loose mean mg mb B F X N T C1 C2 hk hd hu hret
  obtain ⟨hp9, gn9, dr9, tk9, os9⟩ := s
  w_on
  w_top on
  k_with_none
  k_with "my binaryOp RShift int int" => (k_here; (with_reducible refine g_rsh ?zqkb1 ?_); (case zqkb1 => first | assumption | (first | lia | omega)); intro tz9' kz9')
  k_with "my inplaceOp RShift int int" => (k_here; (with_reducible refine g_irsh ?zqkb1 ?_); (case zqkb1 => first | assumption | (first | lia | omega)); intro tz9' kz9')
  k_with "my binaryOp LShift int int" => (k_here; (with_reducible refine g_lsh ?zqkb1 ?zqkb2 ?_); (case zqkb1 => first | assumption | (first | lia | omega)); (case zqkb2 => first | exact shlOk (by assumption) (by (first | lia | omega)) (by first | assumption | (first | lia | omega)) | assumption); intro tz9' kz9')
  k_with "my inplaceOp LShift int int" => (k_here; (with_reducible refine g_ilsh ?zqkb1 ?zqkb2 ?_); (case zqkb1 => first | assumption | (first | lia | omega)); (case zqkb2 => first | exact shlOk (by assumption) (by (first | lia | omega)) (by first | assumption | (first | lia | omega)) | assumption); intro tz9' kz9')
  k_with "my binaryOp Mult int int" => (k_here; (with_reducible refine g_mul ?zqkb1 ?_); (case zqkb1 => assumption); intro tz9' kz9')
  k_with "my inplaceOp Mult int int" => (k_here; (with_reducible refine g_imul ?zqkb1 ?_); (case zqkb1 => assumption); intro tz9' kz9')
  k_with "my binaryOp Add int int" => (k_here; (with_reducible refine g_add ?_); intro tz9' kz9')
  k_with "my binaryOp Sub int int" => (k_here; (with_reducible refine g_sub ?_); intro tz9' kz9')
  k_with "my binaryOp BitAnd int int" => (k_here; (with_reducible refine g_and ?_); intro tz9' kz9')
  k_with "my binaryOp BitOr int int" => (k_here; (with_reducible refine g_or ?_); intro tz9' kz9')
  k_with "my inplaceOp Add int int" => (k_here; (with_reducible refine g_iadd ?_); intro tz9' kz9')
  k_with "my inplaceOp Sub int int" => (k_here; (with_reducible refine g_isub ?_); intro tz9' kz9')
  k_with "my binaryOp FloorDiv int int" => (k_here; (with_reducible refine floordiv_int ?zqkb1 ?_ ?zqkb2); (case zqkb1 => first | assumption | (first | lia | omega)); (case zqkb2 => exact .inl ((by assumption : Near _) _)))
  k_with "my call builtin:divmod" => (k_here; k_dflt (refine' my_divmod ?zqF ?zqN ?zqb ?zqp ?_; (case zqF => k_asm); (case zqN => k_asm); (case zqb => first | assumption | (first | lia | omega)); (case zqp => assumption); k_whole; intro D' h' t1' t2' tk' F' N' hlt'; (try k_sweep)))
  k_with "my binaryOp Mult ref int" => (k_here; (with_reducible show wpAny _ _ (binaryOp Operator.Mult (Value.ref _) (Value.int _ _)) _ _ _); k_dflt (refine' KMa.mul ?zqF ?zqN ?zql ?zqlo ?zqhi ?zqz (flat_one _ _) ?_; (case zqF => k_asm); (case zqN => k_asm); (case zql => is_list); (case zqlo => (first | lia | omega)); (case zqhi => (first | lia | omega)); (case zqz => (simp only [List.length_cons, List.length_nil]; (first | lia | omega))); k_whole); intro D' h' F' N' l1; (try k_lt l1); (try k_sweep))
  k_with "my call builtin:len" => (k_here; (with_reducible show wpAny _ _ (call (Value.builtin "len") [Value.ref _]) _ _ _); k_dflt (refine' my_len ?zqN ?zqm ?zqk ?zqf ?_; (case zqN => k_asm); (case zqm => k_mem); (case zqk => simp only [List.length_replicate]; first | rfl | exact Int.toNat_of_nonneg (by assumption)); (case zqf => first | decide | (first | lia | omega)); k_whole; intro _ _))
  k_with "my setItem ref int" => (k_here; k_dflt (refine' my_set ?zqF ?zqN ?zqU ?zqk0 ?zqk1 ?zqk2 ?_; (case zqF => k_asm); (case zqN => k_asm); (case zqU => k_upd); (case zqk0 => (first | lia | omega)); (case zqk1 => (simp only [List.length_append, List.length_cons, List.length_nil]; (first | lia | omega))); (case zqk2 => (first | lia | omega)); k_whole; intro h' F' N'; (try k_sweep)))
  refine wpAny_call ?_
  k_dflt (refine' code_defC ?k1 ?k2 ?k3 ?k4 ?k5 ?kA ?kF ?kK ?k6 ?k7 ?k8 ?k9 ?kB ?kD ?_ ?c2 ?c3 ?c4; (case kA => exact rfl); (case kF => exact rfl); (case kK => assumption); (case k1 => k_asm); (case k2 => k_asm); (case k3 => k_asm); (case k4 => k_asm); (case k5 => k_asm); (case k6 => k_is); (case k7 => k_is); (case k8 => ktr_room); (case k9 => exact BindsTo.of_eq rfl); (case kB => exact rfl); (case kD => decide +kernel); (case c2 => exact rfl); (case c3 => exact rfl); (case c4 => exact rfl); k_whole; intro g' L' h' tk' cells' FG' F' N' Y' B' X' T' l1; (try k_lt l1); k_cells Y'; (try simp only [List.cons_append, List.nil_append] at N'); (try dsimp only); (try k_lift B'); (try k_fold))
  have hr0 : AllLt L' (tl ++ rest) := by first | exact l1 | exact allLt_of l1
  obtain ⟨hrt, hrr⟩ := allLt_app.mp hr0
  have h30 : (30 : Nat) < L' := by
    cases hst with
    | new => exact hrt.1
    | old _ _ => exact hrt.1
  k_steps
  (k_dflt (refine' nestDef_K ?d0 ?k0 ?a0 ?_; (case d0 => exact rfl); (case k0 => exact rfl); (case a0 => exact rfl)))
  k_dflt (refine' my_nest (own1 := [_, _, _, _, _]) (tl := tl) (rest := rest) ?F ?N ?T ?C ?cd hst ?hq rfl rfl hrt ?ne hap ?lo ?hit ?tr ?cl ?_)
  case F => k_asm
  case N => k_asm
  case T => k_asm
  case C => kn_code
  case cd => exact rfl
  case hq => with_unfolding_all rfl
  case ne => w_strict k_all
  case lo => (simp only [AllGt, and_true]; (first | lia | omega))
  case hit => intro c'; kn_hit
  case tr => intro c'; kn_triples
  case cl => exact rfl
  intro f c' oc vs t ctv doc h' tk F' N' dv1 dv2 lf lc l2 lL hap'
  simp only [List.cons_append, List.nil_append] at N'
  simp only [AllLt, AllNe, and_true] at lf lc
  k_steps
  refine' i2_start (w := w) (n := n) ?N ?claim ?_
  case N => k_asm
  case claim =>
    intro K
    induction K with
    | zero => intro x Li Ri tx tl tr vpre vmid vpost hx0 hx1 hL hR h1 hK; (first | lia | omega)
    | succ K ih =>
      clear hret
      intro x Li Ri tx tl tr vpre vmid vpost hx0 hx1 hL hR h1 hK ht
      by_cases hb : vmid.length = 1
      · obtain ⟨v0, rfl⟩ : ∃ v0, vmid = [v0] := by
          match vmid, hb with
          | [v0], _ => exact ⟨v0, rfl⟩
        have hLR : (Li + 1 == Ri) = true := by simp only [List.length_cons, List.length_nil] at hR; rw [beq_iff_eq]; (first | lia | omega)
        k_with_none
        k_with "my binaryOp RShift int int" => (k_here; (with_reducible refine g_rsh ?zqkb1 ?_); (case zqkb1 => first | assumption | (first | lia | omega)); intro tz9' kz9')
        k_with "my inplaceOp RShift int int" => (k_here; (with_reducible refine g_irsh ?zqkb1 ?_); (case zqkb1 => first | assumption | (first | lia | omega)); intro tz9' kz9')
        k_with "my binaryOp LShift int int" => (k_here; (with_reducible refine g_lsh ?zqkb1 ?zqkb2 ?_); (case zqkb1 => first | assumption | (first | lia | omega)); (case zqkb2 => first | exact shlOk (by assumption) (by (first | lia | omega)) (by first | assumption | (first | lia | omega)) | assumption); intro tz9' kz9')
        k_with "my inplaceOp LShift int int" => (k_here; (with_reducible refine g_ilsh ?zqkb1 ?zqkb2 ?_); (case zqkb1 => first | assumption | (first | lia | omega)); (case zqkb2 => first | exact shlOk (by assumption) (by (first | lia | omega)) (by first | assumption | (first | lia | omega)) | assumption); intro tz9' kz9')
        k_with "my binaryOp Mult int int" => (k_here; (with_reducible refine g_mul ?zqkb1 ?_); (case zqkb1 => assumption); intro tz9' kz9')
        k_with "my inplaceOp Mult int int" => (k_here; (with_reducible refine g_imul ?zqkb1 ?_); (case zqkb1 => assumption); intro tz9' kz9')
        k_with "my binaryOp Add int int" => (k_here; (with_reducible refine g_add ?_); intro tz9' kz9')
        k_with "my binaryOp Sub int int" => (k_here; (with_reducible refine g_sub ?_); intro tz9' kz9')
        k_with "my binaryOp BitAnd int int" => (k_here; (with_reducible refine g_and ?_); intro tz9' kz9')
        k_with "my binaryOp BitOr int int" => (k_here; (with_reducible refine g_or ?_); intro tz9' kz9')
        k_with "my inplaceOp Add int int" => (k_here; (with_reducible refine g_iadd ?_); intro tz9' kz9')
        k_with "my inplaceOp Sub int int" => (k_here; (with_reducible refine g_isub ?_); intro tz9' kz9')
        k_with "my binaryOp FloorDiv int int" => (k_here; (with_reducible refine floordiv_int ?zqkb1 ?_ ?zqkb2); (case zqkb1 => first | assumption | (first | lia | omega)); (case zqkb2 => exact .inl ((by assumption : Near _) _)))
        k_with "my call builtin:divmod" => (k_here; k_dflt (refine' my_divmod ?zqF ?zqN ?zqb ?zqp ?_; (case zqF => k_asm); (case zqN => k_asm); (case zqb => first | assumption | (first | lia | omega)); (case zqp => assumption); k_whole; intro D' h' t1' t2' tk' F' N' hlt'; (try k_sweep)))
        k_with "my binaryOp Mult ref int" => (k_here; (with_reducible show wpAny _ _ (binaryOp Operator.Mult (Value.ref _) (Value.int _ _)) _ _ _); k_dflt (refine' KMa.mul ?zqF ?zqN ?zql ?zqlo ?zqhi ?zqz (flat_one _ _) ?_; (case zqF => k_asm); (case zqN => k_asm); (case zql => is_list); (case zqlo => (first | lia | omega)); (case zqhi => (first | lia | omega)); (case zqz => (simp only [List.length_cons, List.length_nil]; (first | lia | omega))); k_whole); intro D' h' F' N' l1; (try k_lt l1); (try k_sweep))
        k_with "my call builtin:len" => (k_here; (with_reducible show wpAny _ _ (call (Value.builtin "len") [Value.ref _]) _ _ _); k_dflt (refine' my_len ?zqN ?zqm ?zqk ?zqf ?_; (case zqN => k_asm); (case zqm => k_mem); (case zqk => simp only [List.length_replicate]; first | rfl | exact Int.toNat_of_nonneg (by assumption)); (case zqf => first | decide | (first | lia | omega)); k_whole; intro _ _))
        k_with "my setItem ref int" => (k_here; k_dflt (refine' my_set ?zqF ?zqN ?zqU ?zqk0 ?zqk1 ?zqk2 ?_; (case zqF => k_asm); (case zqN => k_asm); (case zqU => k_upd); (case zqk0 => (first | lia | omega)); (case zqk1 => (simp only [List.length_append, List.length_cons, List.length_nil]; (first | lia | omega))); (case zqk2 => (first | lia | omega)); k_whole; intro h' F' N'; (try k_sweep)))
        k_with "ite" => (with_reducible refine ite_pos hLR ?_)
        intro dp un gd cn cs a ccd cl outer A₀ base h₀ L m s Q E loose mean mg mb B F X N T C1 C2 hk hd hu hret
        refine wpAny_call ?_
        k_dflt (refine' code_nest ?k1 ?k2 ?k3 ?k4 ?k5 ?kA ?kF ?kK ?k6 ?k7 ?k8 ?k9 ?kB ?_ ?c2 ?c3 ?c4 ?c5; (case kA => exact rfl); (case kF => exact rfl); (case kK => assumption); (case k1 => k_asm); (case k2 => k_asm); (case k3 => k_asm); (case k4 => k_asm); (case k5 => k_asm); (case k6 => k_mem); (case k7 => exact codeRec_news (by k_asm) (by k_mem) (by assumption) (by assumption)); (case k8 => ktr_room); (case k9 => exact BindsTo.of_eq rfl); (case c5 => decide); (case kB => exact locs rfl); (case c2 => exact rfl); (case c3 => exact rfl); (case c4 => exact rfl); k_whole; intro g' L' h' FG' F' N' B' X' T'; (try dsimp only); (try k_lift B'); (try k_fold))
        k_steps
        refine hret _ _ _ _ (by assumption) ?_ ⟨rfl, [Value.int x tx], ?_, rfl⟩
        · rw [← set_mid vpre v0, ← Int.toNat_natCast vpre.length, ← hL]
          k_asm
        · simp only [List.length_cons, List.length_nil, Nat.zero_add, Nat.mul_one] at hx1 ⊢
          rw [digs_one hx0 hx1]
          exact .cons _ _ .nil
      · obtain ⟨m1, m2, rfl, hm1⟩ : ∃ m1 m2, vmid = m1 ++ m2 ∧ m1.length = vmid.length / 2 :=
          ⟨vmid.take (vmid.length / 2), vmid.drop (vmid.length / 2), (List.take_append_drop ..).symm, by rw [List.length_take]; (first | lia | omega)⟩
        rw [List.length_append] at hx1 hR h1 hK ht hb hm1 ⊢
        rw [List.append_assoc]
        obtain ⟨km, s0, sh, l0, l1', u0, u1, hmid, hdig⟩ := I2F.of (b := 0) hn hn2 hx0 hx1 hL hR hm1 (by (first | lia | omega))
        have hLR : ¬ (Li + 1 == Ri) = true := by rw [beq_iff_eq]; (first | lia | omega)
        have g1 : 1 ≤ m1.length := by (first | lia | omega)
        have g2 : m1.length ≤ K := by (first | lia | omega)
        have g3 : vpre.length + m1.length + (m2 ++ vpost).length ≤ 300 := by rw [List.length_append]; (first | lia | omega)
        have g4 : 1 ≤ m2.length := by (first | lia | omega)
        have g5 : m2.length ≤ K := by (first | lia | omega)
        k_with_none
        k_with "my binaryOp RShift int int" => (k_here; (with_reducible refine g_rsh ?zqkb1 ?_); (case zqkb1 => first | assumption | (first | lia | omega)); intro tz9' kz9')
        k_with "my inplaceOp RShift int int" => (k_here; (with_reducible refine g_irsh ?zqkb1 ?_); (case zqkb1 => first | assumption | (first | lia | omega)); intro tz9' kz9')
        k_with "my binaryOp LShift int int" => (k_here; (with_reducible refine g_lsh ?zqkb1 ?zqkb2 ?_); (case zqkb1 => first | assumption | (first | lia | omega)); (case zqkb2 => first | exact shlOk (by assumption) (by (first | lia | omega)) (by first | assumption | (first | lia | omega)) | assumption); intro tz9' kz9')
        k_with "my inplaceOp LShift int int" => (k_here; (with_reducible refine g_ilsh ?zqkb1 ?zqkb2 ?_); (case zqkb1 => first | assumption | (first | lia | omega)); (case zqkb2 => first | exact shlOk (by assumption) (by (first | lia | omega)) (by first | assumption | (first | lia | omega)) | assumption); intro tz9' kz9')
        k_with "my binaryOp Mult int int" => (k_here; (with_reducible refine g_mul ?zqkb1 ?_); (case zqkb1 => assumption); intro tz9' kz9')
        k_with "my inplaceOp Mult int int" => (k_here; (with_reducible refine g_imul ?zqkb1 ?_); (case zqkb1 => assumption); intro tz9' kz9')
        k_with "my binaryOp Add int int" => (k_here; (with_reducible refine g_add ?_); intro tz9' kz9')
        k_with "my binaryOp Sub int int" => (k_here; (with_reducible refine g_sub ?_); intro tz9' kz9')
        k_with "my binaryOp BitAnd int int" => (k_here; (with_reducible refine g_and ?_); intro tz9' kz9')
        k_with "my binaryOp BitOr int int" => (k_here; (with_reducible refine g_or ?_); intro tz9' kz9')
        k_with "my inplaceOp Add int int" => (k_here; (with_reducible refine g_iadd ?_); intro tz9' kz9')
        k_with "my inplaceOp Sub int int" => (k_here; (with_reducible refine g_isub ?_); intro tz9' kz9')
        k_with "my binaryOp FloorDiv int int" => (k_here; (with_reducible refine floordiv_int ?zqkb1 ?_ ?zqkb2); (case zqkb1 => first | assumption | (first | lia | omega)); (case zqkb2 => exact .inl ((by assumption : Near _) _)))
        k_with "my call builtin:divmod" => (k_here; k_dflt (refine' my_divmod ?zqF ?zqN ?zqb ?zqp ?_; (case zqF => k_asm); (case zqN => k_asm); (case zqb => first | assumption | (first | lia | omega)); (case zqp => assumption); k_whole; intro D' h' t1' t2' tk' F' N' hlt'; (try k_sweep)))
        k_with "my binaryOp Mult ref int" => (k_here; (with_reducible show wpAny _ _ (binaryOp Operator.Mult (Value.ref _) (Value.int _ _)) _ _ _); k_dflt (refine' KMa.mul ?zqF ?zqN ?zql ?zqlo ?zqhi ?zqz (flat_one _ _) ?_; (case zqF => k_asm); (case zqN => k_asm); (case zql => is_list); (case zqlo => (first | lia | omega)); (case zqhi => (first | lia | omega)); (case zqz => (simp only [List.length_cons, List.length_nil]; (first | lia | omega))); k_whole); intro D' h' F' N' l1; (try k_lt l1); (try k_sweep))
        k_with "my call builtin:len" => (k_here; (with_reducible show wpAny _ _ (call (Value.builtin "len") [Value.ref _]) _ _ _); k_dflt (refine' my_len ?zqN ?zqm ?zqk ?zqf ?_; (case zqN => k_asm); (case zqm => k_mem); (case zqk => simp only [List.length_replicate]; first | rfl | exact Int.toNat_of_nonneg (by assumption)); (case zqf => first | decide | (first | lia | omega)); k_whole; intro _ _))
        k_with "my setItem ref int" => (k_here; k_dflt (refine' my_set ?zqF ?zqN ?zqU ?zqk0 ?zqk1 ?zqk2 ?_; (case zqF => k_asm); (case zqN => k_asm); (case zqU => k_upd); (case zqk0 => (first | lia | omega)); (case zqk1 => (simp only [List.length_append, List.length_cons, List.length_nil]; (first | lia | omega))); (case zqk2 => (first | lia | omega)); k_whole; intro h' F' N'; (try k_sweep)))
        k_with "ite" => (with_reducible refine ite_neg hLR ?_)
        k_with "call ref" => (k_here; k_dflt (refine' Ctr.v1_1 (ih _ _ _ _ _ _ vpre m1 (m2 ++ vpost) ?p1 ?p2 ?p3 ?p4 ?p5 ?p6 ?p7) ?cB ?cF ?cX ?cN ?cT ?cC1 ?cC2 ?ck ?cd ?cu ?_; (case cB => k_asm); (case cF => k_asm); (case cX => k_asm); (case cN => first | k_asm | (simp only [List.append_assoc, List.nil_append, List.append_nil]; k_asm)); (case cT => k_asm); (case cC1 => k_asm); (case cC2 => k_asm); (case ck => first | exact rfl | assumption); (case cd => ktr_room); (case cu => ktr_units); (case p1 => assumption); (case p2 => assumption); (case p3 => assumption); (case p4 => assumption); (case p5 => assumption); (case p6 => assumption); (case p7 => assumption); intro vd1 hvd1 h9 tk9 F9 N9; have j1 := hvd1.length; rw [digs_len] at j1; (try dsimp only); (try k_sweep); (try k_fold)))
        k_with "call ref" => (k_here; k_dflt (refine' Ctr.v1_1 (ih _ _ _ _ _ _ (vpre ++ vd1) m2 vpost ?p1 ?p2 ?p3 ?p4 ?p5 ?p6 ?p7) ?cB ?cF ?cX ?cN ?cT ?cC1 ?cC2 ?ck ?cd ?cu ?_; (case cB => k_asm); (case cF => k_asm); (case cX => k_asm); (case cN => first | k_asm | (simp only [List.append_assoc, List.nil_append, List.append_nil]; k_asm)); (case cT => k_asm); (case cC1 => k_asm); (case cC2 => k_asm); (case ck => first | exact rfl | assumption); (case cd => ktr_room); (case cu => ktr_units); (case p1 => assumption); (case p2 => assumption); (case p3 => (rw [List.length_append, j1]; rw [hmid]; (first | lia | omega))); (case p4 => (rw [List.length_append, j1]; (first | lia | omega))); (case p5 => assumption); (case p6 => assumption); (case p7 => (rw [List.length_append]; (first | lia | omega))); intro vd2 hvd2 h9 tk9 F9 N9; (try dsimp only); (try k_sweep); (try k_fold)))
        intro dp un gd cn cs a ccd cl outer A₀ base h₀ L m s Q E loose mean mg mb B F X N T C1 C2 hk hd hu hret
        refine wpAny_call ?_
        k_dflt (refine' code_nest ?k1 ?k2 ?k3 ?k4 ?k5 ?kA ?kF ?kK ?k6 ?k7 ?k8 ?k9 ?kB ?_ ?c2 ?c3 ?c4 ?c5; (case kA => exact rfl); (case kF => exact rfl); (case kK => assumption); (case k1 => k_asm); (case k2 => k_asm); (case k3 => k_asm); (case k4 => k_asm); (case k5 => k_asm); (case k6 => k_mem); (case k7 => exact codeRec_news (by k_asm) (by k_mem) (by assumption) (by assumption)); (case k8 => ktr_room); (case k9 => exact BindsTo.of_eq rfl); (case c5 => decide); (case kB => exact locs rfl); (case c2 => exact rfl); (case c3 => exact rfl); (case c4 => exact rfl); k_whole; intro g' L' h' FG' F' N' B' X' T'; (try dsimp only); (try k_lift B'); (try k_fold))
        k_steps
        refine hret _ _ _ _ (by assumption) ?_ ⟨rfl, vd1 ++ vd2, ?_, rfl⟩
        · rw [List.append_assoc, ← List.append_assoc vpre]
          k_asm
        · rw [hdig]
          exact ints_app hvd1 hvd2
  intro claim
  k_with_none
  k_with "my binaryOp RShift int int" => (k_here; (with_reducible refine g_rsh ?zqkb1 ?_); (case zqkb1 => first | assumption | (first | lia | omega)); intro tz9' kz9')
  k_with "my inplaceOp RShift int int" => (k_here; (with_reducible refine g_irsh ?zqkb1 ?_); (case zqkb1 => first | assumption | (first | lia | omega)); intro tz9' kz9')
  k_with "my binaryOp LShift int int" => (k_here; (with_reducible refine g_lsh ?zqkb1 ?zqkb2 ?_); (case zqkb1 => first | assumption | (first | lia | omega)); (case zqkb2 => first | exact shlOk (by assumption) (by (first | lia | omega)) (by first | assumption | (first | lia | omega)) | assumption); intro tz9' kz9')
  k_with "my inplaceOp LShift int int" => (k_here; (with_reducible refine g_ilsh ?zqkb1 ?zqkb2 ?_); (case zqkb1 => first | assumption | (first | lia | omega)); (case zqkb2 => first | exact shlOk (by assumption) (by (first | lia | omega)) (by first | assumption | (first | lia | omega)) | assumption); intro tz9' kz9')
  k_with "my binaryOp Mult int int" => (k_here; (with_reducible refine g_mul ?zqkb1 ?_); (case zqkb1 => assumption); intro tz9' kz9')
  k_with "my inplaceOp Mult int int" => (k_here; (with_reducible refine g_imul ?zqkb1 ?_); (case zqkb1 => assumption); intro tz9' kz9')
  k_with "my binaryOp Add int int" => (k_here; (with_reducible refine g_add ?_); intro tz9' kz9')
  k_with "my binaryOp Sub int int" => (k_here; (with_reducible refine g_sub ?_); intro tz9' kz9')
  k_with "my binaryOp BitAnd int int" => (k_here; (with_reducible refine g_and ?_); intro tz9' kz9')
  k_with "my binaryOp BitOr int int" => (k_here; (with_reducible refine g_or ?_); intro tz9' kz9')
  k_with "my inplaceOp Add int int" => (k_here; (with_reducible refine g_iadd ?_); intro tz9' kz9')
  k_with "my inplaceOp Sub int int" => (k_here; (with_reducible refine g_isub ?_); intro tz9' kz9')
  k_with "my binaryOp FloorDiv int int" => (k_here; (with_reducible refine floordiv_int ?zqkb1 ?_ ?zqkb2); (case zqkb1 => first | assumption | (first | lia | omega)); (case zqkb2 => exact .inl ((by assumption : Near _) _)))
  k_with "my call builtin:divmod" => (k_here; k_dflt (refine' my_divmod ?zqF ?zqN ?zqb ?zqp ?_; (case zqF => k_asm); (case zqN => k_asm); (case zqb => first | assumption | (first | lia | omega)); (case zqp => assumption); k_whole; intro D' h' t1' t2' tk' F' N' hlt'; (try k_sweep)))
  k_with "my binaryOp Mult ref int" => (k_here; (with_reducible show wpAny _ _ (binaryOp Operator.Mult (Value.ref _) (Value.int _ _)) _ _ _); k_dflt (refine' KMa.mul ?zqF ?zqN ?zql ?zqlo ?zqhi ?zqz (flat_one _ _) ?_; (case zqF => k_asm); (case zqN => k_asm); (case zql => is_list); (case zqlo => (first | lia | omega)); (case zqhi => (first | lia | omega)); (case zqz => (simp only [List.length_cons, List.length_nil]; (first | lia | omega))); k_whole); intro D' h' F' N' l1; (try k_lt l1); (try k_sweep))
  k_with "my call builtin:len" => (k_here; (with_reducible show wpAny _ _ (call (Value.builtin "len") [Value.ref _]) _ _ _); k_dflt (refine' my_len ?zqN ?zqm ?zqk ?zqf ?_; (case zqN => k_asm); (case zqm => k_mem); (case zqk => simp only [List.length_replicate]; first | rfl | exact Int.toNat_of_nonneg (by assumption)); (case zqf => first | decide | (first | lia | omega)); k_whole; intro _ _))
  k_with "my setItem ref int" => (k_here; k_dflt (refine' my_set ?zqF ?zqN ?zqU ?zqk0 ?zqk1 ?zqk2 ?_; (case zqF => k_asm); (case zqN => k_asm); (case zqU => k_upd); (case zqk0 => (first | lia | omega)); (case zqk1 => (simp only [List.length_append, List.length_cons, List.length_nil]; (first | lia | omega))); (case zqk2 => (first | lia | omega)); k_whole; intro h' F' N'; (try k_sweep)))
  k_with "call ref" => (k_here; k_dflt (refine' Ctr.v1_1 (claim K0 _ _ _ _ _ _ [] (List.replicate (((Builtin.Int.intBits a0 : Int) + n - 1).fdiv n).toNat _) [] ?p1 ?p2 ?p3 ?p4 ?p5 ?p6 ?p7) ?cB ?cF ?cX ?cN ?cT ?cC1 ?cC2 ?ck ?cd ?cu ?_; (case cB => k_asm); (case cF => k_asm); (case cX => k_asm); (case cN => first | k_asm | (simp only [List.append_assoc, List.nil_append, List.append_nil]; k_asm)); (case cT => k_asm); (case cC1 => k_asm); (case cC2 => k_asm); (case ck => first | exact rfl | assumption); (case cd => ktr_room); (case cu => ktr_units); (case p1 => assumption); (case p2 => (rw [List.length_replicate, hKt]; assumption)); (case p3 => rfl); (case p4 => (rw [List.length_replicate, hKt]; simp only [List.length_nil]; (first | lia | omega))); (case p5 => (rw [List.length_replicate, hKt]; exact hK5 (by assumption))); (case p6 => (rw [List.length_replicate, hKt]; exact Nat.le_refl _)); (case p7 => (rw [List.length_replicate, hKt]; simp only [List.length_nil]; (first | lia | omega))); intro vd1 hvd1 h9 tk9 F9 N9; (try dsimp only); (try k_sweep); (try k_fold)))
  all_goals k_steps
  · have hv : IntsAre vd1 (digs n.toNat K0 a0) := by rwa [List.length_replicate, hKt] at hvd1
    refine hret _ _ _ _ (by assumption) (kst_newsOf (by assumption) ?_) ⟨_, _, vd1, rfl, .old (c := c') dv1 (by with_unfolding_all exact dv2), hap', hv, rfl⟩
    intro p hp
    rcases List.mem_cons.mp hp with rfl | hp
    · (try simp only [List.append_nil, List.nil_append]); k_mem
    rcases List.mem_cons.mp hp with rfl | hp
    · k_mem
    rcases List.mem_cons.mp hp with rfl | hp
    · k_mem
    (repeat (first | exact hp | refine List.Mem.tail _ ?_))
  · have hz : a0 = 0 := by assumption
    refine hret _ _ _ _ (by assumption) (kst_newsOf (by assumption) ?_) ⟨_, _, List.replicate (((Builtin.Int.intBits a0 : Int) + n - 1).fdiv n).toNat (Value.int 0 tk'), rfl, .old (c := c') dv1 (by with_unfolding_all exact dv2), hap', ?_, rfl⟩
    rotate_left
    · rw [hKt, hK4 hz]
      exact .nil
    · intro p hp
      rcases List.mem_cons.mp hp with rfl | hp
      · (try simp only [List.append_nil, List.nil_append]); k_mem
      rcases List.mem_cons.mp hp with rfl | hp
      · k_mem
      rcases List.mem_cons.mp hp with rfl | hp
      · k_mem
      (repeat (first | exact hp | refine List.Mem.tail _ ?_))
end Mine
-- part E2
namespace Mine

local macro_rules | `(tactic| k_mem) => `(tactic| assumption)
local macro_rules | `(tactic| k_all) => `(tactic| first | assumption | exact rest_ne (by assumption) (by omega))
theorem d42 (w : World) (DL : Addr) (ep : Nat) (vd : List Value) (ns : List Int) (n : Int) (tn : Tok) (tl rest : List (Addr × Obj)) (hst : TabSt 37 47 4 (Str.ofString "_digits2int.<locals>.inner") tl) (hap : Apart tl rest) (hn : 0 < n) (hn2 : n ≤ 10000)
    (hD : (DL, listOf vd.toArray ep) ∈ rest) (hi : IntsAre vd ns) (hb : ∀ d ∈ ns, 0 ≤ d ∧ d < 2 ^ n.toNat) (hlen : ns.length ≤ 250) :
    Ctr w 42 [.ref DL, .int n tn] 300 3500 (tl ++ rest) (fun r led' => ∃ tl' t, r = .int (undig n.toNat ns) t ∧ TabSt 37 47 4 (Str.ofString "_digits2int.<locals>.inner") tl' ∧ Apart tl' rest ∧ led' = tl' ++ rest) := by
  have hvl := hi.length
  unfold Ctr; k_fill
  intro dp un gd cn cs a ccd cl outer A₀ base h₀ L m s Q E loose mean mg mb B F X N T C1 C2 hk hd hu hret
  obtain ⟨hp9, gn9, dr9, tk9, os9⟩ := s
  w_on
  w_top on
  k_with_none
  k_with "my binaryOp RShift int int" => (k_here; (with_reducible refine g_rsh ?zqkb1 ?_); (case zqkb1 => first | assumption | (first | lia | omega)); intro tz9' kz9')
  k_with "my inplaceOp RShift int int" => (k_here; (with_reducible refine g_irsh ?zqkb1 ?_); (case zqkb1 => first | assumption | (first | lia | omega)); intro tz9' kz9')
  k_with "my binaryOp LShift int int" => (k_here; (with_reducible refine g_lsh ?zqkb1 ?zqkb2 ?_); (case zqkb1 => first | assumption | (first | lia | omega)); (case zqkb2 => first | exact shlOk (by assumption) (by (first | lia | omega)) (by first | assumption | (first | lia | omega)) | assumption); intro tz9' kz9')
  k_with "my inplaceOp LShift int int" => (k_here; (with_reducible refine g_ilsh ?zqkb1 ?zqkb2 ?_); (case zqkb1 => first | assumption | (first | lia | omega)); (case zqkb2 => first | exact shlOk (by assumption) (by (first | lia | omega)) (by first | assumption | (first | lia | omega)) | assumption); intro tz9' kz9')
  k_with "my binaryOp Mult int int" => (k_here; (with_reducible refine g_mul ?zqkb1 ?_); (case zqkb1 => assumption); intro tz9' kz9')
  k_with "my inplaceOp Mult int int" => (k_here; (with_reducible refine g_imul ?zqkb1 ?_); (case zqkb1 => assumption); intro tz9' kz9')
  k_with "my binaryOp Add int int" => (k_here; (with_reducible refine g_add ?_); intro tz9' kz9')
  k_with "my binaryOp Sub int int" => (k_here; (with_reducible refine g_sub ?_); intro tz9' kz9')
  k_with "my binaryOp BitAnd int int" => (k_here; (with_reducible refine g_and ?_); intro tz9' kz9')
  k_with "my binaryOp BitOr int int" => (k_here; (with_reducible refine g_or ?_); intro tz9' kz9')
  k_with "my inplaceOp Add int int" => (k_here; (with_reducible refine g_iadd ?_); intro tz9' kz9')
  k_with "my inplaceOp Sub int int" => (k_here; (with_reducible refine g_isub ?_); intro tz9' kz9')
  k_with "my binaryOp FloorDiv int int" => (k_here; (with_reducible refine floordiv_int ?zqkb1 ?_ ?zqkb2); (case zqkb1 => first | assumption | (first | lia | omega)); (case zqkb2 => exact .inl ((by assumption : Near _) _)))
  k_with "my call builtin:divmod" => (k_here; k_dflt (refine' my_divmod ?zqF ?zqN ?zqb ?zqp ?_; (case zqF => k_asm); (case zqN => k_asm); (case zqb => first | assumption | (first | lia | omega)); (case zqp => assumption); k_whole; intro D' h' t1' t2' tk' F' N' hlt'; (try k_sweep)))
  k_with "my call builtin:len" => (k_here; (with_reducible show wpAny _ _ (call (Value.builtin "len") [Value.ref _]) _ _ _); k_dflt (refine' my_len ?zqN ?zqm ?zqk ?zqf ?_; (case zqN => k_asm); (case zqm => k_mem); (case zqk => rfl); (case zqf => first | decide | (first | lia | omega)); k_whole; intro _ _))
  k_with "my truthy ref" => (k_here; (with_reducible show wpAny _ _ (truthy (Value.ref _)) _ _ _); k_dflt (refine' my_truthy ?zqN ?zqm ?zqf ?_ ?_; (case zqN => k_asm); (case zqm => k_mem); (case zqf => (first | lia | omega)); (all_goals intro hne9 tk9; try dsimp only)))
  refine wpAny_call ?_
  k_dflt (refine' code_defC ?k1 ?k2 ?k3 ?k4 ?k5 ?kA ?kF ?kK ?k6 ?k7 ?k8 ?k9 ?kB ?kD ?_ ?c2 ?c3 ?c4; (case kA => exact rfl); (case kF => exact rfl); (case kK => assumption); (case k1 => k_asm); (case k2 => k_asm); (case k3 => k_asm); (case k4 => k_asm); (case k5 => k_asm); (case k6 => k_is); (case k7 => k_is); (case k8 => ktr_room); (case k9 => exact BindsTo.of_eq rfl); (case kB => exact rfl); (case kD => decide +kernel); (case c2 => exact rfl); (case c3 => exact rfl); (case c4 => exact rfl); k_whole; intro g' L' h' tk' cells' FG' F' N' Y' B' X' T' l1; (try k_lt l1); k_cells Y'; (try simp only [List.cons_append, List.nil_append] at N'); (try dsimp only); (try k_lift B'); (try k_fold))
  have hr0 : AllLt L' (tl ++ rest) := by first | exact l1 | exact allLt_of l1
  obtain ⟨hrt, hrr⟩ := allLt_app.mp hr0
  have h37 : (37 : Nat) < L' := by
    cases hst with
    | new => exact hrt.1
    | old _ _ => exact hrt.1
  k_steps
  (k_dflt (refine' nestDef_K ?d0 ?k0 ?a0 ?_; (case d0 => exact rfl); (case k0 => exact rfl); (case a0 => exact rfl)))
  k_dflt (refine' my_nest (own1 := [_, _, _]) (tl := tl) (rest := rest) ?F ?N ?T ?C ?cd hst ?hq rfl rfl hrt ?ne hap ?lo ?hit ?tr ?cl ?_)
  case F => k_asm
  case N => k_asm
  case T => k_asm
  case C => kn_code
  case cd => exact rfl
  case hq => with_unfolding_all rfl
  case ne => w_strict k_all
  case lo => (simp only [AllGt, and_true]; (first | lia | omega))
  case hit => intro c'; kn_hit
  case tr => intro c'; kn_triples
  case cl => exact rfl
  intro f c' oc vs t ctv doc h' tk F' N' dv1 dv2 lf lc l2 lL hap'
  simp only [List.cons_append, List.nil_append] at N'
  simp only [AllLt, AllNe, and_true] at lf lc
  k_steps
  refine' i3_start (w := w) (n := n) (f := f) (ns := ns) ?N ?claim ?_
  case N => k_asm
  case claim =>
    intro K
    induction K with
    | zero => intro Li Ri tl tr pre mid post hns hL hR h1 hK; (first | lia | omega)
    | succ K ih =>
      clear hret
      intro Li Ri tl tr pre mid post hns hL hR h1 hK
      have hlen' := hlen
      rw [hns, List.length_append, List.length_append] at hlen'
      by_cases hb1 : mid.length = 1
      · obtain ⟨d0, rfl⟩ : ∃ d0, mid = [d0] := by
          match mid, hb1 with
          | [d0], _ => exact ⟨d0, rfl⟩
        obtain ⟨t0, ht0⟩ := get_mid hi hns
        have ht1 : vd[Li.toNat]? = some (.int d0 t0) := by rw [hL, Int.toNat_natCast]; exact ht0
        have hL0 : 0 ≤ Li := by (first | lia | omega)
        have hL1 : Li < 2 ^ 63 := by (first | lia | omega)
        have hLR : (Li + 1 == Ri) = true := by simp only [List.length_cons, List.length_nil] at hR; rw [beq_iff_eq]; (first | lia | omega)
        k_with_none
        k_with "my binaryOp RShift int int" => (k_here; (with_reducible refine g_rsh ?zqkb1 ?_); (case zqkb1 => first | assumption | (first | lia | omega)); intro tz9' kz9')
        k_with "my inplaceOp RShift int int" => (k_here; (with_reducible refine g_irsh ?zqkb1 ?_); (case zqkb1 => first | assumption | (first | lia | omega)); intro tz9' kz9')
        k_with "my binaryOp LShift int int" => (k_here; (with_reducible refine g_lsh ?zqkb1 ?zqkb2 ?_); (case zqkb1 => first | assumption | (first | lia | omega)); (case zqkb2 => first | exact shlOk (by assumption) (by (first | lia | omega)) (by first | assumption | (first | lia | omega)) | assumption); intro tz9' kz9')
        k_with "my inplaceOp LShift int int" => (k_here; (with_reducible refine g_ilsh ?zqkb1 ?zqkb2 ?_); (case zqkb1 => first | assumption | (first | lia | omega)); (case zqkb2 => first | exact shlOk (by assumption) (by (first | lia | omega)) (by first | assumption | (first | lia | omega)) | assumption); intro tz9' kz9')
        k_with "my binaryOp Mult int int" => (k_here; (with_reducible refine g_mul ?zqkb1 ?_); (case zqkb1 => assumption); intro tz9' kz9')
        k_with "my inplaceOp Mult int int" => (k_here; (with_reducible refine g_imul ?zqkb1 ?_); (case zqkb1 => assumption); intro tz9' kz9')
        k_with "my binaryOp Add int int" => (k_here; (with_reducible refine g_add ?_); intro tz9' kz9')
        k_with "my binaryOp Sub int int" => (k_here; (with_reducible refine g_sub ?_); intro tz9' kz9')
        k_with "my binaryOp BitAnd int int" => (k_here; (with_reducible refine g_and ?_); intro tz9' kz9')
        k_with "my binaryOp BitOr int int" => (k_here; (with_reducible refine g_or ?_); intro tz9' kz9')
        k_with "my inplaceOp Add int int" => (k_here; (with_reducible refine g_iadd ?_); intro tz9' kz9')
        k_with "my inplaceOp Sub int int" => (k_here; (with_reducible refine g_isub ?_); intro tz9' kz9')
        k_with "my binaryOp FloorDiv int int" => (k_here; (with_reducible refine floordiv_int ?zqkb1 ?_ ?zqkb2); (case zqkb1 => first | assumption | (first | lia | omega)); (case zqkb2 => exact .inl ((by assumption : Near _) _)))
        k_with "my call builtin:divmod" => (k_here; k_dflt (refine' my_divmod ?zqF ?zqN ?zqb ?zqp ?_; (case zqF => k_asm); (case zqN => k_asm); (case zqb => first | assumption | (first | lia | omega)); (case zqp => assumption); k_whole; intro D' h' t1' t2' tk' F' N' hlt'; (try k_sweep)))
        k_with "my call builtin:len" => (k_here; (with_reducible show wpAny _ _ (call (Value.builtin "len") [Value.ref _]) _ _ _); k_dflt (refine' my_len ?zqN ?zqm ?zqk ?zqf ?_; (case zqN => k_asm); (case zqm => k_mem); (case zqk => rfl); (case zqf => first | decide | (first | lia | omega)); k_whole; intro _ _))
        k_with "my truthy ref" => (k_here; (with_reducible show wpAny _ _ (truthy (Value.ref _)) _ _ _); k_dflt (refine' my_truthy ?zqN ?zqm ?zqf ?_ ?_; (case zqN => k_asm); (case zqm => k_mem); (case zqf => (first | lia | omega)); (all_goals intro hne9 tk9; try dsimp only)))
        k_with "ite" => (with_reducible refine ite_pos hLR ?_)
        k_with "subscriptTail" => (k_here; k_dflt (refine' my_item ?zN ?zm ?z0 ?z1 ?z2 ?_ ?z3 ?z4; (case zN => k_asm); (case zm => k_mem); (case z0 => assumption); (case z1 => assumption); (case z2 => assumption); (case z3 => with_unfolding_all rfl); (case z4 => (intro _; with_unfolding_all rfl))))
        intro dp un gd cn cs a ccd cl outer A₀ base h₀ L m s Q E loose mean mg mb B F X N T C1 C2 hk hd hu hret
        refine wpAny_call ?_
        k_dflt (refine' code_nest ?k1 ?k2 ?k3 ?k4 ?k5 ?kA ?kF ?kK ?k6 ?k7 ?k8 ?k9 ?kB ?_ ?c2 ?c3 ?c4 ?c5; (case kA => exact rfl); (case kF => exact rfl); (case kK => assumption); (case k1 => k_asm); (case k2 => k_asm); (case k3 => k_asm); (case k4 => k_asm); (case k5 => k_asm); (case k6 => k_mem); (case k7 => exact codeRec_news (by k_asm) (by k_mem) (by assumption) (by assumption)); (case k8 => ktr_room); (case k9 => exact BindsTo.of_eq rfl); (case c5 => decide); (case kB => exact locs rfl); (case c2 => exact rfl); (case c3 => exact rfl); (case c4 => exact rfl); k_whole; intro g' L' h' FG' F' N' B' X' T'; (try dsimp only); (try k_lift B'); (try k_fold))
        k_steps
        refine hret _ _ _ _ (by assumption) (by assumption) ⟨t0, ?_, rfl⟩
        simp only [undig, Int.mul_zero, Int.add_zero]
      · obtain ⟨m1, m2, rfl, hm1⟩ : ∃ m1 m2, mid = m1 ++ m2 ∧ m1.length = mid.length / 2 :=
          ⟨mid.take (mid.length / 2), mid.drop (mid.length / 2), (List.take_append_drop ..).symm, by rw [List.length_take]; (first | lia | omega)⟩
        rw [List.length_append] at hR h1 hK hb1 hm1 hlen'
        rw [List.append_assoc] at hns
        obtain ⟨km, s0, sh, hmid, hdig⟩ := I3F.of (m1 := m1) (m2 := m2) hn hn2 hL hR hm1 (by (first | lia | omega)) (fun d hd => hb d (by rw [hns]; simp only [List.mem_append]; exact .inr (.inr (.inl hd))))
        have hLR : ¬ (Li + 1 == Ri) = true := by rw [beq_iff_eq]; (first | lia | omega)
        have hns2 : ns = (pre ++ m1) ++ (m2 ++ post) := by rw [hns, List.append_assoc]
        have g1 : 1 ≤ m1.length := by (first | lia | omega)
        have g2 : m1.length ≤ K := by (first | lia | omega)
        have g4 : 1 ≤ m2.length := by (first | lia | omega)
        have g5 : m2.length ≤ K := by (first | lia | omega)
        k_with_none
        k_with "my binaryOp RShift int int" => (k_here; (with_reducible refine g_rsh ?zqkb1 ?_); (case zqkb1 => first | assumption | (first | lia | omega)); intro tz9' kz9')
        k_with "my inplaceOp RShift int int" => (k_here; (with_reducible refine g_irsh ?zqkb1 ?_); (case zqkb1 => first | assumption | (first | lia | omega)); intro tz9' kz9')
        k_with "my binaryOp LShift int int" => (k_here; (with_reducible refine g_lsh ?zqkb1 ?zqkb2 ?_); (case zqkb1 => first | assumption | (first | lia | omega)); (case zqkb2 => first | exact shlOk (by assumption) (by (first | lia | omega)) (by first | assumption | (first | lia | omega)) | assumption); intro tz9' kz9')
        k_with "my inplaceOp LShift int int" => (k_here; (with_reducible refine g_ilsh ?zqkb1 ?zqkb2 ?_); (case zqkb1 => first | assumption | (first | lia | omega)); (case zqkb2 => first | exact shlOk (by assumption) (by (first | lia | omega)) (by first | assumption | (first | lia | omega)) | assumption); intro tz9' kz9')
        k_with "my binaryOp Mult int int" => (k_here; (with_reducible refine g_mul ?zqkb1 ?_); (case zqkb1 => assumption); intro tz9' kz9')
        k_with "my inplaceOp Mult int int" => (k_here; (with_reducible refine g_imul ?zqkb1 ?_); (case zqkb1 => assumption); intro tz9' kz9')
        k_with "my binaryOp Add int int" => (k_here; (with_reducible refine g_add ?_); intro tz9' kz9')
        k_with "my binaryOp Sub int int" => (k_here; (with_reducible refine g_sub ?_); intro tz9' kz9')
        k_with "my binaryOp BitAnd int int" => (k_here; (with_reducible refine g_and ?_); intro tz9' kz9')
        k_with "my binaryOp BitOr int int" => (k_here; (with_reducible refine g_or ?_); intro tz9' kz9')
        k_with "my inplaceOp Add int int" => (k_here; (with_reducible refine g_iadd ?_); intro tz9' kz9')
        k_with "my inplaceOp Sub int int" => (k_here; (with_reducible refine g_isub ?_); intro tz9' kz9')
        k_with "my binaryOp FloorDiv int int" => (k_here; (with_reducible refine floordiv_int ?zqkb1 ?_ ?zqkb2); (case zqkb1 => first | assumption | (first | lia | omega)); (case zqkb2 => exact .inl ((by assumption : Near _) _)))
        k_with "my call builtin:divmod" => (k_here; k_dflt (refine' my_divmod ?zqF ?zqN ?zqb ?zqp ?_; (case zqF => k_asm); (case zqN => k_asm); (case zqb => first | assumption | (first | lia | omega)); (case zqp => assumption); k_whole; intro D' h' t1' t2' tk' F' N' hlt'; (try k_sweep)))
        k_with "my call builtin:len" => (k_here; (with_reducible show wpAny _ _ (call (Value.builtin "len") [Value.ref _]) _ _ _); k_dflt (refine' my_len ?zqN ?zqm ?zqk ?zqf ?_; (case zqN => k_asm); (case zqm => k_mem); (case zqk => rfl); (case zqf => first | decide | (first | lia | omega)); k_whole; intro _ _))
        k_with "my truthy ref" => (k_here; (with_reducible show wpAny _ _ (truthy (Value.ref _)) _ _ _); k_dflt (refine' my_truthy ?zqN ?zqm ?zqf ?_ ?_; (case zqN => k_asm); (case zqm => k_mem); (case zqf => (first | lia | omega)); (all_goals intro hne9 tk9; try dsimp only)))
        k_with "ite" => (with_reducible refine ite_neg hLR ?_)
        k_with "call ref" => (k_here; k_dflt (refine' Ctr.u1_0 (ih _ _ _ _ pre m1 (m2 ++ post) ?p1 ?p2 ?p3 ?p4 ?p5) ?cB ?cF ?cX ?cN ?cT ?cC1 ?cC2 ?ck ?cd ?cu ?_; (case cB => k_asm); (case cF => k_asm); (case cX => k_asm); (case cN => first | k_asm | (simp only [List.append_assoc, List.nil_append, List.append_nil]; k_asm)); (case cT => k_asm); (case cC1 => k_asm); (case cC2 => k_asm); (case ck => first | exact rfl | assumption); (case cd => ktr_room); (case cu => ktr_units); (case p1 => assumption); (case p2 => assumption); (case p3 => assumption); (case p4 => assumption); (case p5 => assumption); intro t9 h9 tk9 F9 N9; (try dsimp only); (try k_sweep); (try k_fold)))
        k_with "call ref" => (k_here; k_dflt (refine' Ctr.u1_0 (ih _ _ _ _ (pre ++ m1) m2 post ?p1 ?p2 ?p3 ?p4 ?p5) ?cB ?cF ?cX ?cN ?cT ?cC1 ?cC2 ?ck ?cd ?cu ?_; (case cB => k_asm); (case cF => k_asm); (case cX => k_asm); (case cN => first | k_asm | (simp only [List.append_assoc, List.nil_append, List.append_nil]; k_asm)); (case cT => k_asm); (case cC1 => k_asm); (case cC2 => k_asm); (case ck => first | exact rfl | assumption); (case cd => ktr_room); (case cu => ktr_units); (case p1 => assumption); (case p2 => (rw [List.length_append]; rw [hmid]; (first | lia | omega))); (case p3 => (rw [List.length_append]; (first | lia | omega))); (case p4 => assumption); (case p5 => assumption); intro t9 h9 tk9 F9 N9; (try dsimp only); (try k_sweep); (try k_fold)))
        intro dp un gd cn cs a ccd cl outer A₀ base h₀ L m s Q E loose mean mg mb B F X N T C1 C2 hk hd hu hret
        refine wpAny_call ?_
        k_dflt (refine' code_nest ?k1 ?k2 ?k3 ?k4 ?k5 ?kA ?kF ?kK ?k6 ?k7 ?k8 ?k9 ?kB ?_ ?c2 ?c3 ?c4 ?c5; (case kA => exact rfl); (case kF => exact rfl); (case kK => assumption); (case k1 => k_asm); (case k2 => k_asm); (case k3 => k_asm); (case k4 => k_asm); (case k5 => k_asm); (case k6 => k_mem); (case k7 => exact codeRec_news (by k_asm) (by k_mem) (by assumption) (by assumption)); (case k8 => ktr_room); (case k9 => exact BindsTo.of_eq rfl); (case c5 => decide); (case kB => exact locs rfl); (case c2 => exact rfl); (case c3 => exact rfl); (case c4 => exact rfl); k_whole; intro g' L' h' FG' F' N' B' X' T'; (try dsimp only); (try k_lift B'); (try k_fold))
        k_steps
        --END
        rw [← hdig] at hret
        exact hret _ _ _ _ (by assumption) (by assumption) ⟨_, rfl, rfl⟩
  intro claim
  k_with_none
  k_with "my binaryOp RShift int int" => (k_here; (with_reducible refine g_rsh ?zqkb1 ?_); (case zqkb1 => first | assumption | (first | lia | omega)); intro tz9' kz9')
  k_with "my inplaceOp RShift int int" => (k_here; (with_reducible refine g_irsh ?zqkb1 ?_); (case zqkb1 => first | assumption | (first | lia | omega)); intro tz9' kz9')
  k_with "my binaryOp LShift int int" => (k_here; (with_reducible refine g_lsh ?zqkb1 ?zqkb2 ?_); (case zqkb1 => first | assumption | (first | lia | omega)); (case zqkb2 => first | exact shlOk (by assumption) (by (first | lia | omega)) (by first | assumption | (first | lia | omega)) | assumption); intro tz9' kz9')
  k_with "my inplaceOp LShift int int" => (k_here; (with_reducible refine g_ilsh ?zqkb1 ?zqkb2 ?_); (case zqkb1 => first | assumption | (first | lia | omega)); (case zqkb2 => first | exact shlOk (by assumption) (by (first | lia | omega)) (by first | assumption | (first | lia | omega)) | assumption); intro tz9' kz9')
  k_with "my binaryOp Mult int int" => (k_here; (with_reducible refine g_mul ?zqkb1 ?_); (case zqkb1 => assumption); intro tz9' kz9')
  k_with "my inplaceOp Mult int int" => (k_here; (with_reducible refine g_imul ?zqkb1 ?_); (case zqkb1 => assumption); intro tz9' kz9')
  k_with "my binaryOp Add int int" => (k_here; (with_reducible refine g_add ?_); intro tz9' kz9')
  k_with "my binaryOp Sub int int" => (k_here; (with_reducible refine g_sub ?_); intro tz9' kz9')
  k_with "my binaryOp BitAnd int int" => (k_here; (with_reducible refine g_and ?_); intro tz9' kz9')
  k_with "my binaryOp BitOr int int" => (k_here; (with_reducible refine g_or ?_); intro tz9' kz9')
  k_with "my inplaceOp Add int int" => (k_here; (with_reducible refine g_iadd ?_); intro tz9' kz9')
  k_with "my inplaceOp Sub int int" => (k_here; (with_reducible refine g_isub ?_); intro tz9' kz9')
  k_with "my binaryOp FloorDiv int int" => (k_here; (with_reducible refine floordiv_int ?zqkb1 ?_ ?zqkb2); (case zqkb1 => first | assumption | (first | lia | omega)); (case zqkb2 => exact .inl ((by assumption : Near _) _)))
  k_with "my call builtin:divmod" => (k_here; k_dflt (refine' my_divmod ?zqF ?zqN ?zqb ?zqp ?_; (case zqF => k_asm); (case zqN => k_asm); (case zqb => first | assumption | (first | lia | omega)); (case zqp => assumption); k_whole; intro D' h' t1' t2' tk' F' N' hlt'; (try k_sweep)))
  k_with "my call builtin:len" => (k_here; (with_reducible show wpAny _ _ (call (Value.builtin "len") [Value.ref _]) _ _ _); k_dflt (refine' my_len ?zqN ?zqm ?zqk ?zqf ?_; (case zqN => k_asm); (case zqm => k_mem); (case zqk => rfl); (case zqf => first | decide | (first | lia | omega)); k_whole; intro _ _))
  k_with "my truthy ref" => (k_here; (with_reducible show wpAny _ _ (truthy (Value.ref _)) _ _ _); k_dflt (refine' my_truthy ?zqN ?zqm ?zqf ?_ ?_; (case zqN => k_asm); (case zqm => k_mem); (case zqf => (first | lia | omega)); (all_goals intro hne9 tk9; try dsimp only)))
  k_with "call ref" => (k_here; k_dflt (refine' Ctr.u1_0 (claim ns.length _ _ _ _ [] ns [] ?p1 ?p2 ?p3 ?p4 ?p5) ?cB ?cF ?cX ?cN ?cT ?cC1 ?cC2 ?ck ?cd ?cu ?_; (case cB => k_asm); (case cF => k_asm); (case cX => k_asm); (case cN => first | k_asm | (simp only [List.append_assoc, List.nil_append, List.append_nil]; k_asm)); (case cT => k_asm); (case cC1 => k_asm); (case cC2 => k_asm); (case ck => first | exact rfl | assumption); (case cd => ktr_room); (case cu => ktr_units); (case p1 => (rw [List.append_nil]; rfl)); (case p2 => rfl); (case p3 => (rw [hvl]; simp only [List.length_nil]; (first | lia | omega))); (case p4 => (rw [← hvl]; exact List.length_pos_iff.mpr (by assumption))); (case p5 => exact Nat.le_refl _); intro t9 h9 tk9 F9 N9; (try dsimp only); (try k_sweep); (try k_fold)))
  all_goals k_steps
  --END
  · refine hret _ _ _ _ (by assumption) (kst_newsOf (by assumption) ?_) ⟨_, t9, rfl, .old (c := c') dv1 (by with_unfolding_all exact dv2), hap', rfl⟩
    intro p hp
    rcases List.mem_cons.mp hp with rfl | hp
    · k_mem
    rcases List.mem_cons.mp hp with rfl | hp
    · k_mem
    (repeat (first | exact hp | refine List.Mem.tail _ ?_))
  · have hz : vd = [] := by assumption
    have hz2 : ns = [] := List.length_eq_zero_iff.mp (by rw [← hvl, hz]; rfl)
    rw [hz2] at hret
    refine hret _ _ _ _ (by assumption) (kst_newsOf (by assumption) ?_) ⟨_, _, rfl, .old (c := c') dv1 (by with_unfolding_all exact dv2), hap', rfl⟩
    intro p hp
    rcases List.mem_cons.mp hp with rfl | hp
    · k_mem
    rcases List.mem_cons.mp hp with rfl | hp
    · k_mem
    (repeat (first | exact hp | refine List.Mem.tail _ ?_))
end Mine
-- part RL
namespace Mine
open PySem.Calls PySem.Spec
theorem ints_rev : ∀ {vs : List Value} {ns : List Int}, IntsAre vs ns → IntsAre vs.reverse ns.reverse
  | _, _, .nil => .nil
  | _, _, .cons i t h => by
    rw [List.reverse_cons, List.reverse_cons]
    exact ints_app (ints_rev h) (.cons i t .nil)
theorem offI_of {I : Addr} {it : Obj} : ∀ {l : List (Addr × Obj)}, (∀ p ∈ l, p.1 ≠ I) → OffI I it l
  | [], _ => trivial
  | _ :: _, h => ⟨.inl (h _ (.head _)), offI_of fun p hp => h p (.tail _ hp)⟩
section
variable {prog : Program} {w : World} {A : Around} {E : Value → Shared → Prop} {s : Shared} {env : Env} {h₀ : Heap} {x : Str} {body : List Stmt} {Q : Flow → Shared → Prop}
noncomputable def RvM (x y1 y2 : Str) (m₀ : Str → Option Value) (u : Str → Option Value) (rv : Int) (tr : Tok) : Str → Option Value :=
  fun z => if z = x then u x else if z = y1 then u y1 else if z = y2 then some (.int rv tr) else m₀ z
noncomputable def RvEnd (h₀ : Heap) (L : Addr) (x y1 y2 : Str) (m₀ : Str → Option Value) (LedF : List Value → Nat → List (Addr × Obj)) (P : List Int → Int → List Int → Prop) (I : Addr) (it : Obj) (pre : List Int) (s₁ s₂ : Shared) : Prop :=
  ∃ (rv : Int) (tr : Tok) (vq : List Value) (qs : List Int) (ep : Nat) (u : Str → Option Value) (h' : Heap) (tk' : Nat) (m' : Str → Option Value) (news' : List (Addr × Obj)),
    s₂ = { s₁ with heap := h', toks := tk' } ∧ Fr h₀ L h' m' ∧ (∀ z, m' z = RvM x y1 y2 m₀ u rv tr z) ∧ News h₀ L h' news' ∧ (∀ p ∈ (I, it) :: LedF vq ep, p ∈ news') ∧ IntsAre vq qs ∧ P pre rv qs
noncomputable def RvPost (h₀ : Heap) (L : Addr) (x y1 y2 : Str) (m₀ : Str → Option Value) (LedF : List Value → Nat → List (Addr × Obj)) (P : List Int → Int → List Int → Prop) (I : Addr) (it : Obj) (pre : List Int) (s₁ : Shared) (Q : Flow → Shared → Prop) (f : Flow) (s₂ : Shared) : Prop :=
  match f with
  | .ret v => Q (.ret v) s₂
  | .brk => Q .next s₂
  | _ => RvEnd h₀ L x y1 y2 m₀ LedF P I it pre s₁ s₂
theorem rv_end {L : Addr} {y1 y2 : Str} {m₀ m' : Str → Option Value} {LedF : List Value → Nat → List (Addr × Obj)} {P : List Int → Int → List Int → Prop} {I : Addr} {it : Obj} {pre : List Int} {s₁ : Shared} {h' : Heap} {tk' : Nat} {news' : List (Addr × Obj)}
    (rv : Int) (tr : Tok) (vq : List Value) (qs : List Int) (ep : Nat) (u : Str → Option Value) (F : Fr h₀ L h' m') (N : News h₀ L h' news') (hmap : ∀ z, m' z = RvM x y1 y2 m₀ u rv tr z) (hs : ∀ p ∈ (I, it) :: LedF vq ep, p ∈ news') (hi : IntsAre vq qs) (hp : P pre rv qs) :
    RvEnd h₀ L x y1 y2 m₀ LedF P I it pre s₁ { s₁ with heap := h', toks := tk' } := ⟨rv, tr, vq, qs, ep, u, h', tk', m', news', rfl, F, hmap, N, hs, hi, hp⟩
theorem rev_loop2 {ax I : Addr} {vs : List Value} {ns : List Int} {n : Nat} {m₀ : Str → Option Value} (y1 y2 : Str) (LedF : List Value → Nat → List (Addr × Obj)) (P : List Int → Int → List Int → Prop) {rv0 : Int} {tr0 : Tok} {vq0 : List Value} (qs0 : List Int) {ep0 : Nat}
    (hh : A.handled = none) (F : Fr h₀ env.locals s.heap m₀) (N : News h₀ env.locals s.heap ((I, revObj ax ((vs.length : Int) - 1)) :: LedF vq0 ep0)) (hof : ∀ vq ep, ∀ p ∈ LedF vq ep, p.1 ≠ I) (hm : ∀ vq ep, (ax, listOf vs.toArray n) ∈ LedF vq ep) (hi : IntsAre vs ns)
    (hx2 : y2 ≠ x) (h12 : y2 ≠ y1) (h2 : m₀ y2 = some (.int rv0 tr0)) (hq0 : IntsAre vq0 qs0) (hp : P [] rv0 qs0)
    (turn : ∀ (pre post : List Int) (d : Int) (t : Tok) (u : Str → Option Value) (rv : Int) (tr : Tok) (vq : List Value) (qs : List Int) (ep : Nat) (it : Obj) h tk, ns.reverse = pre ++ d :: post → IntsAre vq qs → P pre rv qs → it.cls = .type "list_reverseiterator" →
      Fr h₀ env.locals h (fun z => if z = x then some (.int d t) else if z = y1 then u y1 else if z = y2 then some (.int rv tr) else m₀ z) → News h₀ env.locals h ((I, it) :: LedF vq ep) →
      wpAny (model prog w) A (execs body env) (RvPost h₀ env.locals x y1 y2 m₀ LedF P I it (pre ++ [d]) { s with heap := h, toks := tk } Q) E { s with heap := h, toks := tk })
    (done : ∀ (u : Str → Option Value) (rv : Int) (tr : Tok) (vq : List Value) (qs : List Int) (ep : Nat) h tk, IntsAre vq qs → P ns.reverse rv qs →
      Fr h₀ env.locals h (fun z => if z = x then u x else if z = y1 then u y1 else if z = y2 then some (.int rv tr) else m₀ z) → News h₀ env.locals h (LedF vq ep) → Q .next { s with heap := h, toks := tk }) :
    wpAny (model prog w) A (pyIter (.ref I)) (fun it s₂ => LoopAtV prog w A h₀ env x body Q E it s₂) E s := by
  have main : ∀ (r : List Value) (rs pre : List Int), IntsAre r rs → ns.reverse = pre ++ rs → ∀ (m : Str → Option Value) (u : Str → Option Value) (rv : Int) (tr : Tok) (vq : List Value) (qs : List Int) (ep : Nat), (∀ z, m z = RvM x y1 y2 m₀ u rv tr z) → IntsAre vq qs → P pre rv qs →
      RevRest prog w A E h₀ env x body Q s I (ax, listOf vs.toArray n) r m (LedF vq ep) := by
    intro r
    induction r with
    | nil =>
      intro rs pre hr hns m u rv tr vq qs ep hmz hvq hpp
      cases hr
      rw [List.append_nil] at hns
      refine RevRest.zero fun h tk F' N' => done u rv tr vq qs ep h tk hvq (hns ▸ hpp) ?_ N'
      have e : m = RvM x y1 y2 m₀ u rv tr := funext hmz
      rw [e] at F'
      exact F'
    | cons v r ih =>
      intro rs pre hr hns m u rv tr vq qs ep hmz hvq hpp
      cases hr with
      | cons d t hr' =>
        rename_i rs'
        refine RevRest.succ fun it h tk hc F' N' => ?_
        have e : (fun y => if y = x then some (Value.int d t) else m y) = fun z => if z = x then some (Value.int d t) else if z = y1 then u y1 else if z = y2 then some (.int rv tr) else m₀ z := by
          funext y
          by_cases hy : y = x
          · rw [if_pos hy, if_pos hy]
          · rw [if_neg hy, if_neg hy, hmz y]
            unfold RvM
            rw [if_neg hy]
        rw [e] at F'
        refine wpAny_mono (turn pre rs' d t u rv tr vq qs ep it h tk hns hvq hpp hc F' N') (fun f s₂ p => ?_) fun _ _ e => e
        have fin : RvEnd h₀ env.locals x y1 y2 m₀ LedF P I it (pre ++ [d]) { s with heap := h, toks := tk } s₂ →
            UnrEnd h₀ env.locals { s with heap := h, toks := tk } I it (fun m' n' => (ax, listOf vs.toArray n) ∈ n' ∧ RevRest prog w A E h₀ env x body Q s I (ax, listOf vs.toArray n) r m' n') s₂ := by
          rintro ⟨rv', tr', vq', qs', ep', u', h', tk', m', news', e1, F2, hm2, N2, hs2, hi2, hp2⟩
          refine ⟨h', tk', m', LedF vq' ep', e1, F2, fun p hp => N2 p (hs2 p hp), fun p hp => hof _ _ p hp, hm _ _, ih rs' (pre ++ [d]) hr' (by rw [hns]; simp) m' u' rv' tr' vq' qs' ep' hm2 hi2 hp2⟩
        cases f with
        | ret v => exact p
        | brk => exact p
        | next => exact fin p
        | cont => exact fin p
  refine iter_revUnr hh F N (offI_of fun p hp => hof _ _ p hp) (hm _ _) rfl rfl ?_
  refine main vs.reverse ns.reverse [] (ints_rev hi) rfl m₀ m₀ rv0 tr0 vq0 qs0 ep0 (fun z => ?_) hq0 hp
  unfold RvM
  by_cases h1 : z = x
  · rw [if_pos h1, h1]
  by_cases h3 : z = y1
  · rw [if_neg h1, if_pos h3, h3]
  by_cases h4 : z = y2
  · rw [if_neg h1, if_neg h3, if_pos h4, h4, h2]
  · rw [if_neg h1, if_neg h3, if_neg h4]
end
theorem tabs_apart {P P' : Addr} {l c l' c' : Int} {q q' : Str} {tl tl' : List (Addr × Obj)} {h₀ h : Heap} {L : Addr} {led : List (Addr × Obj)} (t : TabSt P l c q tl) (t' : TabSt P' l' c' q' tl') (hP : P' ≠ P) (hq : q' ≠ q) (N : News h₀ L h led) (h1 : ∀ p ∈ tl, p ∈ led) (h2 : ∀ p ∈ tl', p ∈ led) : Apart tl tl' := by
  have key : ∀ {P : Addr} {l c : Int} {q : Str} {tl : List (Addr × Obj)}, TabSt P l c q tl → ∀ x ∈ tl, (x.1 = P ∧ ∃ ps : Array Value, x.2.data = .fields ps ∧ ∀ u t, ps[1]? ≠ some (.str u t)) ∨ ∃ (vs : Array Value) (t : Tok), x.2.data = .fields vs ∧ vs[1]? = some (.str q t) := by
    intro P l c q tl t x hx
    cases t with
    | new =>
      rw [List.mem_singleton.mp hx]
      exact .inl ⟨rfl, #[], rfl, fun u t e => by simp at e⟩
    | old d1 d2 =>
      rcases List.mem_cons.mp hx with rfl | hx
      · exact .inl ⟨rfl, _, rfl, fun u t e => by simp [rawInt] at e⟩
      · rw [List.mem_singleton.mp hx]
        exact .inr ⟨_, _, d1, d2⟩
  intro x hx y hy e
  have g1 := (N _ (h1 x hx)).1
  have g2 := (N _ (h2 y hy)).1
  rw [e, g1] at g2
  have g3 : x.2 = y.2 := Option.some.inj g2
  rcases key t x hx with ⟨a1, ps, a2, a3⟩ | ⟨vs, u, a2, a3⟩
  · rcases key t' y hy with ⟨b1, ps', b2, b3⟩ | ⟨vs', u', b2, b3⟩
    · exact hP (b1.symm.trans (e.trans a1))
    · rw [← g3, a2] at b2
      cases b2
      exact a3 _ _ b3
  · rcases key t' y hy with ⟨b1, ps', b2, b3⟩ | ⟨vs', u', b2, b3⟩
    · rw [← g3, a2] at b2
      cases b2
      exact b3 _ _ a3
    · rw [← g3, a2] at b2
      cases b2
      rw [a3] at b3
      cases b3
      exact hq rfl
theorem list_apart {P a : Addr} {l c : Int} {q : Str} {tl : List (Addr × Obj)} {vs : List Value} {n : Nat} {h₀ h : Heap} {L : Addr} {led : List (Addr × Obj)} (t : TabSt P l c q tl) (N : News h₀ L h led) (h1 : ∀ p ∈ tl, p ∈ led) (h2 : (a, listOf vs.toArray n) ∈ led) : ∀ x ∈ tl, a ≠ x.1 := by
  intro x hx e
  have g1 := (N _ (h1 x hx)).1
  have g2 := (N _ h2).1
  simp only at g2
  rw [e, g1] at g2
  have g3 := Option.some.inj g2
  have g4 : ∃ vs, x.2.data = .fields vs := by
    cases t with
    | new => rw [List.mem_singleton.mp hx]; exact ⟨_, rfl⟩
    | old d1 d2 =>
      rcases List.mem_cons.mp hx with rfl | hx
      · exact ⟨_, rfl⟩
      · rw [List.mem_singleton.mp hx]; exact ⟨_, d1⟩
  obtain ⟨ws, g4⟩ := g4
  rw [g3] at g4
  cases g4
theorem Apart.cons {tl r : List (Addr × Obj)} {p : Addr × Obj} (h : ∀ x ∈ tl, p.1 ≠ x.1) (h' : Apart tl r) : Apart tl (p :: r) := fun q hq x hx => by
  rcases List.mem_cons.mp hx with rfl | hx
  · exact h q hq
  · exact h' q hq x hx
theorem Apart.app {tl r r' : List (Addr × Obj)} (h : Apart tl r) (h' : Apart tl r') : Apart tl (r ++ r') := fun q hq x hx => by
  rcases List.mem_append.mp hx with hx | hx
  · exact h q hq x hx
  · exact h' q hq x hx
theorem Apart.sub {tl r r' : List (Addr × Obj)} (h : Apart tl r) (hs : ∀ p ∈ r', p ∈ r) : Apart tl r' := fun q hq x hx => h q hq x (hs x hx)
end Mine
namespace Mine
theorem rvm_end {x y1 y2 : Str} {m₀ u : Str → Option Value} {a b c : Value} {e : Option Value} {rv : Int} {tr : Tok} (h1 : y1 ≠ x) (h2 : y2 ≠ x) (h3 : y2 ≠ y1) (ha : a = .int rv tr) :
    ∀ z, (if z = y2 then some a else if z = y1 then some b else if z = x then some c else if z = y1 then u y1 else if z = y2 then e else m₀ z) = RvM x y1 y2 m₀ (fun z => if z = x then some c else some b) rv tr z := by
  intro z
  unfold RvM
  subst ha
  by_cases e2 : z = y2
  · subst e2
    rw [if_pos rfl, if_neg h2, if_neg h3, if_pos rfl]
  by_cases e1 : z = y1
  · subst e1
    rw [if_neg e2, if_pos rfl, if_neg h1, if_pos rfl]; exact (if_neg h1).symm
  by_cases e0 : z = x
  · subst e0
    rw [if_neg e2, if_neg e1, if_pos rfl, if_pos rfl]; exact (if_pos rfl).symm
  · rw [if_neg e2, if_neg e1, if_neg e0, if_neg e1, if_neg e2, if_neg e0]; try rw [if_neg e1]
    try rw [if_neg e2]
noncomputable abbrev DvP (b : Int) (N : Nat) (pre : List Int) (rv : Int) (qs : List Int) : Prop := 0 ≤ rv ∧ rv < b ∧ horner N qs * b + rv = horner N pre ∧ (∀ q ∈ qs, 0 ≤ q ∧ q < 2 ^ N) ∧ qs.length = pre.length
theorem dvp_turn {b : Int} {N : Nat} {pre : List Int} {rv d : Int} {qs : List Int} (hP : DvP b N pre rv qs) (hd : 0 ≤ d ∧ d < 2 ^ N) :
    0 ≤ rv * 2 ^ N + d ∧ rv * 2 ^ N + d < 2 ^ N * b ∧ DvP b N (pre ++ [d]) ((rv * 2 ^ N + d).fmod b) (qs ++ [(rv * 2 ^ N + d).fdiv b]) := by
  obtain ⟨r0, r1, hh, hq, hl⟩ := hP
  have hp := pow_pos' N
  have a0 : 0 ≤ rv * 2 ^ N + d := Int.add_nonneg (Int.mul_nonneg r0 (by (first | lia | omega))) hd.1
  have a1 : rv * 2 ^ N + d < 2 ^ N * b := by
    have h3 : (rv + 1) * 2 ^ N ≤ b * 2 ^ N := Int.mul_le_mul_of_nonneg_right (by (first | lia | omega)) (by (first | lia | omega))
    have h4 : (rv + 1) * 2 ^ N = rv * 2 ^ N + 2 ^ N := by grind
    have h5 : b * 2 ^ N = 2 ^ N * b := Int.mul_comm ..
    (first | lia | omega)
  have hb : 0 < b := by (first | lia | omega)
  have e := Int.mul_fdiv_add_fmod (rv * 2 ^ N + d) b
  have m0 := Int.fmod_nonneg_of_pos (rv * 2 ^ N + d) hb
  have m1 := Int.fmod_lt_of_pos (rv * 2 ^ N + d) hb
  have q0 : 0 ≤ (rv * 2 ^ N + d).fdiv b := by rw [Int.fdiv_eq_ediv_of_nonneg _ (by (first | lia | omega))]; exact Int.ediv_nonneg a0 (by (first | lia | omega))
  have q1 : (rv * 2 ^ N + d).fdiv b < 2 ^ N := by
    have h5 : b * 2 ^ N = 2 ^ N * b := Int.mul_comm ..
    exact Int.lt_of_mul_lt_mul_left (a := b) (by (first | lia | omega)) (by (first | lia | omega))
  refine ⟨a0, a1, m0, m1, ?_, ?_, ?_⟩
  · rw [horner_snoc, horner_snoc, ← hh]
    grind
  · intro q hq'
    rcases List.mem_append.mp hq' with h | h
    · exact hq q h
    · rw [List.mem_singleton.mp h]; exact ⟨q0, q1⟩
  · rw [List.length_append, List.length_append, hl]; rfl
end Mine
namespace Mine
open PySem.Calls PySem.Spec
section
variable {prog : Program} {w : World} {A : Around} {E : Value → Shared → Prop} {s : Shared} {h₀ : Heap} {L D : Addr} {m : Str → Option Value} {news news' : List (Addr × Obj)} {vs : List Value} {n : Nat} {x : Value}
theorem my_append {Q : Value → Shared → Prop} (F : Fr h₀ L s.heap m) (N : News h₀ L s.heap news) (U : Upd D (listOf vs.toArray n) (listOf (vs ++ [x]).toArray (n + 1)) news news') (hz : vs.length ≤ 1000000)
    (h : ∀ h', Fr h₀ L h' m → News h₀ L h' news' → Q .none { s with heap := h' }) : wpAny (model prog w) A (call (.builtin "list.append") [.ref D, x]) Q E s := by
  refine append_K (its := vs.toArray) (n := n) F N ?_ h (by rw [List.size_toArray, sizeLine_eq]; (first | lia | omega))
  rw [List.push_toArray]
  exact U
end
end Mine
namespace Mine
open PySem.Calls PySem.Spec
section
variable {prog : Program} {w : World} {A : Around} {E : Value → Shared → Prop} {s : Shared} {h₀ : Heap} {L D : Addr} {m : Str → Option Value} {news news' : List (Addr × Obj)} {vs : List Value} {n : Nat}
theorem my_reverse {Q : Value → Shared → Prop} (F : Fr h₀ L s.heap m) (N : News h₀ L s.heap news) (U : Upd D (listOf vs.toArray n) (listOf vs.reverse.toArray n) news news') (hz : vs.length ≤ 1000000)
    (h : ∀ h', Fr h₀ L h' m → News h₀ L h' news' → Q .none { s with heap := h' }) : wpAny (model prog w) A (call (.builtin "list.reverse") [.ref D]) Q E s :=
  kl_reverse (its := vs.toArray) (n := n) (l := vs.reverse) F N (by simp) U (by rw [sizeLine_eq]; simp; (first | lia | omega)) h
end
end Mine
namespace Mine
theorem tab_mem {P : Addr} {l c : Int} {q : Str} {tl : List (Addr × Obj)} (t : TabSt P l c q tl) : ∃ ps, (P, tabObj ps) ∈ tl := by
  cases t with
  | new => exact ⟨_, .head _⟩
  | old _ _ => exact ⟨_, .head _⟩
theorem news_ne {h₀ h : Heap} {L a P : Addr} {o o' : Obj} {led : List (Addr × Obj)} (N : News h₀ L h led) (h1 : (a, o) ∈ led) (h2 : (P, o') ∈ led) (hc : o.cls ≠ o'.cls) : a ≠ P := fun e => by
  subst e
  have g1 := (N _ h1).1
  have g2 := (N _ h2).1
  simp only at g1 g2
  rw [g1] at g2
  exact hc (congrArg Obj.cls (Option.some.inj g2))
theorem perm42 {a b : Addr × Obj} {t1 t2 r : List (Addr × Obj)} : ∀ p ∈ t2 ++ (a :: b :: (t1 ++ r)), p ∈ a :: b :: (t1 ++ (t2 ++ r)) := fun p hp => by
  rcases List.mem_append.mp hp with hp | hp
  · exact .tail _ (.tail _ (List.mem_append_right _ (List.mem_append_left _ hp)))
  · rcases List.mem_cons.mp hp with rfl | hp
    · exact .head _
    · rcases List.mem_cons.mp hp with rfl | hp
      · exact .tail _ (.head _)
      · rcases List.mem_append.mp hp with hp | hp
        · exact .tail _ (.tail _ (List.mem_append_left _ hp))
        · exact .tail _ (.tail _ (List.mem_append_right _ (List.mem_append_right _ hp)))
theorem perm49 {d a b : Addr × Obj} {t1 t2 r : List (Addr × Obj)} : ∀ p ∈ d :: (t1 ++ (t2 ++ r)), p ∈ d :: (t2 ++ (a :: b :: (t1 ++ r))) := fun p hp => by
  rcases List.mem_cons.mp hp with rfl | hp
  · exact .head _
  · refine .tail _ ?_
    rcases List.mem_append.mp hp with hp | hp
    · exact List.mem_append_right _ (.tail _ (.tail _ (List.mem_append_left _ hp)))
    · rcases List.mem_append.mp hp with hp | hp
      · exact List.mem_append_left _ hp
      · exact List.mem_append_right _ (.tail _ (.tail _ (List.mem_append_right _ hp)))
theorem dvp_end {a b : Int} {k K : Nat} {rv : Int} {qs : List Int} (h : DvP b (k + 1) (digs (k + 1) K a).reverse rv qs) (h0 : 0 ≤ a) (h1 : a < 2 ^ ((k + 1) * K)) : a.fdiv b = undig (k + 1) qs.reverse ∧ a.fmod b = rv := by
  obtain ⟨r0, r1, hh, _, _⟩ := h
  rw [horner_rev, undig_digs _ _ _ h0 h1] at hh
  rw [undig_rev]
  exact fdm hh r0 r1
end Mine
-- part E3
namespace Mine

local macro_rules | `(tactic| k_mem) => `(tactic| assumption)
local macro_rules | `(tactic| k_all) => `(tactic| first | assumption | exact rest_ne (by assumption) (by omega))
theorem d49 (w : World) (a0 b0 : Int) (k K0 : Nat) (ta tb : Tok) (tl1 tl2 rest : List (Addr × Obj)) (hst1 : TabSt 30 32 4 (Str.ofString "_int2digits.<locals>.inner") tl1) (hst2 : TabSt 37 47 4 (Str.ofString "_digits2int.<locals>.inner") tl2)
    (hap1 : Apart tl1 rest) (hap2 : Apart tl2 rest) (ha : 0 ≤ a0) (hk : Builtin.Int.intBits b0 = k + 1) (hk2 : k < 6900) (hb1 : 2 ^ k ≤ b0) (hb2 : b0 < 2 ^ (k + 1))
    (hK : ((Builtin.Int.intBits a0 : Int) + (Builtin.Int.intBits b0 : Int) - 1).fdiv (Builtin.Int.intBits b0 : Int) = (K0 : Int)) (hK2 : K0 ≤ 250) (hK3 : a0 < 2 ^ ((k + 1) * K0)) (hK4 : a0 = 0 → K0 = 0) (hK5 : a0 ≠ 0 → 1 ≤ K0) :
    Ctr w 49 [.int a0 ta, .int b0 tb] 310 3600 (tl1 ++ (tl2 ++ rest)) (fun r led' => ∃ D t1 t2 tl1' tl2', r = .ref D ∧ TabSt 30 32 4 (Str.ofString "_int2digits.<locals>.inner") tl1' ∧ TabSt 37 47 4 (Str.ofString "_digits2int.<locals>.inner") tl2' ∧ Apart tl1' rest ∧ Apart tl2' rest ∧
      led' = (D, pairObj (.int (a0.fdiv b0) t1) (.int (a0.fmod b0) t2)) :: (tl1' ++ (tl2' ++ rest))) := by
  have hn0 : (0 : Int) < (Builtin.Int.intBits b0 : Int) := by (first | lia | omega)
  have hn1 : (Builtin.Int.intBits b0 : Int) ≤ 10000 := by (first | lia | omega)
  have hNn : Near (Builtin.Int.intBits b0 : Int) := near_of (Nat.lt_of_lt_of_le (show ((Builtin.Int.intBits b0 : Int)).natAbs < 2 ^ 14 by (first | lia | omega)) (Nat.pow_le_pow_right (by decide) (by decide)))
  have hNt : (Builtin.Int.intBits b0 : Int).toNat = k + 1 := by (first | lia | omega)
  have hK3' : a0 < 2 ^ ((Builtin.Int.intBits b0 : Int).toNat * K0) := by rw [hNt]; exact hK3
  unfold Ctr; k_fill
  intro dp un gd cn cs a ccd cl outer A₀ base h₀ L m s Q E loose mean mg mb B F X N T C1 C2 hk hd hu hret
  obtain ⟨hp9, gn9, dr9, tk9, os9⟩ := s
  w_on
  w_top on
  have hapA : Apart tl1 (tl2 ++ rest) := Apart.app (tabs_apart hst1 hst2 (by decide) (by decide) N (fun q hq => List.mem_append_left _ hq) (fun q hq => List.mem_append_right _ (List.mem_append_left _ hq))) hap1
  k_with_none
  k_with "my binaryOp RShift int int" => (k_here; (with_reducible refine g_rsh ?zqkb1 ?_); (case zqkb1 => first | assumption | (first | lia | omega)); intro tz9' kz9')
  k_with "my inplaceOp RShift int int" => (k_here; (with_reducible refine g_irsh ?zqkb1 ?_); (case zqkb1 => first | assumption | (first | lia | omega)); intro tz9' kz9')
  k_with "my binaryOp LShift int int" => (k_here; (with_reducible refine g_lsh ?zqkb1 ?zqkb2 ?_); (case zqkb1 => first | assumption | (first | lia | omega)); (case zqkb2 => first | exact shlOk (by assumption) (by (first | lia | omega)) (by first | assumption | (first | lia | omega)) | assumption); intro tz9' kz9')
  k_with "my inplaceOp LShift int int" => (k_here; (with_reducible refine g_ilsh ?zqkb1 ?zqkb2 ?_); (case zqkb1 => first | assumption | (first | lia | omega)); (case zqkb2 => first | exact shlOk (by assumption) (by (first | lia | omega)) (by first | assumption | (first | lia | omega)) | assumption); intro tz9' kz9')
  k_with "my binaryOp Mult int int" => (k_here; (with_reducible refine g_mul ?zqkb1 ?_); (case zqkb1 => assumption); intro tz9' kz9')
  k_with "my inplaceOp Mult int int" => (k_here; (with_reducible refine g_imul ?zqkb1 ?_); (case zqkb1 => assumption); intro tz9' kz9')
  k_with "my binaryOp Add int int" => (k_here; (with_reducible refine g_add ?_); intro tz9' kz9')
  k_with "my binaryOp Sub int int" => (k_here; (with_reducible refine g_sub ?_); intro tz9' kz9')
  k_with "my binaryOp BitAnd int int" => (k_here; (with_reducible refine g_and ?_); intro tz9' kz9')
  k_with "my binaryOp BitOr int int" => (k_here; (with_reducible refine g_or ?_); intro tz9' kz9')
  k_with "my inplaceOp Add int int" => (k_here; (with_reducible refine g_iadd ?_); intro tz9' kz9')
  k_with "my inplaceOp Sub int int" => (k_here; (with_reducible refine g_isub ?_); intro tz9' kz9')
  k_with "my binaryOp FloorDiv int int" => (k_here; (with_reducible refine floordiv_int ?zqkb1 ?_ ?zqkb2); (case zqkb1 => first | assumption | (first | lia | omega)); (case zqkb2 => exact .inl ((by assumption : Near _) _)))
  k_with "my call builtin:divmod" => (k_here; k_dflt (refine' my_divmod ?zqF ?zqN ?zqb ?zqp ?_; (case zqF => k_asm); (case zqN => k_asm); (case zqb => first | assumption | (first | lia | omega)); (case zqp => assumption); k_whole; intro D' h' t1' t2' tk' F' N' hlt'; (try k_sweep)))
  k_with "my call builtin:list.append" => (k_here; k_dflt (refine' my_append ?zqF ?zqN ?zqU ?zqz ?_; (case zqF => k_asm); (case zqN => k_asm); (case zqU => k_upd); (case zqz => first | assumption | (first | lia | omega)); k_whole; intro h' F' N'; (try k_sweep)))
  k_with "my call builtin:list.reverse" => (k_here; k_dflt (refine' my_reverse ?zqF ?zqN ?zqU ?zqz ?_; (case zqF => k_asm); (case zqN => k_asm); (case zqU => k_upd); (case zqz => first | assumption | (first | lia | omega)); k_whole; intro h' F' N'; (try k_sweep)))
  k_with "newList" => (k_here; k_dflt (refine' newList_K ?nk1 ?nk2 ?_; (case nk1 => k_asm); (case nk2 => k_asm); k_whole); intro lq hq9 F9 N9 lq1; (try k_lt lq1); (try k_sweep))
  k_with "call ref" => (k_here; k_dflt (refine' Ctr.usep (d21 w _ _ _ _ _ _ _ k ?p1 hk2 hb1 hb2 ?p2 ?p3) ?cB ?cF ?cX ?cN ?cT ?cC1 ?cC2 ?ck ?cd ?cu ?_; (case cB => k_asm); (case cF => k_asm); (case cX => k_asm); (case cN => first | k_asm | (simp only [List.append_assoc, List.nil_append, List.append_nil]; k_asm)); (case cT => k_asm); (case cC1 => k_asm); (case cC2 => k_asm); (case ck => first | exact rfl | assumption); (case cd => ktr_room); (case cu => ktr_units); (case p1 => (first | lia | omega)); (case p2 => assumption); (case p3 => (rw [← hNt]; assumption)); intro D9 t19 t29 hlt9 h9 tk9 F9 N9; (try k_lt hlt9); (try dsimp only); (try k_sweep); (try k_fold)))
  k_with "call ref" => (k_here; k_dflt (refine' Ctr.u3_3 (d35 w _ _ K0 _ _ tl1 (tl2 ++ rest) hst1 hapA hn0 hn1 ha hNn hK hK2 hK3' hK4 hK5) ?cB ?cF ?cX ?cN ?cT ?cC1 ?cC2 ?ck ?cd ?cu ?_; (case cB => k_asm); (case cF => k_asm); (case cX => k_asm); (case cN => first | k_asm | (simp only [List.append_assoc, List.nil_append, List.append_nil]; k_asm)); (case cT => k_asm); (case cC1 => k_asm); (case cC2 => k_asm); (case ck => first | exact rfl | assumption); (case cd => ktr_room); (case cu => ktr_units); intro DA tl1' vd hst1' hap1' hvd h9 tk9 F9 N9; (try dsimp only); (try k_sweep); (try k_fold)))
  refine wpAny_call ?_
  k_dflt cell_enter
  k_steps
  refine' rev_loop2 (Str.ofString "q_digit") (Str.ofString "r") (fun vq ep => (lq, listOf vq.toArray ep) :: (DA, listOf vd.toArray 0) :: (tl1' ++ (tl2 ++ rest))) (DvP b0 (k + 1)) [] (vq0 := []) (ep0 := 0) rfl ?F ?N ?hof ?hm hvd ?x1 ?x2 ?h2 .nil ?hp ?turn ?done
  case F => k_asm
  case N => k_asm
  case x1 => decide
  case x2 => decide
  case h2 => exact rfl
  case hp => exact ⟨Int.le_refl 0, Int.lt_of_lt_of_le (pow_pos' k) hb1, (by simp [horner]), (fun _ h => nomatch h), rfl⟩
  case hof => exact fun vq ep p hp => Nat.ne_of_lt (allLt_to (l := (lq, listOf vq.toArray ep) :: (DA, listOf vd.toArray 0) :: (tl1' ++ (tl2 ++ rest))) (by assumption) p hp)
  case hm => exact fun vq ep => .tail _ (.head _)
  case turn =>
    intro pre post d t u rv tr vq qs ep it h tk hns hvq hpp hic F9 N9
    rw [hNt] at hns
    have hd9 : 0 ≤ d ∧ d < 2 ^ (k + 1) := digs_bd (k + 1) K0 a0 d (List.mem_reverse.mp (by rw [hns]; simp))
    obtain ⟨t0, t1, hpp'⟩ := dvp_turn hpp hd9
    have krv : Bd 10000 rv := (Bd.lt hpp.1 (Int.lt_trans hpp.2.1 hb2)).mono (by (first | lia | omega))
    have hl9 : vq.length ≤ 250 := by
      have e1 := hvq.length
      have e2 := congrArg List.length hns
      rw [List.length_reverse, digs_len, List.length_append, List.length_cons] at e2
      rw [e1, hpp.2.2.2.2]
      (first | lia | omega)
    rw [← hNt] at t0 t1
    try k_fold
    k_steps
    refine rv_end ((rv * 2 ^ (Builtin.Int.intBits b0 : Int).toNat + d).fmod b0) t29 (vq ++ [Value.int ((rv * 2 ^ (Builtin.Int.intBits b0 : Int).toNat + d).fdiv b0) t19]) (qs ++ [(rv * 2 ^ (Builtin.Int.intBits b0 : Int).toNat + d).fdiv b0]) (ep + 1)
      (fun z => if z = Str.ofString "a_digit" then some (Value.int d t) else some (Value.int ((rv * 2 ^ (Builtin.Int.intBits b0 : Int).toNat + d).fdiv b0) t19)) (by assumption) (by assumption) (rvm_end (by decide) (by decide) (by decide) rfl) ?_ (ints_app hvq (.cons _ _ .nil)) ?_
    · intro p hp
      exact List.Mem.tail _ hp
    · rw [hNt]
      exact hpp'
  case done =>
    intro u rv tr vq qs ep h tk hvq hpp F9 N9
    rw [hNt] at hpp
    obtain ⟨ed, em⟩ := dvp_end hpp ha hK3
    have hl9 : vq.length ≤ 250 := by
      rw [hvq.length, hpp.2.2.2.2, List.length_reverse, digs_len]
      exact hK2
    have hl8 : qs.reverse.length ≤ 250 := by rw [List.length_reverse, ← hvq.length]; exact hl9
    have hqr := ints_rev hvq
    have hqb : ∀ d ∈ qs.reverse, 0 ≤ d ∧ d < 2 ^ (Builtin.Int.intBits b0 : Int).toNat := fun d hd => by
      rw [hNt]
      exact hpp.2.2.2.1 d (List.mem_reverse.mp hd)
    have hsub : ∀ q ∈ tl2, q ∈ (lq, listOf vq.toArray ep) :: (DA, listOf vd.toArray 0) :: (tl1' ++ (tl2 ++ rest)) := fun q hq => .tail _ (.tail _ (List.mem_append_right _ (List.mem_append_left _ hq)))
    have hapB : Apart tl2 ((lq, listOf vq.reverse.toArray ep) :: (DA, listOf vd.toArray 0) :: (tl1' ++ rest)) :=
      .cons (list_apart hst2 N9 hsub (.head _)) (.cons (list_apart hst2 N9 hsub (.tail _ (.head _))) (.app (tabs_apart hst2 hst1' (by decide) (by decide) N9 hsub (fun q hq => .tail _ (.tail _ (List.mem_append_left _ hq)))) hap2))
    rw [ed, em, ← hNt] at hret
    k_with "call ref" => (k_here; k_dflt (refine' Ctr.u2_2 (d42 w lq ep vq.reverse qs.reverse _ _ tl2 ((lq, listOf vq.reverse.toArray ep) :: (DA, listOf vd.toArray 0) :: (tl1' ++ rest)) hst2 hapB hn0 hn1 (.head _) hqr hqb hl8) ?cB ?cF ?cX ?cN ?cT ?cC1 ?cC2 ?ck ?cd ?cu ?_; (case cB => k_asm); (case cF => k_asm); (case cX => k_asm); (case cN => exact kst_newsOf (by k_asm) perm42); (case cT => k_asm); (case cC1 => k_asm); (case cC2 => k_asm); (case ck => first | exact rfl | assumption); (case cd => ktr_room); (case cu => ktr_units); intro tl2' t42 hst2' hap2' h9 tk9 F9 N9; (try dsimp only); (try k_sweep); (try k_fold)))
    (try dsimp only)
    (try k_fold)
    k_steps
    --END
    refine hret _ _ _ _ (by assumption) (kst_newsOf (by assumption) perm49) ⟨_, _, _, tl1', tl2', rfl, hst1', hst2', hap1'.sub (fun p hp => List.mem_append_right _ hp), hap2'.sub (fun p hp => .tail _ (.tail _ (List.mem_append_right _ hp))), rfl⟩
end Mine
-- part E4
namespace Mine

theorem digits_of {a : Int} {k : Nat} (ha : 0 ≤ a) (hB : Bd (200 * (k + 1)) a) : ∃ K0 : Nat, ((Builtin.Int.intBits a : Int) + ((k + 1 : Nat) : Int) - 1).fdiv ((k + 1 : Nat) : Int) = (K0 : Int) ∧ K0 ≤ 250 ∧ a < 2 ^ ((k + 1) * K0) ∧ (a = 0 → K0 = 0) ∧ (a ≠ 0 → 1 ≤ K0) := by
  have hb := hB.bits
  have hbd : Bd (Builtin.Int.intBits a) a := Bd.of_bits (Nat.le_refl _)
  have hz : a = 0 → Builtin.Int.intBits a = 0 := fun h => by subst h; rfl
  have hnz : a ≠ 0 → 1 ≤ Builtin.Int.intBits a := fun h => by
    unfold Builtin.Int.intBits
    rw [if_neg (by simpa using h)]
    (first | lia | omega)
  generalize Builtin.Int.intBits a = B at *
  refine ⟨(B + k) / (k + 1), ?_, ?_, ?_, ?_, ?_⟩
  · rw [Int.fdiv_eq_ediv_of_nonneg _ (by (first | lia | omega)), show (B : Int) + ((k + 1 : Nat) : Int) - 1 = ((B + k : Nat) : Int) by (first | lia | omega)]
    rfl
  · have : (B + k) / (k + 1) < 251 := (Nat.div_lt_iff_lt_mul (by (first | lia | omega))).mpr (by (first | lia | omega))
    (first | lia | omega)
  · have h1 : B ≤ (k + 1) * ((B + k) / (k + 1)) := by
      have e := Nat.div_add_mod (B + k) (k + 1)
      have m : (B + k) % (k + 1) < k + 1 := Nat.mod_lt (B + k) (Nat.succ_pos k)
      generalize (k + 1) * ((B + k) / (k + 1)) = X at *
      generalize (B + k) % (k + 1) = Y at *
      (first | lia | omega)
    exact (hbd.mono h1).to.1
  · intro h
    rw [hz h, Nat.zero_add]
    exact Nat.div_eq_of_lt (by (first | lia | omega))
  · intro h
    have := hnz h
    exact (Nat.one_le_div_iff (by (first | lia | omega))).mpr (by (first | lia | omega))
noncomputable abbrev DmOut (x y : Int) (rest : List (Addr × Obj)) (r : Value) (led' : List (Addr × Obj)) : Prop := ∃ D t1 t2 tl1' tl2', r = .ref D ∧ TabSt 30 32 4 (Str.ofString "_int2digits.<locals>.inner") tl1' ∧ TabSt 37 47 4 (Str.ofString "_digits2int.<locals>.inner") tl2' ∧ Apart tl1' rest ∧ Apart tl2' rest ∧ led' = (D, pairObj (.int x t1) (.int y t2)) :: (tl1' ++ (tl2' ++ rest))
theorem d56_pp (w : World) (a0 b0 : Int) (k : Nat) (ta tb : Tok) (tl1 tl2 rest : List (Addr × Obj)) (hst1 : TabSt 30 32 4 (Str.ofString "_int2digits.<locals>.inner") tl1) (hst2 : TabSt 37 47 4 (Str.ofString "_digits2int.<locals>.inner") tl2)
    (hap1 : Apart tl1 rest) (hap2 : Apart tl2 rest) (ha : 0 ≤ a0) (hk2 : k < 6900) (hb1 : 2 ^ k ≤ b0) (hb2 : b0 < 2 ^ (k + 1)) (hB : Bd (200 * (k + 1)) a0) :
    Ctr w 56 [.int a0 ta, .int b0 tb] 320 3700 (tl1 ++ (tl2 ++ rest)) (DmOut (a0.fdiv b0) (a0.fmod b0) rest) := by
  have hb0 : 0 < b0 := Int.lt_of_lt_of_le (pow_pos' k) hb1
  have hbk : Builtin.Int.intBits b0 = k + 1 := by
    have h1 := (Bd.lt (Int.le_of_lt hb0) hb2).bits
    have h2 : ¬ Builtin.Int.intBits b0 ≤ k := fun h => by
      have := (Bd.of_bits h).to.1
      (first | lia | omega)
    (first | lia | omega)
  obtain ⟨K0, hK, hK2, hK3, hK4, hK5⟩ := digits_of ha hB
  rw [← hbk] at hK
  have f1 : ¬ (b0 == 0) = true := by rw [beq_iff_eq]; (first | lia | omega)
  have f2 : ¬ decide (b0 < 0) = true := by rw [decide_eq_true_eq]; (first | lia | omega)
  have f3 : ¬ decide (a0 < 0) = true := by rw [decide_eq_true_eq]; (first | lia | omega)
  unfold Ctr; k_fill
  intro dp un gd cn cs a ccd cl outer A₀ base h₀ L m s Q E loose mean mg mb B F X N T C1 C2 hk hd hu hret
  obtain ⟨hp9, gn9, dr9, tk9, os9⟩ := s
  w_on
  w_top on
  k_with_none
  k_with "ite" => (with_reducible refine ite_neg f1 ?_)
  k_with "ite" => (with_reducible refine ite_neg f2 ?_)
  k_with "ite" => (with_reducible refine ite_neg f3 ?_)
  k_with "call ref" => (k_here; k_dflt (refine' Ctr.u5_4 (d49 w _ _ k K0 _ _ tl1 tl2 rest hst1 hst2 hap1 hap2 ha hbk hk2 hb1 hb2 hK hK2 hK3 hK4 hK5) ?cB ?cF ?cX ?cN ?cT ?cC1 ?cC2 ?ck ?cd ?cu ?_; (case cB => k_asm); (case cF => k_asm); (case cX => k_asm); (case cN => first | k_asm | (simp only [List.append_assoc, List.nil_append, List.append_nil]; k_asm)); (case cT => k_asm); (case cC1 => k_asm); (case cC2 => k_asm); (case ck => first | exact rfl | assumption); (case cd => ktr_room); (case cu => ktr_units); intro D9 t19 t29 tl1' tl2' hst1' hst2' ha1' ha2' h9 tk9 F9 N9; (try dsimp only); (try k_sweep); (try k_fold)))
  refine wpAny_call ?_
  k_dflt cell_enter
  k_steps
  exact hret _ _ _ _ (by assumption) (by assumption) ⟨_, _, _, _, _, rfl, hst1', hst2', ha1', ha2', rfl⟩
theorem bitNot_eq (a : Int) : Builtin.bitNot a = -1 - a := by unfold Builtin.bitNot; (first | lia | omega)
theorem dm_np (a b : Int) (hb : 0 < b) : a.fdiv b = Builtin.bitNot ((Builtin.bitNot a).fdiv b) ∧ a.fmod b = b + Builtin.bitNot ((Builtin.bitNot a).fmod b) := by
  simp only [bitNot_eq]
  have e := Int.mul_fdiv_add_fmod (-1 - a) b
  have m0 := Int.fmod_nonneg_of_pos (-1 - a) hb
  have m1 := Int.fmod_lt_of_pos (-1 - a) hb
  generalize (-1 - a).fdiv b = q at *
  generalize (-1 - a).fmod b = r at *
  exact fdm (by grind) (by (first | lia | omega)) (by (first | lia | omega))
theorem drop2 {d e : Addr × Obj} {X : List (Addr × Obj)} : ∀ p ∈ d :: X, p ∈ d :: e :: X := fun p hp => by
  rcases List.mem_cons.mp hp with rfl | hp
  · exact .head _
  · exact .tail _ (.tail _ hp)
theorem d56_np (w : World) (a0 b0 : Int) (k : Nat) (ta tb : Tok) (tl1 tl2 rest : List (Addr × Obj)) (hst1 : TabSt 30 32 4 (Str.ofString "_int2digits.<locals>.inner") tl1) (hst2 : TabSt 37 47 4 (Str.ofString "_digits2int.<locals>.inner") tl2)
    (hap1 : Apart tl1 rest) (hap2 : Apart tl2 rest) (ha : a0 < 0) (hk2 : k < 6900) (hb1 : 2 ^ k ≤ b0) (hb2 : b0 < 2 ^ (k + 1)) (hB : Bd (200 * (k + 1)) a0) :
    Ctr w 56 [.int a0 ta, .int b0 tb] 330 3800 (tl1 ++ (tl2 ++ rest)) (DmOut (a0.fdiv b0) (a0.fmod b0) rest) := by
  have hb0 : 0 < b0 := Int.lt_of_lt_of_le (pow_pos' k) hb1
  have f1 : ¬ (b0 == 0) = true := by rw [beq_iff_eq]; omega
  have f2 : ¬ decide (b0 < 0) = true := by rw [decide_eq_true_eq]; omega
  have f3 : decide (a0 < 0) = true := by rw [decide_eq_true_eq]; omega
  have g0 : 0 ≤ Builtin.bitNot a0 := by rw [bitNot_eq]; omega
  have g1 : Bd (200 * (k + 1)) (Builtin.bitNot a0) := by
    rw [bitNot_eq]
    unfold Bd at hB ⊢
    omega
  obtain ⟨ed, em⟩ := dm_np a0 b0 hb0
  unfold Ctr; k_fill
  intro dp un gd cn cs a ccd cl outer A₀ base h₀ L m s Q E loose mean mg mb B F X N T C1 C2 hk hd hu hret
  obtain ⟨hp9, gn9, dr9, tk9, os9⟩ := s
  w_on
  w_top on
  k_with_none
  k_with "ite" => (with_reducible refine ite_neg f1 ?_)
  k_with "ite" => (with_reducible refine ite_neg f2 ?_)
  k_with "ite" => (with_reducible refine ite_pos f3 ?_)
  k_with "call ref" => (k_here; k_dflt (refine' Ctr.u5_4 (d56_pp w _ _ k _ _ tl1 tl2 rest hst1 hst2 hap1 hap2 g0 hk2 hb1 hb2 g1) ?cB ?cF ?cX ?cN ?cT ?cC1 ?cC2 ?ck ?cd ?cu ?_; (case cB => k_asm); (case cF => k_asm); (case cX => k_asm); (case cN => first | k_asm | (simp only [List.append_assoc, List.nil_append, List.append_nil]; k_asm)); (case cT => k_asm); (case cC1 => k_asm); (case cC2 => k_asm); (case ck => first | exact rfl | assumption); (case cd => ktr_room); (case cu => ktr_units); intro D9 t19 t29 tl1' tl2' hst1' hst2' ha1' ha2' h9 tk9 F9 N9; (try dsimp only); (try k_sweep); (try k_fold)))
  refine wpAny_call ?_
  k_dflt cell_enter
  k_steps
  rw [ed, em] at hret
  refine hret _ _ _ _ (by assumption) (kst_newsOf (by assumption) drop2) ⟨_, _, _, _, _, rfl, hst1', hst2', ha1', ha2', rfl⟩
theorem d56_p (w : World) (a0 b0 : Int) (k : Nat) (ta tb : Tok) (tl1 tl2 rest : List (Addr × Obj)) (hst1 : TabSt 30 32 4 (Str.ofString "_int2digits.<locals>.inner") tl1) (hst2 : TabSt 37 47 4 (Str.ofString "_digits2int.<locals>.inner") tl2)
    (hap1 : Apart tl1 rest) (hap2 : Apart tl2 rest) (hk2 : k < 6900) (hb1 : 2 ^ k ≤ b0) (hb2 : b0 < 2 ^ (k + 1)) (hB : Bd (200 * (k + 1)) a0) :
    Ctr w 56 [.int a0 ta, .int b0 tb] 330 3800 (tl1 ++ (tl2 ++ rest)) (DmOut (a0.fdiv b0) (a0.fmod b0) rest) := by
  by_cases ha : a0 < 0
  · exact d56_np w a0 b0 k ta tb tl1 tl2 rest hst1 hst2 hap1 hap2 ha hk2 hb1 hb2 hB
  · exact (d56_pp w a0 b0 k ta tb tl1 tl2 rest hst1 hst2 hap1 hap2 (by (first | lia | omega)) hk2 hb1 hb2 hB).mono (by decide) (by decide)
theorem d56_n (w : World) (a0 b0 : Int) (k : Nat) (ta tb : Tok) (tl1 tl2 rest : List (Addr × Obj)) (hst1 : TabSt 30 32 4 (Str.ofString "_int2digits.<locals>.inner") tl1) (hst2 : TabSt 37 47 4 (Str.ofString "_digits2int.<locals>.inner") tl2)
    (hap1 : Apart tl1 rest) (hap2 : Apart tl2 rest) (hk2 : k < 6900) (hb1 : 2 ^ k ≤ -b0) (hb2 : -b0 < 2 ^ (k + 1)) (hB : Bd (200 * (k + 1)) a0) :
    Ctr w 56 [.int a0 ta, .int b0 tb] 340 3900 (tl1 ++ (tl2 ++ rest)) (DmOut (a0.fdiv b0) (a0.fmod b0) rest) := by
  have hb0 : 0 < -b0 := Int.lt_of_lt_of_le (pow_pos' k) hb1
  have f1 : ¬ (b0 == 0) = true := by rw [beq_iff_eq]; omega
  have f2 : decide (b0 < 0) = true := by rw [decide_eq_true_eq]; omega
  have g1 : Bd (200 * (k + 1)) (-a0) := hB.neg
  have ed : a0.fdiv b0 = (-a0).fdiv (-b0) := (Int.neg_fdiv_neg a0 b0).symm
  have em : a0.fmod b0 = -(-a0).fmod (-b0) := by rw [Int.neg_fmod_neg, Int.neg_neg]
  unfold Ctr; k_fill
  intro dp un gd cn cs a ccd cl outer A₀ base h₀ L m s Q E loose mean mg mb B F X N T C1 C2 hk hd hu hret
  obtain ⟨hp9, gn9, dr9, tk9, os9⟩ := s
  w_on
  w_top on
  k_with_none
  k_with "ite" => (with_reducible refine ite_neg f1 ?_)
  k_with "ite" => (with_reducible refine ite_pos f2 ?_)
  k_with "call ref" => (k_here; k_dflt (refine' Ctr.u5_4 (d56_p w _ _ k _ _ tl1 tl2 rest hst1 hst2 hap1 hap2 hk2 hb1 hb2 g1) ?cB ?cF ?cX ?cN ?cT ?cC1 ?cC2 ?ck ?cd ?cu ?_; (case cB => k_asm); (case cF => k_asm); (case cX => k_asm); (case cN => first | k_asm | (simp only [List.append_assoc, List.nil_append, List.append_nil]; k_asm)); (case cT => k_asm); (case cC1 => k_asm); (case cC2 => k_asm); (case ck => first | exact rfl | assumption); (case cd => ktr_room); (case cu => ktr_units); intro D9 t19 t29 tl1' tl2' hst1' hst2' ha1' ha2' h9 tk9 F9 N9; (try dsimp only); (try k_sweep); (try k_fold)))
  refine wpAny_call ?_
  k_dflt cell_enter
  k_steps
  rw [ed, em] at hret
  refine hret _ _ _ _ (by assumption) (kst_newsOf (by assumption) drop2) ⟨_, _, _, _, _, rfl, hst1', hst2', ha1', ha2', rfl⟩
/-- int_divmod -/
theorem d56 (w : World) (a0 b0 : Int) (k : Nat) (ta tb : Tok) (tl1 tl2 rest : List (Addr × Obj)) (hst1 : TabSt 30 32 4 (Str.ofString "_int2digits.<locals>.inner") tl1) (hst2 : TabSt 37 47 4 (Str.ofString "_digits2int.<locals>.inner") tl2)
    (hap1 : Apart tl1 rest) (hap2 : Apart tl2 rest) (hk2 : k < 6900) (hb1 : 2 ^ k ≤ b0.natAbs) (hb2 : b0.natAbs < 2 ^ (k + 1)) (hB : Bd (200 * (k + 1)) a0) :
    Ctr w 56 [.int a0 ta, .int b0 tb] 340 3900 (tl1 ++ (tl2 ++ rest)) (DmOut (a0.fdiv b0) (a0.fmod b0) rest) := by
  have e1 : ((2 : Int) ^ k) = ((2 ^ k : Nat) : Int) := by simp
  have e2 : ((2 : Int) ^ (k + 1)) = ((2 ^ (k + 1) : Nat) : Int) := by simp
  by_cases hb : b0 < 0
  · exact d56_n w a0 b0 k ta tb tl1 tl2 rest hst1 hst2 hap1 hap2 hk2 (by rw [e1]; omega) (by rw [e2]; omega) hB
  · exact (d56_p w a0 b0 k ta tb tl1 tl2 rest hst1 hst2 hap1 hap2 hk2 (by rw [e1]; omega) (by rw [e2]; omega) hB).mono (by decide) (by decide)
end Mine
-- part FL
namespace Mine
open PySem.Calls PySem.Spec
section
variable {prog : Program} {w : World} {A : Around} {E : Value → Shared → Prop} {s : Shared} {env : Env} {h₀ : Heap} {x : Str} {body : List Stmt} {Q : Flow → Shared → Prop}
noncomputable def FwEnd {σ : Type} (h₀ : Heap) (L : Addr) (x : Str) (Led : σ → List (Addr × Obj)) (M : σ → Str → Option Value) (P : List Value → σ → Prop) (I : Addr) (it : Obj) (pre : List Value) (s₁ s₂ : Shared) : Prop :=
  ∃ (c : σ) (h' : Heap) (tk' : Nat) (m' : Str → Option Value) (news' : List (Addr × Obj)),
    s₂ = { s₁ with heap := h', toks := tk' } ∧ Fr h₀ L h' m' ∧ (∀ z, z ≠ x → m' z = M c z) ∧ News h₀ L h' news' ∧ (∀ p ∈ (I, it) :: Led c, p ∈ news') ∧ (∀ p ∈ Led c, p.1 ≠ I) ∧ P pre c
noncomputable def FwPost {σ : Type} (h₀ : Heap) (L : Addr) (x : Str) (Led : σ → List (Addr × Obj)) (M : σ → Str → Option Value) (P : List Value → σ → Prop) (I : Addr) (it : Obj) (pre : List Value) (s₁ : Shared) (Q : Flow → Shared → Prop) (f : Flow) (s₂ : Shared) : Prop :=
  match f with
  | .ret v => Q (.ret v) s₂
  | .brk => Q .next s₂
  | _ => FwEnd h₀ L x Led M P I it pre s₁ s₂
theorem fw_end {σ : Type} {L : Addr} {Led : σ → List (Addr × Obj)} {M : σ → Str → Option Value} {P : List Value → σ → Prop} {I : Addr} {it : Obj} {pre : List Value} {s₁ : Shared} {h' : Heap} {tk' : Nat} {m' : Str → Option Value} {news' : List (Addr × Obj)}
    (c : σ) (F : Fr h₀ L h' m') (N : News h₀ L h' news') (hmap : ∀ z, z ≠ x → m' z = M c z) (hs : ∀ p ∈ (I, it) :: Led c, p ∈ news') (hof : ∀ p ∈ Led c, p.1 ≠ I) (hp : P pre c) :
    FwEnd h₀ L x Led M P I it pre s₁ { s₁ with heap := h', toks := tk' } := ⟨c, h', tk', m', news', rfl, F, hmap, N, hs, hof, hp⟩
/-- a for over a list of the ledger, by a state of one's own -/
theorem fwd_loop {σ : Type} {ax : Addr} {vs : List Value} {n : Nat} {m₀ : Str → Option Value} (Led : σ → List (Addr × Obj)) (M : (Str → Option Value) → σ → Str → Option Value) (P : List Value → σ → Prop) (c₀ : σ)
    (hh : A.handled = none) (F : Fr h₀ env.locals s.heap m₀) (hM : ∀ z, z ≠ x → m₀ z = M m₀ c₀ z) (N : News h₀ env.locals s.heap (Led c₀)) (hm : ∀ c, (ax, listOf vs.toArray n) ∈ Led c) (hp : P [] c₀)
    (turn : ∀ (I : Addr) (c : σ) (pre post : List Value) (v : Value) (it : Obj) h tk, (∀ p ∈ Led c₀, p.1 < I) → (∀ p ∈ Led c, p.1 ≠ I) → vs = pre ++ v :: post → P pre c → it.cls = .type "list_iterator" →
      Fr h₀ env.locals h (fun z => if z = x then some v else M m₀ c z) → News h₀ env.locals h ((I, it) :: Led c) →
      wpAny (model prog w) A (execs body env) (FwPost h₀ env.locals x Led (M m₀) P I it (pre ++ [v]) { s with heap := h, toks := tk } Q) E { s with heap := h, toks := tk })
    (done : ∀ (c : σ) (u : Option Value) h tk, P vs c → Fr h₀ env.locals h (fun z => if z = x then u else M m₀ c z) → News h₀ env.locals h (Led c) → Q .next { s with heap := h, toks := tk }) :
    wpAny (model prog w) A (pyIter (.ref ax)) (fun it s₂ => LoopAtV prog w A h₀ env x body Q E it s₂) E s := by
  refine iter_listUnr (lo := listOf vs.toArray n) hh F N (hm c₀) rfl rfl fun I hI => ?_
  have main : ∀ (r pre : List Value), vs = pre ++ r → ∀ (m : Str → Option Value) (c : σ), (∀ z, z ≠ x → m z = M m₀ c z) → (∀ p ∈ Led c, p.1 ≠ I) → P pre c →
      ListRest prog w A E h₀ env x body Q s I (ax, listOf vs.toArray n) r m (Led c) := by
    intro r
    induction r with
    | nil =>
      intro pre hns m c hmz hof hpp
      rw [List.append_nil] at hns
      refine ListRest.zero fun h tk F' N' => done c (m x) h tk (hns ▸ hpp) ?_ N'
      have e : m = fun z => if z = x then m x else M m₀ c z := by
        funext z
        by_cases hz : z = x
        · rw [if_pos hz, hz]
        · rw [if_neg hz, hmz z hz]
      rw [e] at F'
      have e2 : (fun z => if z = x then (fun z => if z = x then m x else M m₀ c z) x else M m₀ c z) = fun z => if z = x then m x else M m₀ c z := by
        funext z
        by_cases hz : z = x
        · rw [if_pos hz, if_pos hz]; exact if_pos rfl
        · rw [if_neg hz, if_neg hz]
      exact F'
    | cons v r ih =>
      intro pre hns m c hmz hof hpp
      refine ListRest.succ fun it h tk hc F' N' => ?_
      have e : (fun y => if y = x then some v else m y) = fun z => if z = x then some v else M m₀ c z := by
        funext y
        by_cases hy : y = x
        · rw [if_pos hy, if_pos hy]
        · rw [if_neg hy, if_neg hy, hmz y hy]
      rw [e] at F'
      refine wpAny_mono (turn I c pre r v it h tk hI hof hns hpp hc F' N') (fun f s₂ p => ?_) fun _ _ e => e
      have fin : FwEnd h₀ env.locals x Led (M m₀) P I it (pre ++ [v]) { s with heap := h, toks := tk } s₂ →
          UnrEnd h₀ env.locals { s with heap := h, toks := tk } I it (fun m' n' => (ax, listOf vs.toArray n) ∈ n' ∧ ListRest prog w A E h₀ env x body Q s I (ax, listOf vs.toArray n) r m' n') s₂ := by
        rintro ⟨c', h', tk', m', news', e1, F2, hm2, N2, hs2, hof2, hp2⟩
        exact ⟨h', tk', m', Led c', e1, F2, fun p hp => N2 p (hs2 p hp), hof2, hm _, ih (pre ++ [v]) (by rw [hns]; simp) m' c' hm2 hof2 hp2⟩
      cases f with
      | ret v => exact p
      | brk => exact p
      | next => exact fin p
      | cont => exact fin p
  exact main vs [] rfl m₀ c₀ hM (fun p hp => Nat.ne_of_lt (hI p hp)) hp
end
end Mine
namespace Mine
theorem fw_end3 {h₀ : Heap} {L I : Addr} {x y1 y2 y3 : Str} {rest news' : List (Addr × Obj)} {P : List Value → (Option Value × Option Value × Int × Tok) → Prop} {it : Obj} {pre : List Value} {s₁ : Shared} {h' : Heap} {tk' : Nat} {m₀ m' : Str → Option Value} {v : Int} {t : Tok}
    (F : Fr h₀ L h' m') (N : News h₀ L h' news') (h3 : m' y3 = some (.int v t)) (hr : ∀ z, z ≠ x → z ≠ y1 → z ≠ y2 → z ≠ y3 → m' z = m₀ z) (hs : ∀ p ∈ (I, it) :: rest, p ∈ news') (hof : ∀ p ∈ rest, p.1 ≠ I) (hp : ∀ a b, P pre (a, b, v, t)) :
    FwEnd h₀ L x (fun _ => rest) (fun c z => if z = y1 then c.1 else if z = y2 then c.2.1 else if z = y3 then some (.int c.2.2.1 c.2.2.2) else m₀ z) P I it pre s₁ { s₁ with heap := h', toks := tk' } := by
  refine fw_end (m' y1, m' y2, v, t) F N (fun z hz => ?_) hs hof (hp _ _)
  dsimp only
  by_cases e1 : z = y1
  · rw [if_pos e1, e1]
  by_cases e2 : z = y2
  · rw [if_neg e1, if_pos e2, e2]
  by_cases e3 : z = y3
  · rw [if_neg e1, if_neg e2, if_pos e3, e3, h3]
  · rw [if_neg e1, if_neg e2, if_neg e3, hr z hz e1 e2 e3]
end Mine
namespace Mine
theorem hm3 {x y1 y2 y3 : Str} {m₀ : Str → Option Value} {a1 a2 : Option Value} {v : Int} {t : Tok} (h1 : m₀ y1 = a1) (h2 : m₀ y2 = a2) (h3 : m₀ y3 = some (.int v t)) :
    ∀ z, z ≠ x → m₀ z = (if z = y1 then a1 else if z = y2 then a2 else if z = y3 then some (.int v t) else m₀ z) := by
  intro z hz
  by_cases e1 : z = y1
  · rw [if_pos e1, e1, h1]
  by_cases e2 : z = y2
  · rw [if_neg e1, if_pos e2, e2, h2]
  by_cases e3 : z = y3
  · rw [if_neg e1, if_neg e2, if_pos e3, e3, h3]
  · rw [if_neg e1, if_neg e2, if_neg e3]
end Mine
namespace Mine
theorem fw_endW {h₀ : Heap} {L I : Addr} {x y1 y2 y3 : Str} {rest news' : List (Addr × Obj)} {P : List Value → (Option Value × Int × Tok × Int × Tok) → Prop} {it : Obj} {pre : List Value} {s₁ : Shared} {h' : Heap} {tk' : Nat} {m₀ m' : Str → Option Value} {v v2 : Int} {t t2 : Tok}
    (F : Fr h₀ L h' m') (N : News h₀ L h' news') (h2 : m' y2 = some (.int v2 t2)) (h3 : m' y3 = some (.int v t)) (hr : ∀ z, z ≠ x → z ≠ y1 → z ≠ y2 → z ≠ y3 → m' z = m₀ z) (hs : ∀ p ∈ (I, it) :: rest, p ∈ news') (hof : ∀ p ∈ rest, p.1 ≠ I) (hp : ∀ a, P pre (a, v2, t2, v, t)) :
    FwEnd h₀ L x (fun _ => rest) (fun c z => if z = y1 then c.1 else if z = y2 then some (.int c.2.1 c.2.2.1) else if z = y3 then some (.int c.2.2.2.1 c.2.2.2.2) else m₀ z) P I it pre s₁ { s₁ with heap := h', toks := tk' } := by
  refine fw_end (m' y1, v2, t2, v, t) F N (fun z hz => ?_) hs hof (hp _)
  dsimp only
  by_cases e1 : z = y1
  · rw [if_pos e1, e1]
  by_cases e2 : z = y2
  · rw [if_neg e1, if_pos e2, e2, h2]
  by_cases e3 : z = y3
  · rw [if_neg e1, if_neg e2, if_pos e3, e3, h3]
  · rw [if_neg e1, if_neg e2, if_neg e3, hr z hz e1 e2 e3]
theorem hmW {x y1 y2 y3 : Str} {m₀ : Str → Option Value} {a1 : Option Value} {v v2 : Int} {t t2 : Tok} (h1 : m₀ y1 = a1) (h2 : m₀ y2 = some (.int v2 t2)) (h3 : m₀ y3 = some (.int v t)) :
    ∀ z, z ≠ x → m₀ z = (if z = y1 then a1 else if z = y2 then some (.int v2 t2) else if z = y3 then some (.int v t) else m₀ z) := by
  intro z hz
  by_cases e1 : z = y1
  · rw [if_pos e1, e1, h1]
  by_cases e2 : z = y2
  · rw [if_neg e1, if_pos e2, e2, h2]
  by_cases e3 : z = y3
  · rw [if_neg e1, if_neg e2, if_pos e3, e3, h3]
  · rw [if_neg e1, if_neg e2, if_neg e3]
end Mine
namespace Mine
theorem name2 {h₀ h : Heap} {L : Addr} {m : Str → Option Value} {y2 y3 : Str} {v2 v : Int} {G : Prop} (_F : Fr h₀ L h m) (h2 : ∃ t, m y2 = some (.int v2 t)) (h3 : ∃ t, m y3 = some (.int v t))
    (k : ∀ t2 t, m y2 = some (.int v2 t2) → m y3 = some (.int v t) → G) : G := by
  obtain ⟨t2, h2⟩ := h2
  obtain ⟨t3, h3⟩ := h3
  exact k t2 t3 h2 h3
end Mine
-- part PV
namespace Mine
/-- one step of the formula, on values -/
noncomputable def stepV (x v n : Int) : Int :=
  if n % 8 = 6 then v * v
  else if n % 8 = 7 then -1 - v
  else if n % 8 = 0 then v + (n / 8 % 9 + 1)
  else if n % 8 = 1 then v - (n / 8 % 9 + 1)
  else if n % 8 = 2 then v * (n / 8 % 9 + 1)
  else if n % 8 = 3 then v + x
  else if n % 8 = 4 then v - x
  else v * x
noncomputable def drawn (ns : List Int) (x : Int) : Int := ns.foldl (fun v n => stepV x v n) x
theorem drawn_snoc (ns : List Int) (n x : Int) : drawn (ns ++ [n]) x = stepV x (drawn ns x) n := by
  unfold drawn
  rw [List.foldl_append]
  rfl
theorem bd_nine {n : Int} : Bd 4 (n / 8 % 9 + 1) := .lt (by (first | lia | omega)) (by (first | lia | omega))
theorem stepV_bd {B : Nat} {x v n : Int} (hx : Bd B x) (hv : Bd B v) (hB : 4 ≤ B) : Bd (B * 2) (stepV x v n) := by
  have h2 : B + 1 ≤ B * 2 := by (first | lia | omega)
  have h9 : Bd B (n / 8 % 9 + 1) := bd_nine.mono hB
  unfold stepV
  split
  · exact (hv.mul hv).mono (by (first | lia | omega))
  split
  · exact hv.inv.mono h2
  split
  · exact (hv.add h9).mono h2
  split
  · exact (hv.sub h9).mono h2
  split
  · exact (hv.mul h9).mono (by (first | lia | omega))
  split
  · exact (hv.add hx).mono h2
  split
  · exact (hv.sub hx).mono h2
  · exact (hv.mul hx).mono (by (first | lia | omega))
theorem ints_at {vs : List Value} {ns : List Int} (hi : IntsAre vs ns) {pre post : List Value} {v : Value} (e : vs = pre ++ v :: post) : ∃ n t ns1 ns2, v = .int n t ∧ ns = ns1 ++ n :: ns2 ∧ IntsAre pre ns1 ∧ IntsAre post ns2 := by
  subst e
  have : ∀ {pre : List Value} {ns : List Int}, IntsAre (pre ++ v :: post) ns → ∃ n t ns1 ns2, v = .int n t ∧ ns = ns1 ++ n :: ns2 ∧ IntsAre pre ns1 ∧ IntsAre post ns2 := by
    intro pre
    induction pre with
    | nil =>
      intro ns h
      cases h with
      | cons i t h => exact ⟨i, t, [], _, rfl, rfl, .nil, h⟩
    | cons a r ih =>
      intro ns h
      cases h with
      | cons i t h =>
        obtain ⟨n, t', a1, a2, e1, e2, e3, e4⟩ := ih h
        exact ⟨n, t', i :: a1, a2, e1, by rw [e2]; rfl, .cons i t e3, e4⟩
  exact this hi
theorem ints_uniq : ∀ {vs : List Value} {ns ms : List Int}, IntsAre vs ns → IntsAre vs ms → ns = ms
  | _, _, _, .nil, h => by cases h; rfl
  | _, _, _, .cons i t h, h' => by
    cases h' with
    | cons _ _ h'' => rw [ints_uniq h h'']
end Mine
namespace Mine
theorem kind_facts (n : Int) : n.fmod 8 = n % 8 ∧ (n.fdiv 8).fmod 9 + 1 = n / 8 % 9 + 1 := by
  rw [Int.fmod_eq_emod_of_nonneg _ (by decide), Int.fdiv_eq_ediv_of_nonneg _ (by decide), Int.fmod_eq_emod_of_nonneg _ (by decide)]
  exact ⟨rfl, rfl⟩
theorem sv6 {g v n : Int} (h : n.fmod 8 = 6) : v * v = stepV g v n := by
  rw [(kind_facts n).1] at h
  unfold stepV
  rw [if_pos h]
theorem sv7 {g v n : Int} (h : n.fmod 8 = 7) : -1 - v = stepV g v n := by
  rw [(kind_facts n).1] at h
  unfold stepV
  rw [if_neg (by (first | lia | omega)), if_pos h]
theorem svlt {g v n : Int} (h6 : n.fmod 8 ≠ 6) (h7 : n.fmod 8 ≠ 7) (h : n.fmod 8 < 3) : [v + ((n.fdiv 8).fmod 9 + 1), v - ((n.fdiv 8).fmod 9 + 1), v * ((n.fdiv 8).fmod 9 + 1)].getD ((n.fmod 8).fmod 3).toNat 0 = stepV g v n := by
  have e3 : (n.fmod 8).fmod 3 = n % 8 % 3 := by rw [(kind_facts n).1, Int.fmod_eq_emod_of_nonneg _ (by decide)]
  rw [e3, (kind_facts n).2]
  rw [(kind_facts n).1] at h6 h7 h
  unfold stepV
  have : n % 8 = 0 ∨ n % 8 = 1 ∨ n % 8 = 2 := by (first | lia | omega)
  rcases this with e | e | e <;> rw [e] <;> rfl
theorem svge {g v n : Int} (h6 : n.fmod 8 ≠ 6) (h7 : n.fmod 8 ≠ 7) (h : ¬ n.fmod 8 < 3) : [v + g, v - g, v * g].getD ((n.fmod 8).fmod 3).toNat 0 = stepV g v n := by
  have e3 : (n.fmod 8).fmod 3 = n % 8 % 3 := by rw [(kind_facts n).1, Int.fmod_eq_emod_of_nonneg _ (by decide)]
  rw [e3]
  rw [(kind_facts n).1] at h6 h7 h
  unfold stepV
  have : n % 8 = 3 ∨ n % 8 = 4 ∨ n % 8 = 5 := by (first | lia | omega)
  rcases this with e | e | e <;> rw [e] <;> rfl
end Mine
namespace Mine
noncomputable def wstep (g : Int) (c : Int × Int) (s : Int) : Int × Int :=
  if 256 ≤ s then
    (if c.2 = 14 then c.1 + (if s = 256 then g else s - 256) else if c.2 = 15 then c.1 - (if s = 256 then g else s - 256) else if c.2 = 16 then c.1 * (if s = 256 then g else s - 256) else c.1 ^ (if s = 256 then g else s - 256).toNat, c.2)
  else if s = 31 then (Builtin.bitNot c.1, c.2) else (c.1, s)
noncomputable def work (g : Int) (ss : List Int) : Int × Int := ss.foldl (wstep g) (0, 14)
theorem work_snoc (g : Int) (ss : List Int) (s : Int) : work g (ss ++ [s]) = wstep g (work g ss) s := by
  unfold work
  rw [List.foldl_append]
  rfl
structure WOk (g : Int) (c : Int × Int) (s : Int) : Prop where
  m : 256 ≤ s → IntMulOk c.1 (if s = 256 then g else s - 256)
  p : 256 ≤ s → c.2 ≠ 14 → c.2 ≠ 15 → c.2 ≠ 16 → 0 ≤ (if s = 256 then g else s - 256) ∧ (Builtin.Int.intBits c.1 : Int) * (if s = 256 then g else s - 256) ≤ 2 ^ 27
end Mine
namespace Mine
/-- a division whose rest is nearest to nought -/
noncomputable def nearDiv (v d : Int) : Int × Int := if 2 * ((v.fmod d).natAbs : Int) > (d.natAbs : Int) then (v.fdiv d + 1, v.fmod d - d) else (v.fdiv d, v.fmod d)
noncomputable def rstep (c : Int × List Int) (d : Int) : Int × List Int := ((nearDiv c.1 d).1, c.2 ++ [(nearDiv c.1 d).2])
noncomputable def rloop (v : Int) (ds : List Int) : Int × List Int := ds.foldl rstep (v, [])
theorem rloop_snoc (v : Int) (ds : List Int) (d : Int) : rloop v (ds ++ [d]) = rstep (rloop v ds) d := by
  unfold rloop
  rw [List.foldl_append]
  rfl
theorem rloop_len (v : Int) (ds : List Int) : (rloop v ds).2.length = ds.length := by
  have : ∀ (ds : List Int) (c : Int × List Int), (ds.foldl rstep c).2.length = c.2.length + ds.length := by
    intro ds
    induction ds with
    | nil => intro c; rfl
    | cons d r ih =>
      intro c
      rw [List.foldl_cons, ih]
      simp only [rstep, List.length_append, List.length_cons, List.length_nil]
      (first | lia | omega)
  have := this ds (v, [])
  simpa [rloop] using this
theorem fmod_abs_lt {v d : Int} (hd : d ≠ 0) : (v.fmod d).natAbs < d.natAbs := by
  rcases Int.lt_or_gt_of_ne hd with h | h
  · have e : v.fmod d = -((-v).fmod (-d)) := by rw [Int.neg_fmod_neg, Int.neg_neg]
    have h0 := Int.fmod_nonneg_of_pos (-v) (b := -d) (by omega)
    have h1 := Int.fmod_lt_of_pos (-v) (b := -d) (by omega)
    omega
  · have h0 := Int.fmod_nonneg_of_pos v h
    have h1 := Int.fmod_lt_of_pos v h
    omega
theorem quot_bd {B : Nat} {v d q r : Int} (h : d * q + r = v) (hr : r.natAbs ≤ d.natAbs) (hd : 8 ≤ d.natAbs) (hv : Bd B v) (hB : 3 ≤ B) : Bd B q := by
  unfold Bd at *
  have h8 : 2 ^ 3 ≤ 2 ^ B := Nat.pow_le_pow_right (by decide) hB
  have h1 : d.natAbs * q.natAbs ≤ v.natAbs + d.natAbs := by
    rw [← Int.natAbs_mul]
    omega
  have h2 : d.natAbs * (q.natAbs - 1) ≤ v.natAbs := by
    rw [Nat.mul_sub_one]
    omega
  have h3 := Nat.mul_le_mul_right (q.natAbs - 1) hd
  omega
theorem nearDiv_bd {B : Nat} {v d : Int} (hd : 8 ≤ d.natAbs) (hv : Bd B v) (hB : 3 ≤ B) : Bd B (nearDiv v d).1 := by
  have e := Int.mul_fdiv_add_fmod v d
  have hm := fmod_abs_lt (v := v) (d := d) (by omega)
  unfold nearDiv
  split
  · rename_i hc
    refine quot_bd (r := v.fmod d - d) ?_ ?_ hd hv hB
    · rw [Int.mul_add, Int.mul_one]; omega
    · rcases Int.lt_or_le d 0 with h | h
      · have e2 : v.fmod d = -((-v).fmod (-d)) := by rw [Int.neg_fmod_neg, Int.neg_neg]
        have h0 := Int.fmod_nonneg_of_pos (-v) (b := -d) (by omega)
        omega
      · have h0 := Int.fmod_nonneg_of_pos v (b := d) (by omega)
        omega
  · exact quot_bd e (by omega) hd hv hB
end Mine
namespace Mine
theorem nd_pos {v d : Int} (h : (if d < 0 then -d else d) < 2 * if v.fmod d < 0 then -v.fmod d else v.fmod d) : nearDiv v d = (v.fdiv d + 1, v.fmod d - d) := by
  unfold nearDiv
  rw [if_pos]
  split at h <;> split at h <;> omega
theorem nd_neg {v d : Int} (h : ¬ (if d < 0 then -d else d) < 2 * if v.fmod d < 0 then -v.fmod d else v.fmod d) : nearDiv v d = (v.fdiv d, v.fmod d) := by
  unfold nearDiv
  rw [if_neg]
  split at h <;> split at h <;> omega
end Mine
-- part TX
namespace Mine
section
open PySem.Calls PySem.Spec PySem.Builtin PySem.Builtin.Str
variable {prog : Program} {w : World} {A : Around} {E : Value → Shared → Prop} {s : Shared} {value slice : PySem.Expr} {x y z : Str} {t u : Tok} {h₀ : Heap} {L : Addr} {m : Str → Option Value} {news : List (Addr × Obj)} {Q : Value → Shared → Prop}
theorem tx_size (hl : x.length ≤ 10000) : x.length ≤ sizeLine := by rw [sizeLine_eq]; (first | lia | omega)
theorem tx_ns {j : Int} {uj : Tok} (hF : Fr h₀ L s.heap m) (hN : News h₀ L s.heap news) (e : Txt.slice x none (some j) = y) (hl : x.length ≤ 10000) (h : ∀ h' t' k, Fr h₀ L h' m → News h₀ L h' news → Q (.str y t') { s with heap := h', toks := k })
    (hs : subscripted slice false (.str x t) (.ref s.heap.objs.size) = operate [.ref s.heap.objs.size, .str x t] (getItem (.str x t) (.ref s.heap.objs.size)) := by with_unfolding_all rfl)
    (ht : ∀ r, letTemporaryGo value (.str x t) r = pure () := by intro _; with_unfolding_all rfl) :
    wpAny (model prog w) A (subscriptTail value slice (.str x t) (.ref s.heap.objs.size)) Q E { s with heap := s.heap.push { cls := .type "slice", data := .fields #[.none, .int j uj, .none] } } :=
  slice_strN_ns hF hN (fun h' t' k f n => by rw [e]; exact h h' t' k f n) hs ht (tx_size hl)
theorem tx_sn {i : Int} {ui : Tok} (hF : Fr h₀ L s.heap m) (hN : News h₀ L s.heap news) (e : Txt.slice x (some i) none = y) (hl : x.length ≤ 10000) (h : ∀ h' t' k, Fr h₀ L h' m → News h₀ L h' news → Q (.str y t') { s with heap := h', toks := k })
    (hs : subscripted slice false (.str x t) (.ref s.heap.objs.size) = operate [.ref s.heap.objs.size, .str x t] (getItem (.str x t) (.ref s.heap.objs.size)) := by with_unfolding_all rfl)
    (ht : ∀ r, letTemporaryGo value (.str x t) r = pure () := by intro _; with_unfolding_all rfl) :
    wpAny (model prog w) A (subscriptTail value slice (.str x t) (.ref s.heap.objs.size)) Q E { s with heap := s.heap.push { cls := .type "slice", data := .fields #[.int i ui, .none, .none] } } :=
  slice_strN_sn hF hN (fun h' t' k f n => by rw [e]; exact h h' t' k f n) hs ht (tx_size hl)
theorem tx_ss {i j : Int} {ui uj : Tok} (hF : Fr h₀ L s.heap m) (hN : News h₀ L s.heap news) (e : Txt.slice x (some i) (some j) = y) (hl : x.length ≤ 10000) (h : ∀ h' t' k, Fr h₀ L h' m → News h₀ L h' news → Q (.str y t') { s with heap := h', toks := k })
    (hs : subscripted slice false (.str x t) (.ref s.heap.objs.size) = operate [.ref s.heap.objs.size, .str x t] (getItem (.str x t) (.ref s.heap.objs.size)) := by with_unfolding_all rfl)
    (ht : ∀ r, letTemporaryGo value (.str x t) r = pure () := by intro _; with_unfolding_all rfl) :
    wpAny (model prog w) A (subscriptTail value slice (.str x t) (.ref s.heap.objs.size)) Q E { s with heap := s.heap.push { cls := .type "slice", data := .fields #[.int i ui, .int j uj, .none] } } :=
  slice_strN_ss hF hN (fun h' t' k f n => by rw [e]; exact h h' t' k f n) hs ht (tx_size hl)
theorem tx_item {i : Int} {u : Tok} (h1 : 0 ≤ i) (h2 : i < x.length) (hl : x.length ≤ 10000) (e : Txt.item x i = y) (h : Q (.str y s.toks) { s with toks := s.toks + 1 })
    (hs : subscripted slice false (.str x t) (.int i u) = operate [.str x t, .int i u] (getItem (.str x t) (.int i u)) := by with_unfolding_all rfl)
    (ht : ∀ r, letTemporaryGo value (.str x t) r = pure () := by intro _; with_unfolding_all rfl) :
    wpAny (model prog w) A (subscriptTail value slice (.str x t) (.int i u)) Q E s :=
  item_str (fitsSsize_of (N := 9223372036854775808) (by (first | lia | omega)) (by (first | lia | omega)) (Int.le_refl _)) (by (first | lia | omega)) h2 (fun _ => by rw [e]; exact h) hs ht
theorem tx_find (e : Txt.find x z = i) (h : ∀ t' k, Q (.int i t') { s with toks := k }) : wpAny (model prog w) A (call (.builtin "str.find") [.str x t, .str z u]) Q E s := KXw.find e h
theorem tx_find3 {i : Int} {v : Tok} {r : Int} (e : Txt.find3 x z i = r) (h : Q (.int r s.toks) { s with toks := s.toks + 1 }) : wpAny (model prog w) A (call (.builtin "str.find") [.str x t, .str z u, .int i v]) Q E s :=
  SC.find3 (by rw [e]; exact h)
theorem tx_split {a b c d e : Str} (hF : Fr h₀ L s.heap m) (hN : News h₀ L s.heap news) (hy : (y.length == 0) = false) (hl : x.length ≤ 10000) (hs : Txt.split x y = [a, b, c, d, e])
    (h : ∀ D t1 t2 t3 t4 t5 h' k, Fr h₀ L h' m → News h₀ L h' ((D, listOf #[.str a t1, .str b t2, .str c t3, .str d t4, .str e t5] 0) :: news) → (∀ p ∈ news, p.1 < D) → Q (.ref D) { s with heap := h', toks := k }) :
    wpAny (model prog w) A (call (.builtin "str.split") [.str x t, .str y u]) Q E s := by
  refine KSpl.split1 hF hN hy (fun D l h' k e1 a1 F N l1 => ?_) (by rw [sizeLine_eq]; (first | lia | omega))
  rw [hs] at e1
  obtain ⟨t1, l1', r1, f1⟩ := KSpl.cons_of e1
  subst r1
  obtain ⟨t2, l2', r2, f2⟩ := KSpl.cons_of f1
  subst r2
  obtain ⟨t3, l3', r3, f3⟩ := KSpl.cons_of f2
  subst r3
  obtain ⟨t4, l4', r4, f4⟩ := KSpl.cons_of f3
  subst r4
  obtain ⟨t5, l5', r5, f5⟩ := KSpl.cons_of f4
  subst r5
  have f6 := KSpl.nil_of f5
  subst f6
  exact h D t1 t2 t3 t4 t5 h' k F N l1
theorem tx_cat {a b y : Str} {t u : Tok} (hl : a.length + b.length ≤ 100000) (e : a ++ b = y) (h : ∀ t' tk, Q (.str y t') { s with toks := tk }) : wpAny (model prog w) A (binaryOp .Add (.str a t) (.str b u)) Q E s :=
  PyProof.Rows.add_str (fun t' tk => by rw [e]; exact h t' tk) (by rw [sizeLine_eq]; (first | lia | omega))
theorem str_len (f : List Nat) : (⟨f.toArray⟩ : Str).length = f.length := rfl
theorem str_snoc (f : List Nat) (c : Nat) : (⟨f.toArray⟩ : Str) ++ (⟨#[c]⟩ : Str) = ⟨(f ++ [c]).toArray⟩ := by
  show (⟨f.toArray ++ #[c]⟩ : Str) = _
  simp
end
end Mine
-- part WH
namespace Mine
open PySem.Calls PySem.Spec
section
variable {prog : Program} {w : World} {A : Around} {E : Value → Shared → Prop} {s : Shared} {env : Env} {h₀ : Heap} {L : Addr} {test : PySem.Expr} {body orelse : List Stmt} {Q : Flow → Shared → Prop}
noncomputable def WhEnd {σ : Type} (h₀ : Heap) (L : Addr) (Led : σ → List (Addr × Obj)) (M : σ → Str → Option Value) (P : σ → Prop) (μ : σ → Nat) (c₁ : σ) (s₁ s₂ : Shared) : Prop :=
  ∃ (c : σ) (h' : Heap) (tk' : Nat) (m' : Str → Option Value) (news' : List (Addr × Obj)),
    s₂ = { s₁ with heap := h', toks := tk' } ∧ Fr h₀ L h' m' ∧ (∀ z, m' z = M c z) ∧ News h₀ L h' news' ∧ (∀ p ∈ Led c, p ∈ news') ∧ μ c < μ c₁ ∧ P c
noncomputable def WhPost {σ : Type} (h₀ : Heap) (L : Addr) (Led : σ → List (Addr × Obj)) (M : σ → Str → Option Value) (P : σ → Prop) (μ : σ → Nat) (c₁ : σ) (s₁ : Shared) (Q : Flow → Shared → Prop) (f : Flow) (s₂ : Shared) : Prop :=
  match f with
  | .ret v => Q (.ret v) s₂
  | .brk => Q .next s₂
  | _ => WhEnd h₀ L Led M P μ c₁ s₁ s₂
theorem wh_end {σ : Type} {Led : σ → List (Addr × Obj)} {M : σ → Str → Option Value} {P : σ → Prop} {μ : σ → Nat} {c₁ : σ} {s₁ : Shared} {h' : Heap} {tk' : Nat} {m' : Str → Option Value} {news' : List (Addr × Obj)}
    (c : σ) (F : Fr h₀ L h' m') (N : News h₀ L h' news') (hmap : ∀ z, m' z = M c z) (hs : ∀ p ∈ Led c, p ∈ news') (hlt : μ c < μ c₁) (hp : P c) :
    WhEnd h₀ L Led M P μ c₁ s₁ { s₁ with heap := h', toks := tk' } := ⟨c, h', tk', m', news', rfl, F, hmap, N, hs, hlt, hp⟩
/-- a while by a state of one's own -/
theorem wh_loop {σ : Type} {m₀ : Str → Option Value} (Led : σ → List (Addr × Obj)) (M : (Str → Option Value) → σ → Str → Option Value) (P : σ → Prop) (μ : σ → Nat) (c₀ : σ) (hE : PassesOwn (model prog w) A env E)
    (F : Fr h₀ L s.heap m₀) (hM : ∀ z, m₀ z = M m₀ c₀ z) (N : News h₀ L s.heap (Led c₀)) (hp : P c₀)
    (turn : ∀ (c : σ) h tk, P c → Fr h₀ L h (M m₀ c) → News h₀ L h (Led c) →
      wpAny (model prog w) A (isTrue test env (eval test env)) (fun b s₂ => WhlIf b (wpAny (model prog w) A (execs body env) (WhPost h₀ L Led (M m₀) P μ c { s with heap := h, toks := tk } Q) E s₂) (wpAny (model prog w) A (execs orelse env) Q E s₂)) E { s with heap := h, toks := tk }) :
    WhlRest prog w A E env test body orelse Q 0 s := by
  have main : ∀ n, ∀ (c : σ) (h : Heap) (tk : Nat), μ c ≤ n → P c → Fr h₀ L h (M m₀ c) → News h₀ L h (Led c) → WhlRest prog w A E env test body orelse Q 0 { s with heap := h, toks := tk } := by
    intro n
    induction n with
    | zero =>
      intro c h tk hn hpc F' N'
      refine whl_turn (k := 0) hE (wpAny_mono (turn c h tk hpc F' N') (fun b s₂ hb => ?_) fun _ _ e => e)
      cases b with
      | false => exact hb
      | true =>
        unfold WhlIf at hb ⊢
        rw [if_pos rfl] at hb ⊢
        refine wpAny_mono hb (fun f s₃ hf => ?_) fun _ _ e => e
        cases f with
        | ret v => exact hf
        | brk => exact hf
        | next => obtain ⟨c', h', tk', m', news', e1, F2, hm2, N2, hs2, hlt, hp2⟩ := hf; (first | lia | omega)
        | cont => obtain ⟨c', h', tk', m', news', e1, F2, hm2, N2, hs2, hlt, hp2⟩ := hf; (first | lia | omega)
    | succ n ih =>
      intro c h tk hn hpc F' N'
      refine whl_turn (k := 0) hE (wpAny_mono (turn c h tk hpc F' N') (fun b s₂ hb => ?_) fun _ _ e => e)
      cases b with
      | false => exact hb
      | true =>
        unfold WhlIf at hb ⊢
        rw [if_pos rfl] at hb ⊢
        refine wpAny_mono hb (fun f s₃ hf => ?_) fun _ _ e => e
        have fin : WhEnd h₀ L Led (M m₀) P μ c { s with heap := h, toks := tk } s₃ → WhlRest prog w A E env test body orelse Q 0 s₃ := by
          rintro ⟨c', h', tk', m', news', rfl, F2, hm2, N2, hs2, hlt, hp2⟩
          have e : m' = M m₀ c' := funext hm2
          rw [e] at F2
          exact ih c' h' tk' (by (first | lia | omega)) hp2 F2 (fun p hp => N2 p (hs2 p hp))
        cases f with
        | ret v => exact hf
        | brk => exact hf
        | next => exact fin hf
        | cont => exact fin hf
  have e : m₀ = M m₀ c₀ := funext hM
  rw [e] at F
  exact main (μ c₀) c₀ s.heap s.toks (Nat.le_refl _) hp (by rw [← e] at F ⊢; exact F) N
end
noncomputable def Hold (P : Prop) : Prop := P
theorem Hold.out {P : Prop} (h : Hold P) : P := h
theorem Hold.mk {P : Prop} (h : P) : Hold P := h
theorem item_at {x : Str} {a b : List Nat} {c : Nat} {i : Int} (hx : x.cps.toList = a ++ c :: b) (hi : i = a.length) : Txt.item x i = ⟨#[c]⟩ ∧ 0 ≤ i ∧ i < x.length := by
  have hl : x.length = a.length + (b.length + 1) := by
    show x.cps.size = _
    rw [← Array.length_toList, hx, List.length_append, List.length_cons]
  have h1 : (0 : Int) ≤ i := by (first | lia | omega)
  have h2 : i < (x.length : Int) := by (first | lia | omega)
  refine ⟨?_, h1, h2⟩
  unfold Txt.item Txt.charAt seqIndex?
  have e1 : ¬ i < 0 := by (first | lia | omega)
  simp only [e1, if_false, decide_eq_true h1, decide_eq_true h2, Bool.and_self, if_true, Option.bind_some]
  have e2 : i.toNat = a.length := by (first | lia | omega)
  rw [e2, ← Array.getElem?_toList, hx]
  simp
end Mine
-- part EN
namespace Mine
open PySem.Spec PySem.Calls PyProof.Rows.LCg
noncomputable def EnEnd (h₀ : Heap) (L : Addr) (m : Str → Option Value) (s₁ : Shared) (led : List (Addr × Obj)) (rest : Value → Prop) (y : Value) (s₂ : Shared) : Prop :=
  ∃ h' tk, s₂ = { s₁ with heap := h', toks := tk } ∧ Fr h₀ L h' m ∧ News h₀ L h' led ∧ rest y
theorem EnEnd.intro {h₀ : Heap} {L : Addr} {m : Str → Option Value} {s₁ : Shared} {led all : List (Addr × Obj)} {rest : Value → Prop} {y : Value} {h' : Heap} {tk : Nat} (F : Fr h₀ L h' m) (N : News h₀ L h' all) (sub : ∀ p ∈ led, p ∈ all) (r : rest y) :
    EnEnd h₀ L m s₁ led rest y { s₁ with heap := h', toks := tk } := ⟨h', tk, rfl, F, fun p hp => N p (sub p hp), r⟩
noncomputable def Off4 (I J C D : Addr) (news : List (Addr × Obj)) : Prop := ∀ p ∈ news, p.1 ≠ I ∧ p.1 ≠ J ∧ p.1 ≠ C ∧ p.1 ≠ D
noncomputable def Ne4 (I J C D : Addr) : Prop := (@Ne Nat I J) ∧ (@Ne Nat I C) ∧ (@Ne Nat I D) ∧ (@Ne Nat J C) ∧ (@Ne Nat J D) ∧ (@Ne Nat C D)
noncomputable def EnRest (prog : Program) (w : World) (A : Around) (h₀ : Heap) (L : Addr) (m : Str → Option Value) (env : Env) (elt : Expr) (x x₂ : Str) (scope : Scope) (cl : List (Str × Addr)) (s : Shared) (news : List (Addr × Obj))
    (Fin : List Value → Prop) : Nat → List Value → List Value → Prop
  | _, [], ys => Fin ys
  | i, v :: r, ys => ∀ (t : Tok) I oI J oJ C oC D m₂ h tk (E' : Value → Shared → Prop), NsObj oC m₂ → m₂ x = some (.int (i : Int) t) → m₂ x₂ = some v → Fr h₀ L h m → News h₀ L h ((I, oI) :: (J, oJ) :: (C, oC) :: (D, lst ys) :: news) → Off4 I J C D news → Ne4 I J C D →
      wpAny (model prog w) A (eval elt (compEnvC scope cl C env)) (EnEnd h₀ L m { s with heap := h, toks := tk } ((I, oI) :: (J, oJ) :: (C, oC) :: (D, lst ys) :: news) (fun y => EnRest prog w A h₀ L m env elt x x₂ scope cl s news Fin (i + 1) r (ys ++ [y]))) E' { s with heap := h, toks := tk }
section
variable {prog : Program} {w : World} {A : Around} {E : Value → Shared → Prop} {s : Shared} {h₀ : Heap} {L : Addr} {m : Str → Option Value} {env : Env}
theorem block_E {elt iter : Expr} {x x₂ : Str} {px px₂ tp : Pos} {tk} {scope : Scope} {cl : List (Str × Addr)} {pos : Pos} {s₂ : Shared} {I J ax : Addr} {old : Value} {vs : List Value} {news : List (Addr × Obj)}
    {Fin : List Value → Prop} {RR : Value → Addr → Result → Shared → Prop}
    (hh : A.handled = none) (hIJ : I ≠ J) (hsz : vs.length ≤ sizeLine) (hS : SrcAt h₀ ax vs.toArray news)
    (hcell : ∀ y ∈ scope.names, y.2 ≠ .cell) (hkind : scope.kind = .function) (hx : scope.names.lookup x = some .local) (hx₂ : scope.names.lookup x₂ = some .local) (hxx : x ≠ x₂)
    (hI : IsEnum s₂.heap I J 0 old) (hJ : s₂.heap.IsListIter J ax 0)
    (F : Fr h₀ L s₂.heap m) (N : News h₀ L s₂.heap news) (hIL : L ≠ I) (hJL : L ≠ J) (hI₀ : h₀.get? I = none) (hJ₀ : h₀.get? J = none) (offI : ∀ p ∈ news, p.1 ≠ I) (offJ : ∀ p ∈ news, p.1 ≠ J)
    (R : EnRest prog w A h₀ L m env elt x x₂ scope cl s₂ news Fin 0 vs [])
    (hRR : ∀ D C h tk m' ys, Fr h₀ L h m → News h₀ L h ((D, lst ys) :: news) → Off1 D news → h.Ns C m' → h₀.get? C = none → h₀.get? D = none → C ≠ L → D ≠ L → C ≠ D → (∀ p ∈ news, p.1 ≠ C) → Fin ys → RR (.ref D) C (.ok .next) { s₂ with heap := h, toks := tk }) :
    wpAny (model prog w) A (newList []) (fun acc s₃ => wpAny (model prog w) A (newFunctionEnv scope env.globals cl [] env.qual none .none (some env)) (fun cenv s₄ =>
      codeAny (model prog w) A (.compStart (.ListComp elt [⟨.Tuple [.Name x px, .Name x₂ px₂] tk tp, iter, [], 0⟩] scope pos) 0 (.ref I) acc { cenv with scope := relabel scope env }) (RR acc cenv.locals) s₄) E s₃) E s₂ := by
  have hl₂ : s₂.heap.IsList ax vs.toArray := hS.list F.keep N
  have haxlt : ax < s₂.heap.objs.size := by obtain ⟨_, e, _⟩ := hl₂; exact Heap.lt_size e
  have hIlt : I < s₂.heap.objs.size := Heap.lt_size hI
  have hJlt : J < s₂.heap.objs.size := by obtain ⟨_, e, _⟩ := hJ; exact Heap.lt_size e
  have haxI : ax ≠ I := by
    rcases hS with ⟨o, e, _⟩ | ⟨o, hm, _⟩
    · rintro rfl; rw [hI₀] at e; cases e
    · exact offI _ hm
  have haxJ : ax ≠ J := by
    rcases hS with ⟨o, e, _⟩ | ⟨o, hm, _⟩
    · rintro rfl; rw [hJ₀] at e; cases e
    · exact offJ _ hm
  have W := WalksT.enumerate (prog := prog) (w := w) hh I J ax hIJ haxI haxJ vs.toArray
  refine wpAny_newObj_type (wpAny_newFunctionEnv hcell (by intro y hy; simp at hy) (fun h₁ hns₁ hsb₁ => ?_) hkind)
  dsimp only at hns₁ hsb₁ ⊢
  generalize hH2 : s₂.heap.push { cls := .type "list", dict := none, data := .seq ([] : List Value).toArray } = H2 at hns₁ hsb₁ ⊢
  have hC : H2.objs.size = s₂.heap.objs.size + 1 := by rw [← hH2, Heap.size_push]
  have hDC : s₂.heap.objs.size ≠ H2.objs.size := by rw [hC]; exact Nat.ne_of_lt (Nat.lt_succ_self _)
  have below : ∀ b, b < s₂.heap.objs.size → b ≠ H2.objs.size ∧ b ≠ s₂.heap.objs.size := fun b hb => ⟨by rw [hC]; exact Nat.ne_of_lt (Nat.lt_succ_of_lt hb), Nat.ne_of_lt hb⟩
  have old : ∀ b o, s₂.heap.get? b = some o → h₁.get? b = some o := fun b o e => hsb₁.extBut b o (below b (Heap.lt_size e)).1 (Heap.get?_push_of_some _ (hH2 ▸ Heap.get?_push_of_some _ e))
  have hacc : h₁.get? s₂.heap.objs.size = some (lst []) := hsb₁.extBut _ _ hDC (Heap.get?_push_of_some _ (hH2 ▸ Heap.get?_push_size _ rfl))
  have fresh : ∀ a, s₂.heap.objs.size ≤ a → s₂.heap.get? a = none := fun a ha => by
    cases e : s₂.heap.get? a with
    | none => rfl
    | some o' => exact absurd (Heap.lt_size e) (Nat.not_lt.mpr ha)
  have fresh₀ : ∀ a, s₂.heap.objs.size ≤ a → h₀.get? a = none := fun a ha => by
    cases e : h₀.get? a with
    | none => rfl
    | some o' => have := F.keep a o' e; rw [fresh a ha] at this; cases this
  have hD₀ : h₀.get? s₂.heap.objs.size = none := fresh₀ _ (Nat.le_refl _)
  have hC₀ : h₀.get? H2.objs.size = none := fresh₀ _ (by rw [hC]; exact Nat.le_succ _)
  have hLlt : L < s₂.heap.objs.size := F.ns.lt
  have hDL : s₂.heap.objs.size ≠ L := Ne.symm (below L hLlt).2
  have hCL : H2.objs.size ≠ L := Ne.symm (below L hLlt).1
  have hCI : I ≠ H2.objs.size := (below I hIlt).1
  have hDI : I ≠ s₂.heap.objs.size := (below I hIlt).2
  have hCJ : J ≠ H2.objs.size := (below J hJlt).1
  have hDJ : J ≠ s₂.heap.objs.size := (below J hJlt).2
  have hCa : ax ≠ H2.objs.size := (below ax haxlt).1
  have hDa : ax ≠ s₂.heap.objs.size := (below ax haxlt).2
  have off₀ : Off4 I J H2.objs.size s₂.heap.objs.size news := fun p hp => ⟨offI p hp, offJ p hp, (below _ (Heap.lt_size (N p hp).1)).1, (below _ (Heap.lt_size (N p hp).1)).2⟩
  have ne4 : Ne4 I J H2.objs.size s₂.heap.objs.size := ⟨hIJ, hCI, hDI, hCJ, hDJ, Ne.symm hDC⟩
  have loop : ∀ s₃ : Shared, s₃ = { s₂ with heap := h₁, toks := s₂.toks + ([] : List (Str × Value)).length } →
      codeAny (model prog w) A (.compLoop (.ListComp elt [⟨.Tuple [.Name x px, .Name x₂ px₂] tk tp, iter, [], 0⟩] scope pos) 0 (.ref I) (.ref s₂.heap.objs.size) (compEnvC scope cl H2.objs.size env))
        (RR (.ref s₂.heap.objs.size) H2.objs.size) s₃ := by
    rintro s₃ rfl
    refine LCp.codeAny_compLoop_pair
      (fun k s' => ∃ h' tk i ys m', s' = { s₂ with heap := h', toks := tk } ∧ i ≤ vs.length ∧ k = vs.length + 1 - i ∧ ys.length = i ∧ (((∃ old, IsEnum h' I J i old) ∧ h'.IsListIter J ax i ∧ h'.IsList ax vs.toArray)) ∧ Fr h₀ L h' m ∧ h'.Ns H2.objs.size m' ∧ News h₀ L h' ((s₂.heap.objs.size, lst ys) :: news) ∧
        EnRest prog w A h₀ L m env elt x x₂ scope cl s₂ news Fin i (vs.drop i) ys) ?_ (vs.length + 1)
      ⟨h₁, _, 0, [], _, rfl, Nat.zero_le _, rfl, rfl, ⟨⟨_, old _ _ hI⟩, hJ.at fun o e => old _ _ e, hl₂.at fun o e => old _ _ e⟩, F.keeps old, hns₁, fun p hp => ?_, R⟩
    · rintro k s' ⟨h', tk, i, ys, m', rfl, hi, rfl, hyl, hst', F', hn', N', R'⟩
      by_cases hlt : i < vs.length
      · have hdrop : vs.drop i = vs[i] :: vs.drop (i + 1) := List.drop_eq_getElem_cons hlt
        rw [hdrop] at R'
        refine W.item i _ _ _ (by simpa using hlt) hst' fun T vals h₂ tk₂ hP hT hTup hMid hk₂ => ?_
        obtain ⟨t, v, hv, rfl⟩ := hP
        have hv' : v = vs[i] := by simpa [hlt] using hv.symm
        subst hv'
        have hTw := W.apart _ _ _ hMid
        refine W.go _ _ _ _ _ _ _ _ hMid fun h₃ hst₃ hk₃ => ?_
        have hTup₃ : h₃.IsTuple T #[.int (i : Int) t, vs[i]] := hTup.at fun o e => hk₃ T o hTw e
        have k3 : ∀ b o, b ≠ I → b ≠ J → h'.get? b = some o → h₃.get? b = some o := fun b o h1 h2 e =>
          hk₃ b o (by simp [h1, h2]) (hk₂ b o (by simp [h1, h2]) e)
        refine kcp_assign hh hTup₃ (lookup_relabel_local hx) (lookup_relabel_local hx₂) (by simp [compEnvC, relabel, hkind]) (hn'.at' fun o e => k3 _ o (Ne.symm hCI) (Ne.symm hCJ) e) fun h₄ tk₄ hn₄ hk₄ => ?_
        have k4 : ∀ b o, b ≠ I → b ≠ J → b ≠ H2.objs.size → h'.get? b = some o → h₄.get? b = some o := fun b o h1 h2 h3 e => hk₄ b o h3 (k3 b o h1 h2 e)
        obtain ⟨⟨old₃, hE₃⟩, hJ₃, hl₃⟩ := hst₃
        have hE₄ : IsEnum h₄ I J ((i + 1 : Nat) : Int) old₃ := hk₄ _ _ hCI hE₃
        have hJ₄ : h₄.IsListIter J ax (i + 1) := hJ₃.at fun o e => hk₄ _ o hCJ e
        have hJ₄' := hJ₄
        obtain ⟨oJ, heJ, rJ⟩ := hJ₄'
        obtain ⟨oC, heC, hoC⟩ := ns_obj hn₄
        have F₄ : Fr h₀ L h₄ m := ⟨F'.ns.at' fun o e => k4 _ o hIL hJL (Ne.symm hCL) e, fun b o e => k4 b o (fun q => by rw [q, hI₀] at e; cases e) (fun q => by rw [q, hJ₀] at e; cases e) (fun q => by rw [q, hC₀] at e; cases e) (F'.keep b o e), F'.above⟩
        have N₄ : News h₀ L h₄ ((I, _) :: (J, oJ) :: (H2.objs.size, oC) :: (s₂.heap.objs.size, lst ys) :: news) := fun p hp => by
          rcases List.mem_cons.mp hp with rfl | hp
          · exact ⟨hE₄, Ne.symm hIL, hI₀⟩
          rcases List.mem_cons.mp hp with rfl | hp
          · exact ⟨heJ, Ne.symm hJL, hJ₀⟩
          rcases List.mem_cons.mp hp with rfl | hp
          · exact ⟨heC, hCL, hC₀⟩
          have z := N' p hp
          rcases List.mem_cons.mp hp with rfl | hp
          · exact ⟨k4 _ _ (Ne.symm hDI) (Ne.symm hDJ) hDC z.1, z.2⟩
          · exact ⟨k4 _ _ (off₀ p hp).1 (off₀ p hp).2.1 (off₀ p hp).2.2.1 z.1, z.2⟩
        refine wpAny_mono (R' t I _ J oJ H2.objs.size oC s₂.heap.objs.size _ h₄ _ _ hoC (by simp [hxx]) (by simp) F₄ N₄ off₀ ne4) (fun y s₅ h₅ => ?_) fun _ _ e => e
        obtain ⟨h₅, tk₅, rfl, F₅, N₅, R₅⟩ := h₅
        have zI := (N₅ _ (List.mem_cons_self)).1
        have zJ := (N₅ (J, oJ) (List.mem_cons_of_mem _ List.mem_cons_self)).1
        have zC := (N₅ (H2.objs.size, oC) (List.mem_cons_of_mem _ (List.mem_cons_of_mem _ List.mem_cons_self))).1
        have zD := (N₅ (s₂.heap.objs.size, lst ys) (List.mem_cons_of_mem _ (List.mem_cons_of_mem _ (List.mem_cons_of_mem _ List.mem_cons_self)))).1
        have N₅' : News h₀ L h₅ news := fun q hq => N₅ q (List.mem_cons_of_mem _ (List.mem_cons_of_mem _ (List.mem_cons_of_mem _ (List.mem_cons_of_mem _ hq))))
        refine append_at (hsz := by show ys.toArray.size ≤ sizeLine; rw [List.size_toArray, hyl]; exact Nat.le_trans hi hsz) zD fun h₆ hs₆ hD₆ => ?_
        have hl₅ : h₅.IsList ax vs.toArray := hS.list F₅.keep N₅'
        refine ⟨vs.length + 1 - (i + 1), by (first | lia | omega), h₆, tk₅, i + 1, ys ++ [y], _, rfl, hlt, rfl, by rw [List.length_append, List.length_singleton, hyl], ⟨⟨_, hs₆.extBut _ _ hDI zI⟩, ⟨oJ, hs₆.extBut _ _ hDJ zJ, rJ⟩, hl₅.at fun o e => hs₆.extBut _ o hDa e⟩, F₅.change hs₆ hDL hD₀,
          (hoC.ns zC).sameBut hs₆ (Ne.symm hDC), fun q hq => ?_, R₅⟩
        rcases List.mem_cons.mp hq with rfl | hq
        · exact ⟨hD₆.trans (congrArg some (lst_snoc ys y)), hDL, hD₀⟩
        · exact ⟨hs₆.extBut _ _ (off₀ q hq).2.2.2 (N₅' q hq).1, (N₅' q hq).2⟩
      · obtain rfl : i = vs.length := Nat.le_antisymm hi (Nat.not_lt.mp hlt)
        rw [List.drop_length] at R'
        refine W.done _ _ _ (by simpa using hst') fun h₂ tk₂ hk₂ => ?_
        have k2 : ∀ b o, b ≠ I → b ≠ J → h'.get? b = some o → h₂.get? b = some o := fun b o h1 h2 e => hk₂ b o (by simp [h1, h2]) e
        refine hRR _ _ h₂ tk₂ _ ys ⟨F'.ns.at' fun o e => k2 _ o hIL hJL e, fun b o e => k2 b o (fun q => by rw [q, hI₀] at e; cases e) (fun q => by rw [q, hJ₀] at e; cases e) (F'.keep b o e), F'.above⟩ (fun p hp => ?_) ?_ (hn'.at' fun o e => k2 _ o (Ne.symm hCI) (Ne.symm hCJ) e) hC₀ hD₀ hCL hDL (Ne.symm hDC) (fun p hp => (off₀ p hp).2.2.1) R'
        · have z := N' p hp
          rcases List.mem_cons.mp hp with rfl | hp
          · exact ⟨k2 _ _ (Ne.symm hDI) (Ne.symm hDJ) z.1, z.2⟩
          · exact ⟨k2 _ _ (off₀ p hp).1 (off₀ p hp).2.1 z.1, z.2⟩
        · have : ∀ l : List (Addr × Obj), (∀ p ∈ l, p.1 ≠ s₂.heap.objs.size) → Off1 s₂.heap.objs.size l := by
            intro l
            induction l with
            | nil => intro _; trivial
            | cons p r ih => intro h; exact ⟨h p List.mem_cons_self, ih fun q hq => h q (List.mem_cons_of_mem _ hq)⟩
          exact this _ fun p hp => (off₀ p hp).2.2.2
    · rcases List.mem_cons.mp hp with rfl | hp
      · exact ⟨hacc, hDL, hD₀⟩
      · exact ⟨old _ _ (N p hp).1, (N p hp).2⟩
  exact codeAny_compStart_list (loop _ rfl) (W.self 0 _ _ _ ⟨⟨_, old _ _ hI⟩, hJ.at fun o e => old _ _ e, hl₂.at fun o e => old _ _ e⟩ (loop _ rfl))
noncomputable def SrcE (prog : Program) (w : World) (A : Around) (h₀ : Heap) (L : Addr) (m : Str → Option Value) (env : Env) (elt : Expr) (x x₂ : Str) (scope : Scope) (cl : List (Str × Addr)) (Fin : Shared → List Value → List (Addr × Obj) → Prop) (xv : Value) (s₁ : Shared) : Prop :=
  ∃ I J ax vs news old, xv = .ref I ∧ A.handled = none ∧ Fr h₀ L s₁.heap m ∧ News h₀ L s₁.heap news ∧ SrcAt h₀ ax (List.toArray vs) news ∧ vs.length ≤ sizeLine ∧ I ≠ J ∧ IsEnum s₁.heap I J 0 old ∧ s₁.heap.IsListIter J ax 0 ∧ L ≠ I ∧ L ≠ J ∧ h₀.get? I = none ∧ h₀.get? J = none ∧ (∀ p ∈ news, p.1 ≠ I) ∧ (∀ p ∈ news, p.1 ≠ J) ∧
    EnRest prog w A h₀ L m env elt x x₂ scope cl s₁ news (fun ys => Fin s₁ ys news) 0 vs []
theorem enum_src {elt : Expr} {x x₂ : Str} {scope : Scope} {cl : List (Str × Addr)} {Fin : Shared → List Value → List (Addr × Obj) → Prop} {ax : Addr} {vs : List Value} {k : Nat} {news : List (Addr × Obj)}
    (hh : A.handled = none) (F : Fr h₀ L s.heap m) (N : News h₀ L s.heap news) (hm : (ax, ({ cls := .type "list", data := .seq vs.toArray k } : Obj)) ∈ news) (hsz : vs.length ≤ sizeLine)
    (h : ∀ g, EnRest prog w A h₀ L m env elt x x₂ scope cl { s with heap := g } news (fun ys => Fin { s with heap := g } ys news) 0 vs []) :
    wpAny (model prog w) A (call (.type "enumerate") [.ref ax]) (SrcE prog w A h₀ L m env elt x x₂ scope cl Fin) E s := by
  have hl : s.heap.IsList ax vs.toArray := ⟨_, (N _ hm).1, rfl, _, rfl⟩
  refine call_enumerate_list hl fun h' hE hI hsz' hk => ?_
  have fresh₀ : ∀ a, s.heap.objs.size ≤ a → h₀.get? a = none := fun a ha => by
    cases e : h₀.get? a with
    | none => rfl
    | some o' => exact absurd (Heap.lt_size (F.keep a o' e)) (Nat.not_lt.mpr ha)
  have hLlt : L < s.heap.objs.size := F.ns.lt
  refine ⟨s.heap.objs.size + 1, s.heap.objs.size, ax, vs, news, _, rfl, hh, F.keeps hk, N.grown hk, .inr ⟨_, hm, rfl, _, rfl⟩, hsz, Nat.succ_ne_self _, hE, hI, Nat.ne_of_lt (Nat.lt_succ_of_lt hLlt), Nat.ne_of_lt hLlt, fresh₀ _ (Nat.le_succ _), fresh₀ _ (Nat.le_refl _),
    fun p hp => Nat.ne_of_lt (Nat.lt_succ_of_lt (Heap.lt_size (N p hp).1)), fun p hp => Nat.ne_of_lt (Heap.lt_size (N p hp).1), h h'⟩
theorem ListComp_E {elt iter : Expr} {x x₂ : Str} {px px₂ tp : Pos} {tk} {scope : Scope} {cl : List (Str × Addr)} {pos : Pos} {Q : Value → Shared → Prop} (_F₀ : Fr h₀ L s.heap m)
    (hclos : closureFor scope env = pure cl) (hcell : ∀ y ∈ scope.names, y.2 ≠ .cell) (hkind : scope.kind = .function)
    (hnames : ∀ y ∈ scope.names, y.2 = .local → scope.names.lookup y.1 = some .local) (hx : scope.names.lookup x = some .local) (hx₂ : scope.names.lookup x₂ = some .local) (hxx : x ≠ x₂)
    (h : wpAny (model prog w) A (eval iter env) (SrcE prog w A h₀ L m env elt x x₂ scope cl (fun s₂ => FinE h₀ L m s₂ Q)) E s)
    (hs : ∀ x, foldedSetIterable iter env x = pure x := by intro _; rfl) :
    wpAny (model prog w) A (eval (.ListComp elt [⟨.Tuple [.Name x px, .Name x₂ px₂] tk tp, iter, [], 0⟩] scope pos) env) Q E s := by
  rw [eval_ListComp]
  refine wpAny_comprehension_free (use := none) rfl hs hclos hkind hnames (wpAny_mono h (fun xv s₁ h₁ => ?_) fun _ _ e => e)
  obtain ⟨I, J, ax, vs, news, old, rfl, hh, F, N, S, hsz, hIJ, hI, hJ, hIL, hJL, hI₀, hJ₀, oI, oJ, R⟩ := h₁
  refine wpAny_pyIter_enum hI ?_
  refine block_E hh hIJ hsz S hcell hkind hx hx₂ hxx hI hJ F N hIL hJL hI₀ hJ₀ oI oJ R ?_
  intro D C h tk m' ys F' N' o1 hn hC₀ hD₀ hCL hDL hCD offC fin
  refine ⟨m', hn, fun h'' hs'' => fin D h'' tk (F'.change hs'' hCL hC₀) (fun p hp => ?_) o1⟩
  refine ⟨hs''.extBut _ _ ?_ (N' p hp).1, (N' p hp).2⟩
  rcases List.mem_cons.mp hp with rfl | hp
  · exact Ne.symm hCD
  · exact offC p hp
theorem Assign_ListComp_E {elt iter : Expr} {x x₂ y : Str} {px px₂ tp py : Pos} {tk} {scope : Scope} {cl : List (Str × Addr)} {pos spos : Pos} {Q : Flow → Shared → Prop} (_F₀ : Fr h₀ L s.heap m) (hLe : env.locals = L)
    (hsw : swapsWith (.ListComp elt [⟨.Tuple [.Name x px, .Name x₂ px₂] tk tp, iter, [], 0⟩] scope pos) (some (.Name y py)) spos.line env = pure true)
    (hclos : closureFor scope env = pure cl) (hcell : ∀ z ∈ scope.names, z.2 ≠ .cell) (hkind : scope.kind = .function)
    (hnames : ∀ z ∈ scope.names, z.2 = .local → scope.names.lookup z.1 = some .local) (hx : scope.names.lookup x = some .local) (hx₂ : scope.names.lookup x₂ = some .local) (hxx : x ≠ x₂)
    (hy : env.kindOf y = some .local) (hp : (env.scope.kind == .class || (env.scope.kind == .module && env.locals != env.globals)) = false)
    (h : wpAny (model prog w) A (eval iter env) (SrcE prog w A h₀ L m env elt x x₂ scope cl (fun s₂ => FinA h₀ L m s₂ y Q)) E s)
    (hs : ∀ x, foldedSetIterable iter env x = pure x := by intro _; rfl) :
    wpAny (model prog w) A (exec (.Assign [.Name y py] (.ListComp elt [⟨.Tuple [.Name x px, .Name x₂ px₂] tk tp, iter, [], 0⟩] scope pos) spos) env) Q E s := by
  subst hLe
  rw [exec_Assign_Name_used _ _ _ _ hsw]
  refine wpAny_bind (wpAny_standAt (wpAny_bind ?_))
  show wpAny _ A (do let _ ← comprehension (.ListComp elt [⟨.Tuple [.Name x px, .Name x₂ px₂] tk tp, iter, [], 0⟩] scope pos) scope env _ (newList []) false (eval iter env) (some (assign (.Name y py) env))) _ _ s
  refine wpAny_bind (wpAny_mono (wpAny_comprehension_free (use := some (assign (.Name y py) env)) (Q := fun _ s' => Q .next s') rfl hs hclos hkind hnames
    (wpAny_mono h (fun xv s₁ h₁ => ?_) fun _ _ e => e)) (fun _ s' hq => wpAny_pure (wpAny_pure hq)) fun _ _ e => e)
  obtain ⟨I, J, ax, vs, news, old, rfl, hh, F, N, S, hsz, hIJ, hI, hJ, hIL, hJL, hI₀, hJ₀, oI, oJ, R⟩ := h₁
  refine wpAny_pyIter_enum hI ?_
  refine block_E hh hIJ hsz S hcell hkind hx hx₂ hxx hI hJ F N hIL hJL hI₀ hJ₀ oI oJ R ?_
  intro D C h' tk m' ys F' N' o1 hn hC₀ hD₀ hCL hDL hCD offC fin
  show wpAny _ A (assign (.Name y py) env (.ref D)) _ _ _
  refine wpAny_assign_Name (wpAny_storeName_local hy F'.ns (fun h₂ hn₂ hs₂ => ?_) hp)
  have hL₀ : h₀.get? env.locals = none := Heap.get?_none_of_le F'.above
  have F₂ : Fr h₀ env.locals h₂ (fun z => if z = y then some (.ref D) else m z) := ⟨hn₂, fun b o e => hs₂.extBut b o (fun q => by rw [q, hL₀] at e; cases e) (F'.keep b o e), F'.above⟩
  refine ⟨m', hn.sameBut hs₂ hCL, fun h'' hs'' => fin D h'' _ (F₂.change hs'' hCL hC₀) (fun p hp => ?_) o1⟩
  have z : h₂.get? p.1 = some p.2 := hs₂.extBut _ _ (N' p hp).2.1 (N' p hp).1
  refine ⟨hs''.extBut _ _ ?_ z, (N' p hp).2⟩
  rcases List.mem_cons.mp hp with rfl | hp
  · exact Ne.symm hCD
  · exact offC p hp
end
end Mine
-- part EG0
namespace Mine
open PySem.Spec PySem.Calls PyProof.Rows.LCg
/-- the values that a comprehension hands out, one token each -/
noncomputable def OutC {α : Type} (out : α → Tok → Value) : List α → (List Value → Prop) → Prop
  | [], F => F []
  | c :: r, F => ∀ t, OutC out r (fun l => F (out c t :: l))
/-- the same, each value by a name of its own -/
noncomputable def OutR {α β : Type} (mk : β → Tok → Value) (R : Nat → α → β → Prop) : Nat → List α → (List Value → Prop) → Prop
  | _, [], F => F []
  | i, c :: r, F => ∀ d t, R i c d → OutR mk R (i + 1) r (fun l => F (mk d t :: l))
section
variable {prog : Program} {w : World} {A : Around} {E : Value → Shared → Prop} {s : Shared} {h₀ : Heap} {L : Addr} {m : Str → Option Value} {env : Env}
theorem CompRest.turns {α : Type} (it out : α → Tok → Value) (Pr : α → Prop) {elt : Expr} {x : Str} {scope : Scope} {cl : List (Str × Addr)} {S : List (Addr × Obj) → Prop} {its : Array Value} {Fin : List Value → List (Addr × Obj) → Prop} {news : List (Addr × Obj)} (hS : S news)
    (turn : ∀ (c : α) (u : Tok) ys I oI C oC D m₂ h tk (E' : Value → Shared → Prop) (K : Value → Prop), Pr c → NsObj oC m₂ → m₂ x = some (it c u) → Fr h₀ L h m → News h₀ L h ((I, oI) :: (C, oC) :: (D, lst ys) :: news) → Off3 I C D news → ((@Ne Nat I C) ∧ (@Ne Nat I D) ∧ (@Ne Nat C D)) → (∀ t, K (out c t)) →
      wpAny (model prog w) A (eval elt (compEnvC scope cl C env)) (EnEnd h₀ L m { s with heap := h, toks := tk } ((I, oI) :: (C, oC) :: (D, lst ys) :: news) K) E' { s with heap := h, toks := tk }) :
    ∀ (cs : List (α × Tok)) (i : Nat) (ys : List Value), its.toList.drop i = cs.map (fun p => it p.1 p.2) → (∀ p ∈ cs, Pr p.1) → OutC out (cs.map (·.1)) (fun l => Fin (ys ++ l) news) →
      CompRest prog w A h₀ L m env elt x scope cl s S (fun i v => its[i]? = some v) Fin cs.length i ys news
  | [], _, ys, _, _, ho => by
    have ho : Fin (ys ++ []) news := ho
    rw [List.append_nil] at ho
    exact ho
  | (c, u) :: r, i, ys, hd, hp, ho => by
    refine CompRest.succ fun v I oI C oC D m₂ h tk E' hv hC hx F N off ne => ?_
    have hi : its.toList[i]? = some v := by rw [← hv, Array.getElem?_toList]
    have e : v = it c u := by
      have h0 : (its.toList.drop i)[0]? = some v := by rw [List.getElem?_drop, Nat.add_zero, hi]
      rw [hd] at h0
      exact (Option.some.inj h0).symm
    subst e
    refine wpAny_mono (turn c u ys I oI C oC D m₂ h tk E' (fun y => CompRest prog w A h₀ L m env elt x scope cl s S (fun i v => its[i]? = some v) Fin r.length (i + 1) (ys ++ [y]) news) (hp _ (.head _)) hC hx F N off ne (fun t => ?_)) (fun y s₅ h₅ => ?_) fun _ _ e => e
    · refine CompRest.turns it out Pr hS turn r (i + 1) _ ?_ (fun p hp' => hp p (.tail _ hp')) ?_
      · rw [← List.drop_drop, hd]; rfl
      · have h1 := ho t
        simp only [List.append_assoc, List.cons_append, List.nil_append]
        exact h1
    · obtain ⟨h', tk', rfl, F', N', R'⟩ := h₅
      exact ⟨h', tk', news, rfl, F', N', off, hS, R'⟩
theorem comp4 {α : Type} (it out : α → Tok → Value) (Pr : α → Prop) {elt : Expr} {x : Str} {scope : Scope} {cl : List (Str × Addr)} {S : List (Addr × Obj) → Prop} {Fin : List Value → List (Addr × Obj) → Prop} {news : List (Addr × Obj)} {c0 c1 c2 c3 : α} {u0 u1 u2 u3 : Tok} (hS : S news)
    (turn : ∀ (c : α) (u : Tok) ys I oI C oC D m₂ h tk (E' : Value → Shared → Prop) (K : Value → Prop), Pr c → NsObj oC m₂ → m₂ x = some (it c u) → Fr h₀ L h m → News h₀ L h ((I, oI) :: (C, oC) :: (D, lst ys) :: news) → Off3 I C D news → ((@Ne Nat I C) ∧ (@Ne Nat I D) ∧ (@Ne Nat C D)) → (∀ t, K (out c t)) →
      wpAny (model prog w) A (eval elt (compEnvC scope cl C env)) (EnEnd h₀ L m { s with heap := h, toks := tk } ((I, oI) :: (C, oC) :: (D, lst ys) :: news) K) E' { s with heap := h, toks := tk })
    (p0 : Pr c0) (p1 : Pr c1) (p2 : Pr c2) (p3 : Pr c3) (fin : ∀ t0 t1 t2 t3, Fin [out c0 t0, out c1 t1, out c2 t2, out c3 t3] news) :
    CompRest prog w A h₀ L m env elt x scope cl s S (fun i v => #[it c0 u0, it c1 u1, it c2 u2, it c3 u3][i]? = some v) Fin 4 0 [] news :=
  CompRest.turns (s := s) it out Pr hS turn [(c0, u0), (c1, u1), (c2, u2), (c3, u3)] 0 [] rfl (by
    intro p hp
    simp only [List.mem_cons, List.not_mem_nil, or_false] at hp
    rcases hp with rfl | rfl | rfl | rfl <;> assumption) fin
theorem comp5 {α : Type} (it out : α → Tok → Value) (Pr : α → Prop) {elt : Expr} {x : Str} {scope : Scope} {cl : List (Str × Addr)} {S : List (Addr × Obj) → Prop} {Fin : List Value → List (Addr × Obj) → Prop} {news : List (Addr × Obj)} {c0 c1 c2 c3 c4 : α} {u0 u1 u2 u3 u4 : Tok} (hS : S news)
    (turn : ∀ (c : α) (u : Tok) ys I oI C oC D m₂ h tk (E' : Value → Shared → Prop) (K : Value → Prop), Pr c → NsObj oC m₂ → m₂ x = some (it c u) → Fr h₀ L h m → News h₀ L h ((I, oI) :: (C, oC) :: (D, lst ys) :: news) → Off3 I C D news → ((@Ne Nat I C) ∧ (@Ne Nat I D) ∧ (@Ne Nat C D)) → (∀ t, K (out c t)) →
      wpAny (model prog w) A (eval elt (compEnvC scope cl C env)) (EnEnd h₀ L m { s with heap := h, toks := tk } ((I, oI) :: (C, oC) :: (D, lst ys) :: news) K) E' { s with heap := h, toks := tk })
    (p0 : Pr c0) (p1 : Pr c1) (p2 : Pr c2) (p3 : Pr c3) (p4 : Pr c4) (fin : ∀ t0 t1 t2 t3 t4, Fin [out c0 t0, out c1 t1, out c2 t2, out c3 t3, out c4 t4] news) :
    CompRest prog w A h₀ L m env elt x scope cl s S (fun i v => #[it c0 u0, it c1 u1, it c2 u2, it c3 u3, it c4 u4][i]? = some v) Fin 5 0 [] news :=
  CompRest.turns (s := s) it out Pr hS turn [(c0, u0), (c1, u1), (c2, u2), (c3, u3), (c4, u4)] 0 [] rfl (by
    intro p hp
    simp only [List.mem_cons, List.not_mem_nil, or_false] at hp
    rcases hp with rfl | rfl | rfl | rfl | rfl <;> assumption) fin
theorem EnRest.turns {α β : Type} (it : α → Tok → Value) (mk : β → Tok → Value) (R : Nat → α → β → Prop) {elt : Expr} {x x₂ : Str} {scope : Scope} {cl : List (Str × Addr)} {Fin : List Value → Prop} {news : List (Addr × Obj)}
    (turn : ∀ (i : Nat) (c : α) (u t : Tok) ys I oI J oJ C oC D m₂ h tk (E' : Value → Shared → Prop) (K : Value → Prop), NsObj oC m₂ → m₂ x = some (.int (i : Int) t) → m₂ x₂ = some (it c u) → Fr h₀ L h m → News h₀ L h ((I, oI) :: (J, oJ) :: (C, oC) :: (D, lst ys) :: news) → Off4 I J C D news → Ne4 I J C D → (∀ d t, R i c d → K (mk d t)) →
      wpAny (model prog w) A (eval elt (compEnvC scope cl C env)) (EnEnd h₀ L m { s with heap := h, toks := tk } ((I, oI) :: (J, oJ) :: (C, oC) :: (D, lst ys) :: news) K) E' { s with heap := h, toks := tk }) :
    ∀ (cs : List (α × Tok)) (i : Nat) (ys : List Value), OutR mk R i (cs.map (·.1)) (fun l => Fin (ys ++ l)) → EnRest prog w A h₀ L m env elt x x₂ scope cl s news Fin i (cs.map fun p => it p.1 p.2) ys
  | [], _, ys, ho => by
    have ho : Fin (ys ++ []) := ho
    rw [List.append_nil] at ho
    exact ho
  | (c, u) :: r, i, ys, ho => fun t I oI J oJ C oC D m₂ h tk E' hC hx hx₂ F N off ne =>
    turn i c u t ys I oI J oJ C oC D m₂ h tk E' _ hC hx hx₂ F N off ne (fun d t hR => by
      refine EnRest.turns it mk R turn r (i + 1) _ ?_
      have h1 := ho d t hR
      simp only [List.append_assoc, List.cons_append, List.nil_append]
      exact h1)
theorem enum4 {α β : Type} (it : α → Tok → Value) (mk : β → Tok → Value) (R : Nat → α → β → Prop) {elt : Expr} {x x₂ : Str} {scope : Scope} {cl : List (Str × Addr)} {Fin : List Value → Prop} {news : List (Addr × Obj)} {c0 c1 c2 c3 : α} {u0 u1 u2 u3 : Tok}
    (turn : ∀ (i : Nat) (c : α) (u t : Tok) ys I oI J oJ C oC D m₂ h tk (E' : Value → Shared → Prop) (K : Value → Prop), NsObj oC m₂ → m₂ x = some (.int (i : Int) t) → m₂ x₂ = some (it c u) → Fr h₀ L h m → News h₀ L h ((I, oI) :: (J, oJ) :: (C, oC) :: (D, lst ys) :: news) → Off4 I J C D news → Ne4 I J C D → (∀ d t, R i c d → K (mk d t)) →
      wpAny (model prog w) A (eval elt (compEnvC scope cl C env)) (EnEnd h₀ L m { s with heap := h, toks := tk } ((I, oI) :: (J, oJ) :: (C, oC) :: (D, lst ys) :: news) K) E' { s with heap := h, toks := tk })
    (fin : ∀ d0 t0, R 0 c0 d0 → ∀ d1 t1, R 1 c1 d1 → ∀ d2 t2, R 2 c2 d2 → ∀ d3 t3, R 3 c3 d3 → Fin [mk d0 t0, mk d1 t1, mk d2 t2, mk d3 t3]) :
    EnRest prog w A h₀ L m env elt x x₂ scope cl s news Fin 0 [it c0 u0, it c1 u1, it c2 u2, it c3 u3] [] :=
  EnRest.turns (s := s) it mk R turn [(c0, u0), (c1, u1), (c2, u2), (c3, u3)] 0 [] fin
theorem enum9 {α β : Type} (it : α → Tok → Value) (mk : β → Tok → Value) {elt : Expr} {x x₂ : Str} {scope : Scope} {cl : List (Str × Addr)} {Fin : List Value → Prop} {news : List (Addr × Obj)} {c0 c1 c2 c3 c4 c5 c6 c7 c8 : α} {u0 u1 u2 u3 u4 u5 u6 u7 u8 : Tok}
    (turn : ∀ (i : Nat) (c : α) (u t : Tok) ys I oI J oJ C oC D m₂ h tk (E' : Value → Shared → Prop) (K : Value → Prop), NsObj oC m₂ → m₂ x = some (.int (i : Int) t) → m₂ x₂ = some (it c u) → Fr h₀ L h m → News h₀ L h ((I, oI) :: (J, oJ) :: (C, oC) :: (D, lst ys) :: news) → Off4 I J C D news → Ne4 I J C D → (∀ d t, K (mk d t)) →
      wpAny (model prog w) A (eval elt (compEnvC scope cl C env)) (EnEnd h₀ L m { s with heap := h, toks := tk } ((I, oI) :: (J, oJ) :: (C, oC) :: (D, lst ys) :: news) K) E' { s with heap := h, toks := tk })
    (fin : ∀ d0 t0 d1 t1 d2 t2 d3 t3 d4 t4 d5 t5 d6 t6 d7 t7 d8 t8, Fin [mk d0 t0, mk d1 t1, mk d2 t2, mk d3 t3, mk d4 t4, mk d5 t5, mk d6 t6, mk d7 t7, mk d8 t8]) :
    EnRest prog w A h₀ L m env elt x x₂ scope cl s news Fin 0 [it c0 u0, it c1 u1, it c2 u2, it c3 u3, it c4 u4, it c5 u5, it c6 u6, it c7 u7, it c8 u8] [] :=
  EnRest.turns (s := s) it mk (fun _ _ _ => True) (fun i c u t ys I oI J oJ C oC D m₂ h tk E' K a1 a2 a3 a4 a5 a6 a7 k => turn i c u t ys I oI J oJ C oC D m₂ h tk E' K a1 a2 a3 a4 a5 a6 a7 fun d t => k d t True.intro)
    [(c0, u0), (c1, u1), (c2, u2), (c3, u3), (c4, u4), (c5, u5), (c6, u6), (c7, u7), (c8, u8)] 0 []
    (fun d0 t0 _ d1 t1 _ d2 t2 _ d3 t3 _ d4 t4 _ d5 t5 _ d6 t6 _ d7 t7 _ d8 t8 _ => fin d0 t0 d1 t1 d2 t2 d3 t3 d4 t4 d5 t5 d6 t6 d7 t7 d8 t8)
theorem ints_snoc {vs : List Value} {ns : List Int} {k : Int} {t : Tok} (h : IntsAre vs ns) : IntsAre (vs ++ [.int k t]) (ns ++ [k]) := by
  induction h with
  | nil => exact .cons _ _ .nil
  | cons a b _ ih => exact .cons a b ih
theorem comp_range.go {a : Int} (f : Nat → Int) (n : Nat) {elt : Expr} {x : Str} {scope : Scope} {cl : List (Str × Addr)} {Fin : List Value → List (Addr × Obj) → Prop} {news : List (Addr × Obj)}
    (turn : ∀ (i : Nat) (u : Tok) ys I oI C oC D m₂ h tk (E' : Value → Shared → Prop) (K : Value → Prop), i < n → NsObj oC m₂ → m₂ x = some (.int (a + (i : Int)) u) → Fr h₀ L h m → News h₀ L h ((I, oI) :: (C, oC) :: (D, lst ys) :: news) → Off3 I C D news → ((@Ne Nat I C) ∧ (@Ne Nat I D) ∧ (@Ne Nat C D)) → (∀ t, K (.int (f i) t)) →
      wpAny (model prog w) A (eval elt (compEnvC scope cl C env)) (EnEnd h₀ L m { s with heap := h, toks := tk } ((I, oI) :: (C, oC) :: (D, lst ys) :: news) K) E' { s with heap := h, toks := tk })
    (fin : ∀ ws, IntsAre ws ((List.range n).map f) → Fin ws news) :
    ∀ (k i : Nat) (ys : List Value), i + k = n → IntsAre ys ((List.range i).map f) → CompRest prog w A h₀ L m env elt x scope cl s (fun _ => True) (fun i v => ∃ t, v = .int (a + (i : Int)) t) Fin k i ys news
  | 0, i, ys, hi, hy => by
    rw [Nat.add_zero] at hi
    subst hi
    exact fin ys hy
  | k + 1, i, ys, hi, hy => by
    refine CompRest.succ fun v I oI C oC D m₂ h tk E' hv hC hx F N off ne => ?_
    obtain ⟨u, rfl⟩ := hv
    refine wpAny_mono (turn i u ys I oI C oC D m₂ h tk E' (fun y => CompRest prog w A h₀ L m env elt x scope cl s (fun _ => True) (fun i v => ∃ t, v = .int (a + (i : Int)) t) Fin k (i + 1) (ys ++ [y]) news) (by (first | lia | omega)) hC hx F N off ne (fun t => ?_)) (fun y s₅ h₅ => ?_) fun _ _ e => e
    · refine comp_range.go f n turn fin k (i + 1) _ (by (first | lia | omega)) ?_
      rw [List.range_succ, List.map_append]
      exact ints_snoc hy
    · obtain ⟨h', tk', rfl, F', N', R'⟩ := h₅
      exact ⟨h', tk', news, rfl, F', N', off, True.intro, R'⟩
theorem comp_range {a : Int} (f : Nat → Int) (n : Nat) {elt : Expr} {x : Str} {scope : Scope} {cl : List (Str × Addr)} {Fin : List Value → List (Addr × Obj) → Prop} {news : List (Addr × Obj)}
    (turn : ∀ (i : Nat) (u : Tok) ys I oI C oC D m₂ h tk (E' : Value → Shared → Prop) (K : Value → Prop), i < n → NsObj oC m₂ → m₂ x = some (.int (a + (i : Int)) u) → Fr h₀ L h m → News h₀ L h ((I, oI) :: (C, oC) :: (D, lst ys) :: news) → Off3 I C D news → ((@Ne Nat I C) ∧ (@Ne Nat I D) ∧ (@Ne Nat C D)) → (∀ t, K (.int (f i) t)) →
      wpAny (model prog w) A (eval elt (compEnvC scope cl C env)) (EnEnd h₀ L m { s with heap := h, toks := tk } ((I, oI) :: (C, oC) :: (D, lst ys) :: news) K) E' { s with heap := h, toks := tk })
    (fin : ∀ ws, IntsAre ws ((List.range n).map f) → Fin ws news) : CompRest prog w A h₀ L m env elt x scope cl s (fun _ => True) (fun i v => ∃ t, v = .int (a + (i : Int)) t) Fin n 0 [] news :=
  comp_range.go (s := s) f n turn fin n 0 [] (Nat.zero_add n) .nil
theorem turn_end {s₁ : Shared} {led all : List (Addr × Obj)} {K : Value → Prop} {y : Value} {h' : Heap} {tk : Nat} (F : Fr h₀ L h' m) (N : News h₀ L h' all) (sub : ∀ p ∈ led, p ∈ all) (r : K y) :
    EnEnd h₀ L m s₁ led K y { s₁ with heap := h', toks := tk } := EnEnd.intro F N sub r
end
end Mine
-- part G1
namespace Mine

local macro_rules | `(tactic| k_mem) => `(tactic| assumption)
theorem d131 (w : World) (lN : Addr) (ep : Nat) (vs : List Value) (ns : List Int) (g : Int) (B0 : Nat) (tg : Tok) (rest : List (Addr × Obj)) (hN : (lN, listOf vs.toArray ep) ∈ rest) (hi : IntsAre vs ns) (hlen : ns.length ≤ 4) (hB : Bd B0 g) (hB0 : 4 ≤ B0) (hB1 : B0 ≤ 10000) :
    Ctr w 131 [.ref lN, .int g tg] 5 60 rest (fun r led' => ∃ t, r = .int (drawn ns g) t ∧ led' = rest) := by
  unfold Ctr; k_fill
  intro dp un gd cn cs a ccd cl outer A₀ base h₀ L m s Q E loose mean mg mb B F X N T C1 C2 hk hd hu hret
  obtain ⟨hp9, gn9, dr9, tk9, os9⟩ := s
  w_on
  w_top on
  k_with_none
  k_with "my binaryOp RShift int int" => (k_here; (with_reducible refine g_rsh ?zqkb1 ?_); (case zqkb1 => first | assumption | (first | lia | omega)); intro tz9' kz9')
  k_with "my inplaceOp RShift int int" => (k_here; (with_reducible refine g_irsh ?zqkb1 ?_); (case zqkb1 => first | assumption | (first | lia | omega)); intro tz9' kz9')
  k_with "my binaryOp LShift int int" => (k_here; (with_reducible refine g_lsh ?zqkb1 ?zqkb2 ?_); (case zqkb1 => first | assumption | (first | lia | omega)); (case zqkb2 => first | exact shlOk (by assumption) (by (first | lia | omega)) (by first | assumption | (first | lia | omega)) | assumption); intro tz9' kz9')
  k_with "my inplaceOp LShift int int" => (k_here; (with_reducible refine g_ilsh ?zqkb1 ?zqkb2 ?_); (case zqkb1 => first | assumption | (first | lia | omega)); (case zqkb2 => first | exact shlOk (by assumption) (by (first | lia | omega)) (by first | assumption | (first | lia | omega)) | assumption); intro tz9' kz9')
  k_with "my binaryOp Mult int int" => (k_here; (with_reducible refine g_mul ?zqkb1 ?_); (case zqkb1 => assumption); intro tz9' kz9')
  k_with "my inplaceOp Mult int int" => (k_here; (with_reducible refine g_imul ?zqkb1 ?_); (case zqkb1 => assumption); intro tz9' kz9')
  k_with "my binaryOp Add int int" => (k_here; (with_reducible refine g_add ?_); intro tz9' kz9')
  k_with "my binaryOp Sub int int" => (k_here; (with_reducible refine g_sub ?_); intro tz9' kz9')
  k_with "my binaryOp BitAnd int int" => (k_here; (with_reducible refine g_and ?_); intro tz9' kz9')
  k_with "my binaryOp BitOr int int" => (k_here; (with_reducible refine g_or ?_); intro tz9' kz9')
  k_with "my inplaceOp Add int int" => (k_here; (with_reducible refine g_iadd ?_); intro tz9' kz9')
  k_with "my inplaceOp Sub int int" => (k_here; (with_reducible refine g_isub ?_); intro tz9' kz9')
  k_with "my binaryOp FloorDiv int int" => (k_here; (with_reducible refine floordiv_int ?zqkb1 ?_ ?zqkb2); (case zqkb1 => first | assumption | (first | lia | omega)); (case zqkb2 => exact .inl ((by assumption : Near _) _)))
  k_with "my call builtin:divmod" => (k_here; k_dflt (refine' my_divmod ?zqF ?zqN ?zqb ?zqp ?_; (case zqF => k_asm); (case zqN => k_asm); (case zqb => first | assumption | (first | lia | omega)); (case zqp => assumption); k_whole; intro D' h' t1' t2' tk' F' N' hlt'; (try k_sweep)))
  refine wpAny_call ?_
  k_dflt cell_enter
  k_steps
  (rename Fr _ _ _ _ => lF7)
  with_unfolding_all refine' For_invVF lF7 ?k1 ?k2 ?_
  case k1 => exact rfl
  case k2 => exact rfl
  k_steps
  refine' fwd_loop (σ := Option Value × Option Value × Int × Tok) (fun _ => rest) (fun m0 c z => if z = Str.ofString "kind" then c.1 else if z = Str.ofString "other" then c.2.1 else if z = Str.ofString "value" then some (.int c.2.2.1 c.2.2.2) else m0 z)
    (fun pre c => ∃ ns1, IntsAre pre ns1 ∧ c.2.2.1 = drawn ns1 g ∧ Bd (B0 * 2 ^ pre.length) c.2.2.1) (none, none, g, tg) ?hh ?F ?hM ?N ?hm ?hp ?turn ?done
  case hh => exact rfl
  case F => k_asm
  case N => k_asm
  case hm => exact fun _ => hN
  case hp => exact ⟨[], .nil, rfl, by simpa using hB⟩
  case hM => exact hm3 rfl rfl rfl
  case turn =>
    intro I c pre post v it h tk hI hof hns hpp hic F9 N9
    obtain ⟨k1, o1, vv, tv⟩ := c
    obtain ⟨n1, t1, na, nb, rfl, hns2, hpa, hpb⟩ := ints_at hi hns
    obtain ⟨ns1, hpa', hv, hBv⟩ := hpp
    have := ints_uniq hpa hpa'
    subst this
    dsimp only at hv hBv F9
    have hpl : pre.length ≤ 3 := by
      have e1 := hpa.length
      have e2 := congrArg List.length hns2
      rw [List.length_append, List.length_cons] at e2
      (first | lia | omega)
    have q1 : B0 * 2 ^ pre.length ≤ 80000 := Nat.mul_le_mul hB1 (Nat.pow_le_pow_right (by decide) hpl : 2 ^ pre.length ≤ 8)
    have kvv : IntMulOk vv vv := mulOk hBv hBv (by (first | lia | omega))
    have kvg : IntMulOk vv g := mulOk hBv hB (by (first | lia | omega))
    have hst := stepV_bd (n := n1) (hB.mono (Nat.le_mul_of_pos_right B0 (Nat.two_pow_pos pre.length))) hBv (Nat.le_trans hB0 (Nat.le_mul_of_pos_right B0 (Nat.two_pow_pos pre.length)))
    obtain ⟨fk, ff⟩ := kind_facts n1
    have fin : ∀ v', v' = stepV g vv n1 → ∃ ns1, IntsAre (pre ++ [Value.int n1 t1]) ns1 ∧ v' = drawn ns1 g ∧ Bd (B0 * 2 ^ (pre ++ [Value.int n1 t1]).length) v' := fun v' e => by
      refine ⟨na ++ [n1], ints_app hpa (.cons _ _ .nil), ?_, ?_⟩
      · rw [drawn_snoc, e, hv]
      · rw [e, List.length_append, List.length_cons, List.length_nil, Nat.pow_succ, ← Nat.mul_assoc]
        exact hst
    (try dsimp only)
    (try k_fold)
    k_steps
    all_goals (
      (unfold FwPost)
      refine' fw_end3 ?eF ?eN ?e3 ?er ?es hof ?ep
      case eF => assumption
      case eN => assumption
      case e3 => exact rfl
      case er => (intro z a b c d; simp only [a, b, c, d, if_false])
      case es => first | exact fun p hp => hp | exact fun p hp => List.Mem.tail _ hp
      case ep => (intro a b; refine fin _ ?_; first | exact sv6 (by assumption) | exact sv7 (by assumption) | exact svlt (by assumption) (by assumption) (by assumption) | exact svge (by assumption) (by assumption) (by assumption)))
  case done =>
    intro c u h tk hpp F9 N9
    obtain ⟨k1, o1, vv, tv⟩ := c
    obtain ⟨ns1, hpa, hv, hBv⟩ := hpp
    have := ints_uniq hpa hi
    subst this
    dsimp only at hv hBv F9
    subst hv
    (try dsimp only)
    (try k_fold)
    k_steps
    exact hret _ _ _ _ (by assumption) (by assumption) ⟨_, rfl, rfl⟩
end Mine
-- part G2
namespace Mine

local macro_rules | `(tactic| k_mem) => `(tactic| assumption)
theorem d117 (w : World) (x : Int) (tx : Tok) (rest : List (Addr × Obj)) : Ctr w 117 [.int x tx] 3 30 rest (fun r led' => r = .bool (decide (x ≥ 256)) ∧ led' = rest) := by
  unfold Ctr; k_fill
  intro dp un gd cn cs a ccd cl outer A₀ base h₀ L m s Q E loose mean mg mb B F X N T C1 C2 hk hd hu hret
  obtain ⟨hp9, gn9, dr9, tk9, os9⟩ := s
  w_on
  w_top on
  k_with_none
  k_with "my binaryOp RShift int int" => (k_here; (with_reducible refine g_rsh ?zqkb1 ?_); (case zqkb1 => first | assumption | (first | lia | omega)); intro tz9' kz9')
  k_with "my inplaceOp RShift int int" => (k_here; (with_reducible refine g_irsh ?zqkb1 ?_); (case zqkb1 => first | assumption | (first | lia | omega)); intro tz9' kz9')
  k_with "my binaryOp LShift int int" => (k_here; (with_reducible refine g_lsh ?zqkb1 ?zqkb2 ?_); (case zqkb1 => first | assumption | (first | lia | omega)); (case zqkb2 => first | exact shlOk (by assumption) (by (first | lia | omega)) (by first | assumption | (first | lia | omega)) | assumption); intro tz9' kz9')
  k_with "my inplaceOp LShift int int" => (k_here; (with_reducible refine g_ilsh ?zqkb1 ?zqkb2 ?_); (case zqkb1 => first | assumption | (first | lia | omega)); (case zqkb2 => first | exact shlOk (by assumption) (by (first | lia | omega)) (by first | assumption | (first | lia | omega)) | assumption); intro tz9' kz9')
  k_with "my binaryOp Mult int int" => (k_here; (with_reducible refine g_mul ?zqkb1 ?_); (case zqkb1 => assumption); intro tz9' kz9')
  k_with "my inplaceOp Mult int int" => (k_here; (with_reducible refine g_imul ?zqkb1 ?_); (case zqkb1 => assumption); intro tz9' kz9')
  k_with "my binaryOp Add int int" => (k_here; (with_reducible refine g_add ?_); intro tz9' kz9')
  k_with "my binaryOp Sub int int" => (k_here; (with_reducible refine g_sub ?_); intro tz9' kz9')
  k_with "my binaryOp BitAnd int int" => (k_here; (with_reducible refine g_and ?_); intro tz9' kz9')
  k_with "my binaryOp BitOr int int" => (k_here; (with_reducible refine g_or ?_); intro tz9' kz9')
  k_with "my inplaceOp Add int int" => (k_here; (with_reducible refine g_iadd ?_); intro tz9' kz9')
  k_with "my inplaceOp Sub int int" => (k_here; (with_reducible refine g_isub ?_); intro tz9' kz9')
  k_with "my binaryOp FloorDiv int int" => (k_here; (with_reducible refine floordiv_int ?zqkb1 ?_ ?zqkb2); (case zqkb1 => first | assumption | (first | lia | omega)); (case zqkb2 => exact .inl ((by assumption : Near _) _)))
  k_with "my call builtin:divmod" => (k_here; k_dflt (refine' my_divmod ?zqF ?zqN ?zqb ?zqp ?_; (case zqF => k_asm); (case zqN => k_asm); (case zqb => first | assumption | (first | lia | omega)); (case zqp => assumption); k_whole; intro D' h' t1' t2' tk' F' N' hlt'; (try k_sweep)))
  refine wpAny_call ?_
  k_dflt cell_enter
  k_steps
  exact hret _ _ _ _ (by assumption) (by assumption) ⟨rfl, rfl⟩
theorem d145 (w : World) (lS : Addr) (ep : Nat) (vs : List Value) (ss : List Int) (g : Int) (tg : Tok) (rest : List (Addr × Obj)) (hS : (lS, listOf vs.toArray ep) ∈ rest) (hi : IntsAre vs ss) (hok : ∀ s1 s s2, ss = s1 ++ s :: s2 → WOk g (work g s1) s) :
    Ctr w 145 [.ref lS, .int g tg] 8 100 rest (fun r led' => ∃ t, r = .int (work g ss).1 t ∧ led' = rest) := by
  unfold Ctr; k_fill
  intro dp un gd cn cs a ccd cl outer A₀ base h₀ L m s Q E loose mean mg mb B F X N T C1 C2 hk hd hu hret
  obtain ⟨hp9, gn9, dr9, tk9, os9⟩ := s
  w_on
  w_top on
  have hi' := hi
  k_with_none
  k_with "my binaryOp RShift int int" => (k_here; (with_reducible refine g_rsh ?zqkb1 ?_); (case zqkb1 => first | assumption | omega); intro tz9' kz9')
  k_with "my inplaceOp RShift int int" => (k_here; (with_reducible refine g_irsh ?zqkb1 ?_); (case zqkb1 => first | assumption | omega); intro tz9' kz9')
  k_with "my binaryOp LShift int int" => (k_here; (with_reducible refine g_lsh ?zqkb1 ?zqkb2 ?_); (case zqkb1 => first | assumption | omega); (case zqkb2 => first | exact shlOk (by assumption) (by omega) (by first | assumption | omega) | assumption); intro tz9' kz9')
  k_with "my inplaceOp LShift int int" => (k_here; (with_reducible refine g_ilsh ?zqkb1 ?zqkb2 ?_); (case zqkb1 => first | assumption | omega); (case zqkb2 => first | exact shlOk (by assumption) (by omega) (by first | assumption | omega) | assumption); intro tz9' kz9')
  k_with "my binaryOp Mult int int" => (k_here; (with_reducible refine g_mul ?zqkb1 ?_); (case zqkb1 => assumption); intro tz9' kz9')
  k_with "my inplaceOp Mult int int" => (k_here; (with_reducible refine g_imul ?zqkb1 ?_); (case zqkb1 => assumption); intro tz9' kz9')
  k_with "my binaryOp Add int int" => (k_here; (with_reducible refine g_add ?_); intro tz9' kz9')
  k_with "my binaryOp Sub int int" => (k_here; (with_reducible refine g_sub ?_); intro tz9' kz9')
  k_with "my binaryOp BitAnd int int" => (k_here; (with_reducible refine g_and ?_); intro tz9' kz9')
  k_with "my binaryOp BitOr int int" => (k_here; (with_reducible refine g_or ?_); intro tz9' kz9')
  k_with "my inplaceOp Add int int" => (k_here; (with_reducible refine g_iadd ?_); intro tz9' kz9')
  k_with "my inplaceOp Sub int int" => (k_here; (with_reducible refine g_isub ?_); intro tz9' kz9')
  k_with "my binaryOp FloorDiv int int" => (k_here; (with_reducible refine floordiv_int ?zqkb1 ?_ ?zqkb2); (case zqkb1 => first | assumption | omega); (case zqkb2 => exact .inl ((by assumption : Near _) _)))
  k_with "my call builtin:divmod" => (k_here; k_dflt (refine' my_divmod ?zqF ?zqN ?zqb ?zqp ?_; (case zqF => k_asm); (case zqN => k_asm); (case zqb => first | assumption | omega); (case zqp => assumption); k_whole; intro D' h' t1' t2' tk' F' N' hlt'; (try k_sweep)))
  k_with "my binaryOp Pow int int" => (k_here; (with_reducible refine pow_int ?zqkb1 ?zqkb2 ?_); (case zqkb1 => assumption); (case zqkb2 => assumption))
  refine wpAny_call ?_
  k_dflt cell_enter
  k_with_none
  k_with "my binaryOp RShift int int" => (k_here; (with_reducible refine g_rsh ?zqkb1 ?_); (case zqkb1 => first | assumption | omega); intro tz9' kz9')
  k_with "my inplaceOp RShift int int" => (k_here; (with_reducible refine g_irsh ?zqkb1 ?_); (case zqkb1 => first | assumption | omega); intro tz9' kz9')
  k_with "my binaryOp LShift int int" => (k_here; (with_reducible refine g_lsh ?zqkb1 ?zqkb2 ?_); (case zqkb1 => first | assumption | omega); (case zqkb2 => first | exact shlOk (by assumption) (by omega) (by first | assumption | omega) | assumption); intro tz9' kz9')
  k_with "my inplaceOp LShift int int" => (k_here; (with_reducible refine g_ilsh ?zqkb1 ?zqkb2 ?_); (case zqkb1 => first | assumption | omega); (case zqkb2 => first | exact shlOk (by assumption) (by omega) (by first | assumption | omega) | assumption); intro tz9' kz9')
  k_with "my binaryOp Mult int int" => (k_here; (with_reducible refine g_mul ?zqkb1 ?_); (case zqkb1 => assumption); intro tz9' kz9')
  k_with "my inplaceOp Mult int int" => (k_here; (with_reducible refine g_imul ?zqkb1 ?_); (case zqkb1 => assumption); intro tz9' kz9')
  k_with "my binaryOp Add int int" => (k_here; (with_reducible refine g_add ?_); intro tz9' kz9')
  k_with "my binaryOp Sub int int" => (k_here; (with_reducible refine g_sub ?_); intro tz9' kz9')
  k_with "my binaryOp BitAnd int int" => (k_here; (with_reducible refine g_and ?_); intro tz9' kz9')
  k_with "my binaryOp BitOr int int" => (k_here; (with_reducible refine g_or ?_); intro tz9' kz9')
  k_with "my inplaceOp Add int int" => (k_here; (with_reducible refine g_iadd ?_); intro tz9' kz9')
  k_with "my inplaceOp Sub int int" => (k_here; (with_reducible refine g_isub ?_); intro tz9' kz9')
  k_with "my binaryOp FloorDiv int int" => (k_here; (with_reducible refine floordiv_int ?zqkb1 ?_ ?zqkb2); (case zqkb1 => first | assumption | omega); (case zqkb2 => exact .inl ((by assumption : Near _) _)))
  k_with "my call builtin:divmod" => (k_here; k_dflt (refine' my_divmod ?zqF ?zqN ?zqb ?zqp ?_; (case zqF => k_asm); (case zqN => k_asm); (case zqb => first | assumption | omega); (case zqp => assumption); k_whole; intro D' h' t1' t2' tk' F' N' hlt'; (try k_sweep)))
  k_with "my binaryOp Pow int int" => (k_here; (with_reducible refine pow_int ?zqkb1 ?zqkb2 ?_); (case zqkb1 => assumption); (case zqkb2 => assumption))
  k_with "call ref" => (k_here; k_dflt (refine' Ctr.u0_0 (d117 w _ _ _) ?cB ?cF ?cX ?cN ?cT ?cC1 ?cC2 ?ck ?cd ?cu ?_; (case cB => k_asm); (case cF => k_asm); (case cX => k_asm); (case cN => first | k_asm | (simp only [List.append_assoc, List.nil_append, List.append_nil]; k_asm)); (case cT => k_asm); (case cC1 => k_asm); (case cC2 => k_asm); (case ck => first | exact rfl | assumption); (case cd => ktr_room); (case cu => ktr_units); intro  h9 tk9 F9 N9; (try dsimp only); (try k_sweep); (try k_fold)))
  k_steps
  refine' name2 (y2 := Str.ofString "kind") (y3 := Str.ofString "value") (v2 := 14) (v := 0) ?F ?e2 ?e3 ?_
  case F => k_asm
  case e2 => exact ⟨_, rfl⟩
  case e3 => exact ⟨_, rfl⟩
  intro tk2 tk3 g2 g3
  refine' fwd_loop (σ := Option Value × Int × Tok × Int × Tok) (fun _ => rest) (fun m0 c z => if z = Str.ofString "other" then c.1 else if z = Str.ofString "kind" then some (.int c.2.1 c.2.2.1) else if z = Str.ofString "value" then some (.int c.2.2.2.1 c.2.2.2.2) else m0 z)
    (fun pre c => ∃ s1, IntsAre pre s1 ∧ (c.2.2.2.1, c.2.1) = work g s1) (none, 14, tk2, 0, tk3) ?hh ?F ?hM ?N ?hm ?hp ?turn ?done
  case hh => exact rfl
  case F => k_asm
  case N => exact kst_newsOf (by k_asm) (fun p hp => List.Mem.tail _ hp)
  case hm => exact fun _ => hS
  case hp => exact ⟨[], .nil, rfl⟩
  case hM => exact hmW rfl g2 g3
  case turn =>
    intro I c pre post v it h tk hI hof hns hpp hic F9 N9
    obtain ⟨o1, kk, tkk, vv, tv⟩ := c
    obtain ⟨n1, t1, na, nb, rfl, hns2, hpa, hpb⟩ := ints_at hi hns
    obtain ⟨ns1, hpa', hv⟩ := hpp
    have := ints_uniq hpa hpa'
    subst this
    have hw := hok na n1 nb hns2
    dsimp only at hv F9
    rw [← hv] at hw
    obtain ⟨wm, wp⟩ := hw
    dsimp only at wm wp
    have fin : ∀ v' k', (v', k') = wstep g (vv, kk) n1 → ∃ s1, IntsAre (pre ++ [Value.int n1 t1]) s1 ∧ (v', k') = work g s1 := fun v' k' e =>
      ⟨na ++ [n1], ints_app hpa (.cons _ _ .nil), by rw [work_snoc, e, hv]⟩
    have hcase : (n1 = 256) ∨ (256 < n1) ∨ (n1 = 31) ∨ (n1 < 256 ∧ n1 ≠ 31) := by omega
    rcases hcase with hc | hc | hc | hc
    · have f1 : decide (n1 ≥ 256) = true := by rw [decide_eq_true_eq]; omega
      have f2 : (n1 == 256) = true := by rw [beq_iff_eq]; omega
      have wm' := wm (by omega)
      have wp' := wp (by omega)
      have ew : wstep g (vv, kk) n1 = (if kk = 14 then vv + g else if kk = 15 then vv - g else if kk = 16 then vv * g else vv ^ g.toNat, kk) := by
        unfold wstep
        rw [if_pos (show 256 ≤ n1 by omega), if_pos hc]
      rw [if_pos hc] at wm' wp'
      rw [ew] at fin
      k_with "ite" => (with_reducible refine ite_pos f1 ?_)
      k_with "ite" => (with_reducible refine ite_pos f2 ?_)
      k_with "binaryOp Pow int int" => (k_here; (with_reducible refine pow_int ?kb1 ?kb2 ?_); (case kb1 => exact (wp' (by assumption) (by assumption) (by assumption)).1); (case kb2 => exact (wp' (by assumption) (by assumption) (by assumption)).2))
      (try dsimp only)
      (try k_fold)
      k_steps
      all_goals (
        unfold FwPost
        refine' fw_endW ?eF ?eN ?e2 ?e3 ?er ?es hof ?ep
        case eF => assumption
        case eN => assumption
        case e2 => exact rfl
        case e3 => exact rfl
        case er => (intro z a b c d; simp only [a, b, c, d, if_false])
        case es => exact fun p hp => hp
        case ep => (intro a; refine fin _ _ ?_; first | rw [if_pos (by assumption)] | rw [if_neg (by assumption), if_pos (by assumption)] | rw [if_neg (by assumption), if_neg (by assumption), if_pos (by assumption)] | rw [if_neg (by assumption), if_neg (by assumption), if_neg (by assumption)]))
    · have f1 : decide (n1 ≥ 256) = true := by rw [decide_eq_true_eq]; omega
      have f2 : ¬ (n1 == 256) = true := by rw [beq_iff_eq]; omega
      have wm' := wm (by omega)
      have wp' := wp (by omega)
      have ew : wstep g (vv, kk) n1 = (if kk = 14 then vv + (n1 - 256) else if kk = 15 then vv - (n1 - 256) else if kk = 16 then vv * (n1 - 256) else vv ^ (n1 - 256).toNat, kk) := by
        unfold wstep
        rw [if_pos (show 256 ≤ n1 by omega), if_neg (show ¬ n1 = 256 by omega)]
      rw [if_neg (show ¬ n1 = 256 by omega)] at wm' wp'
      rw [ew] at fin
      k_with_none
      k_with "my binaryOp RShift int int" => (k_here; (with_reducible refine g_rsh ?zqkb1 ?_); (case zqkb1 => first | assumption | omega); intro tz9' kz9')
      k_with "my inplaceOp RShift int int" => (k_here; (with_reducible refine g_irsh ?zqkb1 ?_); (case zqkb1 => first | assumption | omega); intro tz9' kz9')
      k_with "my binaryOp LShift int int" => (k_here; (with_reducible refine g_lsh ?zqkb1 ?zqkb2 ?_); (case zqkb1 => first | assumption | omega); (case zqkb2 => first | exact shlOk (by assumption) (by omega) (by first | assumption | omega) | assumption); intro tz9' kz9')
      k_with "my inplaceOp LShift int int" => (k_here; (with_reducible refine g_ilsh ?zqkb1 ?zqkb2 ?_); (case zqkb1 => first | assumption | omega); (case zqkb2 => first | exact shlOk (by assumption) (by omega) (by first | assumption | omega) | assumption); intro tz9' kz9')
      k_with "my binaryOp Mult int int" => (k_here; (with_reducible refine g_mul ?zqkb1 ?_); (case zqkb1 => assumption); intro tz9' kz9')
      k_with "my inplaceOp Mult int int" => (k_here; (with_reducible refine g_imul ?zqkb1 ?_); (case zqkb1 => assumption); intro tz9' kz9')
      k_with "my binaryOp Add int int" => (k_here; (with_reducible refine g_add ?_); intro tz9' kz9')
      k_with "my binaryOp Sub int int" => (k_here; (with_reducible refine g_sub ?_); intro tz9' kz9')
      k_with "my binaryOp BitAnd int int" => (k_here; (with_reducible refine g_and ?_); intro tz9' kz9')
      k_with "my binaryOp BitOr int int" => (k_here; (with_reducible refine g_or ?_); intro tz9' kz9')
      k_with "my inplaceOp Add int int" => (k_here; (with_reducible refine g_iadd ?_); intro tz9' kz9')
      k_with "my inplaceOp Sub int int" => (k_here; (with_reducible refine g_isub ?_); intro tz9' kz9')
      k_with "my binaryOp FloorDiv int int" => (k_here; (with_reducible refine floordiv_int ?zqkb1 ?_ ?zqkb2); (case zqkb1 => first | assumption | omega); (case zqkb2 => exact .inl ((by assumption : Near _) _)))
      k_with "my call builtin:divmod" => (k_here; k_dflt (refine' my_divmod ?zqF ?zqN ?zqb ?zqp ?_; (case zqF => k_asm); (case zqN => k_asm); (case zqb => first | assumption | omega); (case zqp => assumption); k_whole; intro D' h' t1' t2' tk' F' N' hlt'; (try k_sweep)))
      k_with "my binaryOp Pow int int" => (k_here; (with_reducible refine pow_int ?zqkb1 ?zqkb2 ?_); (case zqkb1 => assumption); (case zqkb2 => assumption))
      k_with "call ref" => (k_here; k_dflt (refine' Ctr.u0_0 (d117 w _ _ _) ?cB ?cF ?cX ?cN ?cT ?cC1 ?cC2 ?ck ?cd ?cu ?_; (case cB => k_asm); (case cF => k_asm); (case cX => k_asm); (case cN => first | k_asm | (simp only [List.append_assoc, List.nil_append, List.append_nil]; k_asm)); (case cT => k_asm); (case cC1 => k_asm); (case cC2 => k_asm); (case ck => first | exact rfl | assumption); (case cd => ktr_room); (case cu => ktr_units); intro  h9 tk9 F9 N9; (try dsimp only); (try k_sweep); (try k_fold)))
      k_with "ite" => (with_reducible refine ite_pos f1 ?_)
      k_with "ite" => (with_reducible refine ite_neg f2 ?_)
      k_with "binaryOp Pow int int" => (k_here; (with_reducible refine pow_int ?kb1 ?kb2 ?_); (case kb1 => exact (wp' (by assumption) (by assumption) (by assumption)).1); (case kb2 => exact (wp' (by assumption) (by assumption) (by assumption)).2))
      (try dsimp only)
      (try k_fold)
      k_steps
      all_goals (
        unfold FwPost
        refine' fw_endW ?eF ?eN ?e2 ?e3 ?er ?es hof ?ep
        case eF => assumption
        case eN => assumption
        case e2 => exact rfl
        case e3 => exact rfl
        case er => (intro z a b c d; simp only [a, b, c, d, if_false])
        case es => exact fun p hp => hp
        case ep => (intro a; refine fin _ _ ?_; first | rw [if_pos (by assumption)] | rw [if_neg (by assumption), if_pos (by assumption)] | rw [if_neg (by assumption), if_neg (by assumption), if_pos (by assumption)] | rw [if_neg (by assumption), if_neg (by assumption), if_neg (by assumption)]))
    · have f1 : ¬ decide (n1 ≥ 256) = true := by rw [decide_eq_true_eq]; omega
      have f2 : (n1 == 31) = true := by rw [beq_iff_eq]; omega
      have ew : wstep g (vv, kk) n1 = (Builtin.bitNot vv, kk) := by
        unfold wstep
        rw [if_neg (show ¬ 256 ≤ n1 by omega), if_pos hc]
      rw [ew] at fin
      k_with_none
      k_with "my binaryOp RShift int int" => (k_here; (with_reducible refine g_rsh ?zqkb1 ?_); (case zqkb1 => first | assumption | omega); intro tz9' kz9')
      k_with "my inplaceOp RShift int int" => (k_here; (with_reducible refine g_irsh ?zqkb1 ?_); (case zqkb1 => first | assumption | omega); intro tz9' kz9')
      k_with "my binaryOp LShift int int" => (k_here; (with_reducible refine g_lsh ?zqkb1 ?zqkb2 ?_); (case zqkb1 => first | assumption | omega); (case zqkb2 => first | exact shlOk (by assumption) (by omega) (by first | assumption | omega) | assumption); intro tz9' kz9')
      k_with "my inplaceOp LShift int int" => (k_here; (with_reducible refine g_ilsh ?zqkb1 ?zqkb2 ?_); (case zqkb1 => first | assumption | omega); (case zqkb2 => first | exact shlOk (by assumption) (by omega) (by first | assumption | omega) | assumption); intro tz9' kz9')
      k_with "my binaryOp Mult int int" => (k_here; (with_reducible refine g_mul ?zqkb1 ?_); (case zqkb1 => assumption); intro tz9' kz9')
      k_with "my inplaceOp Mult int int" => (k_here; (with_reducible refine g_imul ?zqkb1 ?_); (case zqkb1 => assumption); intro tz9' kz9')
      k_with "my binaryOp Add int int" => (k_here; (with_reducible refine g_add ?_); intro tz9' kz9')
      k_with "my binaryOp Sub int int" => (k_here; (with_reducible refine g_sub ?_); intro tz9' kz9')
      k_with "my binaryOp BitAnd int int" => (k_here; (with_reducible refine g_and ?_); intro tz9' kz9')
      k_with "my binaryOp BitOr int int" => (k_here; (with_reducible refine g_or ?_); intro tz9' kz9')
      k_with "my inplaceOp Add int int" => (k_here; (with_reducible refine g_iadd ?_); intro tz9' kz9')
      k_with "my inplaceOp Sub int int" => (k_here; (with_reducible refine g_isub ?_); intro tz9' kz9')
      k_with "my binaryOp FloorDiv int int" => (k_here; (with_reducible refine floordiv_int ?zqkb1 ?_ ?zqkb2); (case zqkb1 => first | assumption | omega); (case zqkb2 => exact .inl ((by assumption : Near _) _)))
      k_with "my call builtin:divmod" => (k_here; k_dflt (refine' my_divmod ?zqF ?zqN ?zqb ?zqp ?_; (case zqF => k_asm); (case zqN => k_asm); (case zqb => first | assumption | omega); (case zqp => assumption); k_whole; intro D' h' t1' t2' tk' F' N' hlt'; (try k_sweep)))
      k_with "my binaryOp Pow int int" => (k_here; (with_reducible refine pow_int ?zqkb1 ?zqkb2 ?_); (case zqkb1 => assumption); (case zqkb2 => assumption))
      k_with "call ref" => (k_here; k_dflt (refine' Ctr.u0_0 (d117 w _ _ _) ?cB ?cF ?cX ?cN ?cT ?cC1 ?cC2 ?ck ?cd ?cu ?_; (case cB => k_asm); (case cF => k_asm); (case cX => k_asm); (case cN => first | k_asm | (simp only [List.append_assoc, List.nil_append, List.append_nil]; k_asm)); (case cT => k_asm); (case cC1 => k_asm); (case cC2 => k_asm); (case ck => first | exact rfl | assumption); (case cd => ktr_room); (case cu => ktr_units); intro  h9 tk9 F9 N9; (try dsimp only); (try k_sweep); (try k_fold)))
      k_with "ite" => (with_reducible refine ite_neg f1 ?_)
      k_with "ite" => (with_reducible refine ite_pos f2 ?_)
      (try dsimp only)
      (try k_fold)
      k_steps
      all_goals (
        unfold FwPost
        refine' fw_endW ?eF ?eN ?e2 ?e3 ?er ?es hof ?ep
        case eF => assumption
        case eN => assumption
        case e2 => exact rfl
        case e3 => exact rfl
        case er => (intro z a b c d; simp only [a, b, c, d, if_false])
        case es => exact fun p hp => hp
        case ep => (intro a; exact fin _ _ rfl))
    · have f1 : ¬ decide (n1 ≥ 256) = true := by rw [decide_eq_true_eq]; omega
      have f2 : ¬ (n1 == 31) = true := by rw [beq_iff_eq]; omega
      have ew : wstep g (vv, kk) n1 = (vv, n1) := by
        unfold wstep
        rw [if_neg (show ¬ 256 ≤ n1 by omega), if_neg (show ¬ n1 = 31 by omega)]
      rw [ew] at fin
      k_with_none
      k_with "my binaryOp RShift int int" => (k_here; (with_reducible refine g_rsh ?zqkb1 ?_); (case zqkb1 => first | assumption | omega); intro tz9' kz9')
      k_with "my inplaceOp RShift int int" => (k_here; (with_reducible refine g_irsh ?zqkb1 ?_); (case zqkb1 => first | assumption | omega); intro tz9' kz9')
      k_with "my binaryOp LShift int int" => (k_here; (with_reducible refine g_lsh ?zqkb1 ?zqkb2 ?_); (case zqkb1 => first | assumption | omega); (case zqkb2 => first | exact shlOk (by assumption) (by omega) (by first | assumption | omega) | assumption); intro tz9' kz9')
      k_with "my inplaceOp LShift int int" => (k_here; (with_reducible refine g_ilsh ?zqkb1 ?zqkb2 ?_); (case zqkb1 => first | assumption | omega); (case zqkb2 => first | exact shlOk (by assumption) (by omega) (by first | assumption | omega) | assumption); intro tz9' kz9')
      k_with "my binaryOp Mult int int" => (k_here; (with_reducible refine g_mul ?zqkb1 ?_); (case zqkb1 => assumption); intro tz9' kz9')
      k_with "my inplaceOp Mult int int" => (k_here; (with_reducible refine g_imul ?zqkb1 ?_); (case zqkb1 => assumption); intro tz9' kz9')
      k_with "my binaryOp Add int int" => (k_here; (with_reducible refine g_add ?_); intro tz9' kz9')
      k_with "my binaryOp Sub int int" => (k_here; (with_reducible refine g_sub ?_); intro tz9' kz9')
      k_with "my binaryOp BitAnd int int" => (k_here; (with_reducible refine g_and ?_); intro tz9' kz9')
      k_with "my binaryOp BitOr int int" => (k_here; (with_reducible refine g_or ?_); intro tz9' kz9')
      k_with "my inplaceOp Add int int" => (k_here; (with_reducible refine g_iadd ?_); intro tz9' kz9')
      k_with "my inplaceOp Sub int int" => (k_here; (with_reducible refine g_isub ?_); intro tz9' kz9')
      k_with "my binaryOp FloorDiv int int" => (k_here; (with_reducible refine floordiv_int ?zqkb1 ?_ ?zqkb2); (case zqkb1 => first | assumption | omega); (case zqkb2 => exact .inl ((by assumption : Near _) _)))
      k_with "my call builtin:divmod" => (k_here; k_dflt (refine' my_divmod ?zqF ?zqN ?zqb ?zqp ?_; (case zqF => k_asm); (case zqN => k_asm); (case zqb => first | assumption | omega); (case zqp => assumption); k_whole; intro D' h' t1' t2' tk' F' N' hlt'; (try k_sweep)))
      k_with "my binaryOp Pow int int" => (k_here; (with_reducible refine pow_int ?zqkb1 ?zqkb2 ?_); (case zqkb1 => assumption); (case zqkb2 => assumption))
      k_with "call ref" => (k_here; k_dflt (refine' Ctr.u0_0 (d117 w _ _ _) ?cB ?cF ?cX ?cN ?cT ?cC1 ?cC2 ?ck ?cd ?cu ?_; (case cB => k_asm); (case cF => k_asm); (case cX => k_asm); (case cN => first | k_asm | (simp only [List.append_assoc, List.nil_append, List.append_nil]; k_asm)); (case cT => k_asm); (case cC1 => k_asm); (case cC2 => k_asm); (case ck => first | exact rfl | assumption); (case cd => ktr_room); (case cu => ktr_units); intro  h9 tk9 F9 N9; (try dsimp only); (try k_sweep); (try k_fold)))
      k_with "ite" => (with_reducible refine ite_neg f1 ?_)
      k_with "ite" => (with_reducible refine ite_neg f2 ?_)
      (try dsimp only)
      (try k_fold)
      k_steps
      all_goals (
        unfold FwPost
        refine' fw_endW ?eF ?eN ?e2 ?e3 ?er ?es hof ?ep
        case eF => assumption
        case eN => assumption
        case e2 => exact rfl
        case e3 => exact rfl
        case er => (intro z a b c d; simp only [a, b, c, d, if_false])
        case es => exact fun p hp => hp
        case ep => (intro a; exact fin _ _ rfl))
  case done =>
    intro c u h tk hpp F9 N9
    obtain ⟨o1, kk, tkk, vv, tv⟩ := c
    obtain ⟨ns1, hpa, hv⟩ := hpp
    have := ints_uniq hpa hi
    subst this
    dsimp only at hv F9
    (try dsimp only)
    (try k_fold)
    k_steps
    rw [← hv] at hret
    exact hret _ _ _ _ (by assumption) (by assumption) ⟨_, rfl, rfl⟩
end Mine
-- part G3
namespace Mine

local macro_rules | `(tactic| k_mem) => `(tactic| assumption)
local macro_rules | `(tactic| k_all) => `(tactic| first | assumption | exact rest_ne (by assumption) (by omega))
structure RsSt where
  r : Option Value
  v : Int
  tv : Tok
  vq : List Value
  ep : Nat
  t1 : List (Addr × Obj)
  t2 : List (Addr × Obj)
theorem perm_in {a b : Addr × Obj} {t1 t2 r : List (Addr × Obj)} : ∀ p ∈ t1 ++ (t2 ++ (a :: b :: r)), p ∈ a :: b :: (t1 ++ (t2 ++ r)) := fun p hp => by
  rcases List.mem_append.mp hp with hp | hp
  · exact .tail _ (.tail _ (List.mem_append_left _ hp))
  · rcases List.mem_append.mp hp with hp | hp
    · exact .tail _ (.tail _ (List.mem_append_right _ (List.mem_append_left _ hp)))
    · rcases List.mem_cons.mp hp with rfl | hp
      · exact .head _
      · rcases List.mem_cons.mp hp with rfl | hp
        · exact .tail _ (.head _)
        · exact .tail _ (.tail _ (List.mem_append_right _ (List.mem_append_right _ hp)))
theorem perm_out {d a b : Addr × Obj} {t1 t2 r : List (Addr × Obj)} : ∀ p ∈ d :: a :: b :: (t1 ++ (t2 ++ r)), p ∈ d :: (t1 ++ (t2 ++ (a :: b :: r))) := fun p hp => by
  rcases List.mem_cons.mp hp with rfl | hp
  · exact .head _
  refine .tail _ ?_
  rcases List.mem_cons.mp hp with rfl | hp
  · exact List.mem_append_right _ (List.mem_append_right _ (.head _))
  rcases List.mem_cons.mp hp with rfl | hp
  · exact List.mem_append_right _ (List.mem_append_right _ (.tail _ (.head _)))
  rcases List.mem_append.mp hp with hp | hp
  · exact List.mem_append_left _ hp
  rcases List.mem_append.mp hp with hp | hp
  · exact List.mem_append_right _ (List.mem_append_left _ hp)
  · exact List.mem_append_right _ (List.mem_append_right _ (.tail _ (.tail _ hp)))
theorem hmR {x y1 y3 : Str} {m₀ : Str → Option Value} {a1 : Option Value} {v : Int} {t : Tok} (h1 : m₀ y1 = a1) (h3 : m₀ y3 = some (.int v t)) :
    ∀ z, z ≠ x → m₀ z = (if z = y1 then a1 else if z = y3 then some (.int v t) else m₀ z) := by
  intro z hz
  by_cases e1 : z = y1
  · rw [if_pos e1, e1, h1]
  by_cases e3 : z = y3
  · rw [if_neg e1, if_pos e3, e3, h3]
  · rw [if_neg e1, if_neg e3]
theorem fw_endR {h₀ : Heap} {L I lq : Addr} {x y1 y3 : Str} {rest news' : List (Addr × Obj)} {P : List Value → RsSt → Prop} {it : Obj} {pre : List Value} {s₁ : Shared} {h' : Heap} {tk' : Nat} {m₀ m' : Str → Option Value} {v : Int} {t : Tok} (vq : List Value) (ep : Nat) (t1 t2 : List (Addr × Obj))
    (F : Fr h₀ L h' m') (N : News h₀ L h' news') (h3 : m' y3 = some (.int v t)) (hr : ∀ z, z ≠ x → z ≠ y1 → z ≠ y3 → m' z = m₀ z) (hs : ∀ p ∈ (I, it) :: (lq, listOf vq.toArray ep) :: (t1 ++ (t2 ++ rest)), p ∈ news') (hof : ∀ p ∈ (lq, listOf vq.toArray ep) :: (t1 ++ (t2 ++ rest)), p.1 ≠ I) (hp : ∀ a, P pre ⟨a, v, t, vq, ep, t1, t2⟩) :
    FwEnd h₀ L x (fun c => (lq, listOf c.vq.toArray c.ep) :: (c.t1 ++ (c.t2 ++ rest))) (fun c z => if z = y1 then c.r else if z = y3 then some (.int c.v c.tv) else m₀ z) P I it pre s₁ { s₁ with heap := h', toks := tk' } := by
  refine fw_end ⟨m' y1, v, t, vq, ep, t1, t2⟩ F N (fun z hz => ?_) hs hof (hp _)
  dsimp only
  by_cases e1 : z = y1
  · rw [if_pos e1, e1]
  by_cases e3 : z = y3
  · rw [if_neg e1, if_pos e3, e3, h3]
  · rw [if_neg e1, if_neg e3, hr z hz e1 e3]
theorem fw_endR1 {h₀ : Heap} {L I lq : Addr} {x y1 y3 : Str} {rest : List (Addr × Obj)} {P : List Value → RsSt → Prop} {it : Obj} {pre : List Value} {s₁ : Shared} {h' : Heap} {tk' : Nat} {m₀ m' : Str → Option Value} {v : Int} {t : Tok} {vq : List Value} {ep : Nat} {t1 t2 : List (Addr × Obj)} {d : Addr × Obj}
    (F : Fr h₀ L h' m') (N : News h₀ L h' (d :: (I, it) :: (lq, listOf vq.toArray ep) :: (t1 ++ (t2 ++ rest)))) (h3 : m' y3 = some (.int v t)) (hr : ∀ z, z ≠ x → z ≠ y1 → z ≠ y3 → m' z = m₀ z) (hof : ∀ p ∈ (lq, listOf vq.toArray ep) :: (t1 ++ (t2 ++ rest)), p.1 ≠ I) (hp : ∀ a, P pre ⟨a, v, t, vq, ep, t1, t2⟩) :
    FwEnd h₀ L x (fun c => (lq, listOf c.vq.toArray c.ep) :: (c.t1 ++ (c.t2 ++ rest))) (fun c z => if z = y1 then c.r else if z = y3 then some (.int c.v c.tv) else m₀ z) P I it pre s₁ { s₁ with heap := h', toks := tk' } :=
  fw_endR vq ep t1 t2 F N h3 hr (fun _ hp => .tail _ hp) hof hp
theorem fw_endR2 {h₀ : Heap} {L I lq : Addr} {x y1 y3 : Str} {rest : List (Addr × Obj)} {P : List Value → RsSt → Prop} {it : Obj} {pre : List Value} {s₁ : Shared} {h' : Heap} {tk' : Nat} {m₀ m' : Str → Option Value} {v : Int} {t : Tok} {vq : List Value} {ep : Nat} {t1 t2 : List (Addr × Obj)} {d d2 : Addr × Obj}
    (F : Fr h₀ L h' m') (N : News h₀ L h' (d :: d2 :: (I, it) :: (lq, listOf vq.toArray ep) :: (t1 ++ (t2 ++ rest)))) (h3 : m' y3 = some (.int v t)) (hr : ∀ z, z ≠ x → z ≠ y1 → z ≠ y3 → m' z = m₀ z) (hof : ∀ p ∈ (lq, listOf vq.toArray ep) :: (t1 ++ (t2 ++ rest)), p.1 ≠ I) (hp : ∀ a, P pre ⟨a, v, t, vq, ep, t1, t2⟩) :
    FwEnd h₀ L x (fun c => (lq, listOf c.vq.toArray c.ep) :: (c.t1 ++ (c.t2 ++ rest))) (fun c z => if z = y1 then c.r else if z = y3 then some (.int c.v c.tv) else m₀ z) P I it pre s₁ { s₁ with heap := h', toks := tk' } :=
  fw_endR vq ep t1 t2 F N h3 hr (fun _ hp => .tail _ (.tail _ hp)) hof hp
theorem hnl_of {t1 t2 r : List (Addr × Obj)} {lq I : Addr} {o1 o2 : Obj} (h1 : Apart t1 ((I, o1) :: (lq, o2) :: r)) (h2 : Apart t2 ((I, o1) :: (lq, o2) :: r)) (h3 : ∀ p ∈ r, p.1 ≠ lq) : ∀ p ∈ t1 ++ (t2 ++ r), p.1 ≠ lq := fun p hp => by
  rcases List.mem_append.mp hp with hp | hp
  · exact (h1 p hp _ (.tail _ (.head _))).symm
  rcases List.mem_append.mp hp with hp | hp
  · exact (h2 p hp _ (.tail _ (.head _))).symm
  · exact h3 p hp
theorem hnI_of {t1 t2 r : List (Addr × Obj)} {lq I : Addr} {o1 o2 : Obj} (h1 : Apart t1 ((I, o1) :: (lq, o2) :: r)) (h2 : Apart t2 ((I, o1) :: (lq, o2) :: r)) (h3 : ∀ p ∈ r, p.1 ≠ I) : ∀ p ∈ t1 ++ (t2 ++ r), p.1 ≠ I := fun p hp => by
  rcases List.mem_append.mp hp with hp | hp
  · exact (h1 p hp _ (.head _)).symm
  rcases List.mem_append.mp hp with hp | hp
  · exact (h2 p hp _ (.head _)).symm
  · exact h3 p hp
section
open PySem.Calls PySem.Spec
theorem my_add_lists {prog : Program} {w : World} {A : Around} {E : Value → Shared → Prop} {s : Shared} {h₀ : Heap} {L : Addr} {m : Str → Option Value} {news : List (Addr × Obj)} {Q : Value → Shared → Prop} {l b : Addr} {vs ws : List Value} {n k : Nat}
    (F : Fr h₀ L s.heap m) (N : News h₀ L s.heap news) (hl : (l, listOf vs.toArray n) ∈ news) (hb : (b, listOf ws.toArray k) ∈ news)
    (h : ∀ D h', Fr h₀ L h' m → News h₀ L h' ((D, listOf (vs ++ ws).toArray 0) :: news) → Q (.ref D) { s with heap := h' })
    (hsz : vs.length + ws.length ≤ 1000000) : wpAny (model prog w) A (binaryOp .Add (.ref l) (.ref b)) Q E s :=
  add_arrays F N (PySem.IsL.isList (n := n) (N _ hl).1) (PySem.IsL.isList (n := k) (N _ hb).1) (fun h' F' N' => h _ h' F' N') (by rw [List.size_toArray, List.size_toArray, sizeLine_eq]; (first | lia | omega))
end
theorem drop23 {d a b : Addr × Obj} {r : List (Addr × Obj)} : ∀ p ∈ d :: r, p ∈ d :: a :: b :: r := fun p hp => by
  rcases List.mem_cons.mp hp with rfl | hp
  · exact .head _
  · exact .tail _ (.tail _ (.tail _ hp))
theorem d152 (w : World) (v0 : Int) (tv0 : Tok) (lD : Addr) (epD Bv : Nat) (vs : List Value) (ds : List Int) (tl1 tl2 rest : List (Addr × Obj)) (hst1 : TabSt 30 32 4 (Str.ofString "_int2digits.<locals>.inner") tl1) (hst2 : TabSt 37 47 4 (Str.ofString "_digits2int.<locals>.inner") tl2)
    (hap1 : Apart tl1 rest) (hap2 : Apart tl2 rest) (hD : (lD, listOf vs.toArray epD) ∈ rest) (hi : IntsAre vs ds) (hlen : ds.length ≤ 100)
    (hds : ∀ d ∈ ds, ∃ k, k < 6900 ∧ 2 ^ k ≤ d.natAbs ∧ d.natAbs < 2 ^ (k + 1) ∧ 3 ≤ k ∧ Bv ≤ 200 * (k + 1)) (hB : Bd Bv v0) (hB3 : 3 ≤ Bv) :
    Ctr w 152 [.int v0 tv0, .ref lD] 350 4000 (tl1 ++ (tl2 ++ rest)) (fun r led' => ∃ D vr n tl1' tl2', r = .ref D ∧ IntsAre vr ((rloop v0 ds).2 ++ [(rloop v0 ds).1]) ∧ TabSt 30 32 4 (Str.ofString "_int2digits.<locals>.inner") tl1' ∧ TabSt 37 47 4 (Str.ofString "_digits2int.<locals>.inner") tl2' ∧ Apart tl1' rest ∧ Apart tl2' rest ∧
      led' = (D, listOf vr.toArray n) :: (tl1' ++ (tl2' ++ rest))) := by
  unfold Ctr; k_fill
  intro dp un gd cn cs a ccd cl outer A₀ base h₀ L m s Q E loose mean mg mb B F X N T C1 C2 hk hd hu hret
  obtain ⟨hp9, gn9, dr9, tk9, os9⟩ := s
  w_on
  w_top on
  have hi' := hi
  k_with_none
  k_with "my binaryOp RShift int int" => (k_here; (with_reducible refine g_rsh ?zqkb1 ?_); (case zqkb1 => first | assumption | (first | lia | omega)); intro tz9' kz9')
  k_with "my inplaceOp RShift int int" => (k_here; (with_reducible refine g_irsh ?zqkb1 ?_); (case zqkb1 => first | assumption | (first | lia | omega)); intro tz9' kz9')
  k_with "my binaryOp LShift int int" => (k_here; (with_reducible refine g_lsh ?zqkb1 ?zqkb2 ?_); (case zqkb1 => first | assumption | (first | lia | omega)); (case zqkb2 => first | exact shlOk (by assumption) (by (first | lia | omega)) (by first | assumption | (first | lia | omega)) | assumption); intro tz9' kz9')
  k_with "my inplaceOp LShift int int" => (k_here; (with_reducible refine g_ilsh ?zqkb1 ?zqkb2 ?_); (case zqkb1 => first | assumption | (first | lia | omega)); (case zqkb2 => first | exact shlOk (by assumption) (by (first | lia | omega)) (by first | assumption | (first | lia | omega)) | assumption); intro tz9' kz9')
  k_with "my binaryOp Mult int int" => (k_here; (with_reducible refine g_mul ?zqkb1 ?_); (case zqkb1 => assumption); intro tz9' kz9')
  k_with "my inplaceOp Mult int int" => (k_here; (with_reducible refine g_imul ?zqkb1 ?_); (case zqkb1 => assumption); intro tz9' kz9')
  k_with "my binaryOp Add int int" => (k_here; (with_reducible refine g_add ?_); intro tz9' kz9')
  k_with "my binaryOp Sub int int" => (k_here; (with_reducible refine g_sub ?_); intro tz9' kz9')
  k_with "my binaryOp BitAnd int int" => (k_here; (with_reducible refine g_and ?_); intro tz9' kz9')
  k_with "my binaryOp BitOr int int" => (k_here; (with_reducible refine g_or ?_); intro tz9' kz9')
  k_with "my inplaceOp Add int int" => (k_here; (with_reducible refine g_iadd ?_); intro tz9' kz9')
  k_with "my inplaceOp Sub int int" => (k_here; (with_reducible refine g_isub ?_); intro tz9' kz9')
  k_with "my binaryOp FloorDiv int int" => (k_here; (with_reducible refine floordiv_int ?zqkb1 ?_ ?zqkb2); (case zqkb1 => first | assumption | (first | lia | omega)); (case zqkb2 => exact .inl ((by assumption : Near _) _)))
  k_with "my call builtin:divmod" => (k_here; k_dflt (refine' my_divmod ?zqF ?zqN ?zqb ?zqp ?_; (case zqF => k_asm); (case zqN => k_asm); (case zqb => first | assumption | (first | lia | omega)); (case zqp => assumption); k_whole; intro D' h' t1' t2' tk' F' N' hlt'; (try k_sweep)))
  k_with "my call builtin:list.append" => (k_here; k_dflt (refine' my_append ?zqF ?zqN ?zqU ?zqz ?_; (case zqF => k_asm); (case zqN => k_asm); (case zqU => k_upd); (case zqz => first | assumption | (first | lia | omega)); k_whole; intro h' F' N'; (try k_sweep)))
  k_with "my call builtin:list.reverse" => (k_here; k_dflt (refine' my_reverse ?zqF ?zqN ?zqU ?zqz ?_; (case zqF => k_asm); (case zqN => k_asm); (case zqU => k_upd); (case zqz => first | assumption | (first | lia | omega)); k_whole; intro h' F' N'; (try k_sweep)))
  k_with "newList" => (k_here; k_dflt (refine' newList_K ?nk1 ?nk2 ?_; (case nk1 => k_asm); (case nk2 => k_asm); k_whole); intro lq hq9 F9 N9 lq1; (try k_sweep))
  refine wpAny_call ?_
  k_dflt cell_enter
  k_steps
  have hq30 : ∀ p ∈ rest, p.1 ≠ lq := fun p hp => Nat.ne_of_lt (lq1 p (List.mem_append_right _ (List.mem_append_right _ hp)))
  have hl1 : ∀ x ∈ tl1, lq ≠ x.1 := fun x hx => Nat.ne_of_gt (lq1 x (List.mem_append_left _ hx))
  have hl2 : ∀ x ∈ tl2, lq ≠ x.1 := fun x hx => Nat.ne_of_gt (lq1 x (List.mem_append_right _ (List.mem_append_left _ hx)))
  refine' fwd_loop (σ := RsSt) (fun c => (lq, listOf c.vq.toArray c.ep) :: (c.t1 ++ (c.t2 ++ rest))) (fun m0 c z => if z = Str.ofString "rest" then c.r else if z = Str.ofString "value" then some (.int c.v c.tv) else m0 z)
    (fun pre c => ∃ d1 qs, IntsAre pre d1 ∧ IntsAre c.vq qs ∧ (c.v, qs) = rloop v0 d1 ∧ TabSt 30 32 4 (Str.ofString "_int2digits.<locals>.inner") c.t1 ∧ TabSt 37 47 4 (Str.ofString "_digits2int.<locals>.inner") c.t2 ∧ Apart c.t1 rest ∧ Apart c.t2 rest ∧ (∀ x ∈ c.t1, lq ≠ x.1) ∧ (∀ x ∈ c.t2, lq ≠ x.1) ∧ Bd Bv c.v)
    ⟨none, v0, tv0, [], 0, tl1, tl2⟩ ?hh ?F ?hM ?N ?hm ?hp ?turn ?done
  case hh => exact rfl
  case F => k_asm
  case N => k_asm
  case hm => exact fun c => .tail _ (List.mem_append_right _ (List.mem_append_right _ hD))
  case hp => exact ⟨[], [], .nil, .nil, rfl, hst1, hst2, hap1, hap2, hl1, hl2, hB⟩
  case hM => exact hmR rfl rfl
  case turn =>
    intro I c pre post v it h tk hI hof hns hpp hic F9 N9
    obtain ⟨r1, vv, tv, vq, ep, t1, t2⟩ := c
    obtain ⟨d, td, na, nb, rfl, hns2, hpa, hpb⟩ := ints_at hi hns
    obtain ⟨ns1, qs, hpa', hvq, hv, hs1, hs2, ha1, ha2, hx1, hx2, hBv⟩ := hpp
    have := ints_uniq hpa hpa'
    subst this
    dsimp only at hvq hv hs1 hs2 ha1 ha2 hx1 hx2 hBv F9 N9 hof
    obtain ⟨k, hk1, hk2, hk3, hk4, hk5⟩ := hds d (by rw [hns2]; simp)
    have hd8 : 8 ≤ d.natAbs := Nat.le_trans (Nat.pow_le_pow_right (by decide) hk4 : 2 ^ 3 ≤ 2 ^ k) hk2
    have hBk : Bd (200 * (k + 1)) vv := hBv.mono hk5
    have hl9 : vq.length ≤ 1000 := by
      rw [hvq.length]
      have e2 := congrArg List.length hns2
      have e3 := rloop_len v0 na
      rw [← hv] at e3
      simp only [List.length_append, List.length_cons] at e2 e3
      (first | lia | omega)
    have hA1 : Apart t1 ((I, it) :: (lq, listOf vq.toArray ep) :: rest) := .cons (fun x hx => (hof x (.tail _ (List.mem_append_left _ hx))).symm) (.cons hx1 ha1)
    have hA2 : Apart t2 ((I, it) :: (lq, listOf vq.toArray ep) :: rest) := .cons (fun x hx => (hof x (.tail _ (List.mem_append_right _ (List.mem_append_left _ hx)))).symm) (.cons hx2 ha2)
    have hIl : lq ≠ I := hof _ (.head _)
    have hIln : @Ne Nat I lq := fun e => hIl e.symm
    have hIr : ∀ p ∈ rest, p.1 ≠ I := fun p hp => hof p (.tail _ (List.mem_append_right _ (List.mem_append_right _ hp)))
    have hnd := nearDiv_bd hd8 hBv hB3
    k_with_none
    k_with "my binaryOp RShift int int" => (k_here; (with_reducible refine g_rsh ?zqkb1 ?_); (case zqkb1 => first | assumption | (first | lia | omega)); intro tz9' kz9')
    k_with "my inplaceOp RShift int int" => (k_here; (with_reducible refine g_irsh ?zqkb1 ?_); (case zqkb1 => first | assumption | (first | lia | omega)); intro tz9' kz9')
    k_with "my binaryOp LShift int int" => (k_here; (with_reducible refine g_lsh ?zqkb1 ?zqkb2 ?_); (case zqkb1 => first | assumption | (first | lia | omega)); (case zqkb2 => first | exact shlOk (by assumption) (by (first | lia | omega)) (by first | assumption | (first | lia | omega)) | assumption); intro tz9' kz9')
    k_with "my inplaceOp LShift int int" => (k_here; (with_reducible refine g_ilsh ?zqkb1 ?zqkb2 ?_); (case zqkb1 => first | assumption | (first | lia | omega)); (case zqkb2 => first | exact shlOk (by assumption) (by (first | lia | omega)) (by first | assumption | (first | lia | omega)) | assumption); intro tz9' kz9')
    k_with "my binaryOp Mult int int" => (k_here; (with_reducible refine g_mul ?zqkb1 ?_); (case zqkb1 => assumption); intro tz9' kz9')
    k_with "my inplaceOp Mult int int" => (k_here; (with_reducible refine g_imul ?zqkb1 ?_); (case zqkb1 => assumption); intro tz9' kz9')
    k_with "my binaryOp Add int int" => (k_here; (with_reducible refine g_add ?_); intro tz9' kz9')
    k_with "my binaryOp Sub int int" => (k_here; (with_reducible refine g_sub ?_); intro tz9' kz9')
    k_with "my binaryOp BitAnd int int" => (k_here; (with_reducible refine g_and ?_); intro tz9' kz9')
    k_with "my binaryOp BitOr int int" => (k_here; (with_reducible refine g_or ?_); intro tz9' kz9')
    k_with "my inplaceOp Add int int" => (k_here; (with_reducible refine g_iadd ?_); intro tz9' kz9')
    k_with "my inplaceOp Sub int int" => (k_here; (with_reducible refine g_isub ?_); intro tz9' kz9')
    k_with "my binaryOp FloorDiv int int" => (k_here; (with_reducible refine floordiv_int ?zqkb1 ?_ ?zqkb2); (case zqkb1 => first | assumption | (first | lia | omega)); (case zqkb2 => exact .inl ((by assumption : Near _) _)))
    k_with "my call builtin:divmod" => (k_here; k_dflt (refine' my_divmod ?zqF ?zqN ?zqb ?zqp ?_; (case zqF => k_asm); (case zqN => k_asm); (case zqb => first | assumption | (first | lia | omega)); (case zqp => assumption); k_whole; intro D' h' t1' t2' tk' F' N' hlt'; (try k_sweep)))
    k_with "my call builtin:list.append" => (k_here; k_dflt (refine' my_append ?zqF ?zqN ?zqU ?zqz ?_; (case zqF => k_asm); (case zqN => k_asm); (case zqU => k_upd); (case zqz => first | assumption | (first | lia | omega)); k_whole; intro h' F' N'; (try k_sweep)))
    k_with "my call builtin:list.reverse" => (k_here; k_dflt (refine' my_reverse ?zqF ?zqN ?zqU ?zqz ?_; (case zqF => k_asm); (case zqN => k_asm); (case zqU => k_upd); (case zqz => first | assumption | (first | lia | omega)); k_whole; intro h' F' N'; (try k_sweep)))
    k_with "call ref" => (k_here; k_dflt (refine' Ctr.u5_4 (d56 w _ _ k _ _ t1 t2 ((I, it) :: (lq, listOf vq.toArray ep) :: rest) hs1 hs2 hA1 hA2 hk1 hk2 hk3 hBk) ?cB ?cF ?cX ?cN ?cT ?cC1 ?cC2 ?ck ?cd ?cu ?_; (case cB => k_asm); (case cF => k_asm); (case cX => k_asm); (case cN => exact kst_newsOf (by k_asm) perm_in); (case cT => k_asm); (case cC1 => k_asm); (case cC2 => k_asm); (case ck => first | exact rfl | assumption); (case cd => ktr_room); (case cu => ktr_units); intro D9 t19 t29 t1' t2' hs1' hs2' ha1' ha2' h9 tk9 F9 N9; have hD9 := news_ne N9 (.head _) (List.Mem.tail _ (List.mem_append_right _ (List.mem_append_right _ (.tail _ (.head _))))) (fun e => absurd (Value.type.inj e) (by decide)); have hD9n : @Ne Nat D9 lq := hD9; replace N9 := kst_newsOf N9 perm_out; have hnl := hnl_of ha1' ha2' hq30; (try dsimp only); (try k_sweep); (try k_fold)))
    (try dsimp only)
    (try k_fold)
    k_steps
    · have e8 := nd_pos (v := vv) (d := d) (by assumption)
      rw [e8] at hnd
      have fin : ∀ t, ∃ d1 qs, IntsAre (pre ++ [Value.int d td]) d1 ∧ IntsAre (vq ++ [Value.int (vv.fmod d - d) t]) qs ∧ (vv.fdiv d + 1, qs) = rloop v0 d1 := fun t =>
        ⟨na ++ [d], qs ++ [vv.fmod d - d], ints_app hpa (.cons _ _ .nil), ints_app hvq (.cons _ _ .nil), by rw [rloop_snoc, ← hv]; unfold rstep; rw [e8]⟩
      unfold FwPost
      refine' fw_endR2 ?eF ?eN ?e3 ?er ?eo ?ep
      case eF => assumption
      case eN => assumption
      case e3 => exact rfl
      case er => (intro z a b c; simp only [a, b, c, if_false])
      case eo => (intro p hp; rcases List.mem_cons.mp hp with rfl | hp; exact hIl; exact hnI_of ha1' ha2' hIr p hp)
      case ep =>
        intro a
        obtain ⟨d1, qs', g1, g2, g3⟩ := fin _
        exact ⟨d1, qs', g1, g2, g3, hs1', hs2', ha1'.sub (fun p hp => .tail _ (.tail _ hp)), ha2'.sub (fun p hp => .tail _ (.tail _ hp)), fun x hx => ha1' x hx _ (.tail _ (.head _)), fun x hx => ha2' x hx _ (.tail _ (.head _)), hnd⟩
    · have e8 := nd_neg (v := vv) (d := d) (by assumption)
      rw [e8] at hnd
      have fin : ∀ t, ∃ d1 qs, IntsAre (pre ++ [Value.int d td]) d1 ∧ IntsAre (vq ++ [Value.int (vv.fmod d) t]) qs ∧ (vv.fdiv d, qs) = rloop v0 d1 := fun t =>
        ⟨na ++ [d], qs ++ [vv.fmod d], ints_app hpa (.cons _ _ .nil), ints_app hvq (.cons _ _ .nil), by rw [rloop_snoc, ← hv]; unfold rstep; rw [e8]⟩
      unfold FwPost
      refine' fw_endR1 ?eF ?eN ?e3 ?er ?eo ?ep
      case eF => assumption
      case eN => assumption
      case e3 => exact rfl
      case er => (intro z a b c; simp only [a, b, c, if_false])
      case eo => (intro p hp; rcases List.mem_cons.mp hp with rfl | hp; exact hIl; exact hnI_of ha1' ha2' hIr p hp)
      case ep =>
        intro a
        obtain ⟨d1, qs', g1, g2, g3⟩ := fin _
        exact ⟨d1, qs', g1, g2, g3, hs1', hs2', ha1'.sub (fun p hp => .tail _ (.tail _ hp)), ha2'.sub (fun p hp => .tail _ (.tail _ hp)), fun x hx => ha1' x hx _ (.tail _ (.head _)), fun x hx => ha2' x hx _ (.tail _ (.head _)), hnd⟩
  case done =>
    intro c u h tk hpp F9 N9
    obtain ⟨r1, vv, tv, vq, ep, t1, t2⟩ := c
    obtain ⟨ns1, qs, hpa, hvq, hv, hs1, hs2, ha1, ha2, hx1, hx2, hBv⟩ := hpp
    have := ints_uniq hpa hi
    subst this
    dsimp only at hvq hv hs1 hs2 ha1 ha2 hx1 hx2 hBv F9 N9
    have hl9 : vq.length ≤ 1000 := by
      rw [hvq.length]
      have e3 := rloop_len v0 ns1
      rw [← hv] at e3
      simp only at e3
      (first | lia | omega)
    k_with_none
    k_with "my binaryOp RShift int int" => (k_here; (with_reducible refine g_rsh ?zqkb1 ?_); (case zqkb1 => first | assumption | (first | lia | omega)); intro tz9' kz9')
    k_with "my inplaceOp RShift int int" => (k_here; (with_reducible refine g_irsh ?zqkb1 ?_); (case zqkb1 => first | assumption | (first | lia | omega)); intro tz9' kz9')
    k_with "my binaryOp LShift int int" => (k_here; (with_reducible refine g_lsh ?zqkb1 ?zqkb2 ?_); (case zqkb1 => first | assumption | (first | lia | omega)); (case zqkb2 => first | exact shlOk (by assumption) (by (first | lia | omega)) (by first | assumption | (first | lia | omega)) | assumption); intro tz9' kz9')
    k_with "my inplaceOp LShift int int" => (k_here; (with_reducible refine g_ilsh ?zqkb1 ?zqkb2 ?_); (case zqkb1 => first | assumption | (first | lia | omega)); (case zqkb2 => first | exact shlOk (by assumption) (by (first | lia | omega)) (by first | assumption | (first | lia | omega)) | assumption); intro tz9' kz9')
    k_with "my binaryOp Mult int int" => (k_here; (with_reducible refine g_mul ?zqkb1 ?_); (case zqkb1 => assumption); intro tz9' kz9')
    k_with "my inplaceOp Mult int int" => (k_here; (with_reducible refine g_imul ?zqkb1 ?_); (case zqkb1 => assumption); intro tz9' kz9')
    k_with "my binaryOp Add int int" => (k_here; (with_reducible refine g_add ?_); intro tz9' kz9')
    k_with "my binaryOp Sub int int" => (k_here; (with_reducible refine g_sub ?_); intro tz9' kz9')
    k_with "my binaryOp BitAnd int int" => (k_here; (with_reducible refine g_and ?_); intro tz9' kz9')
    k_with "my binaryOp BitOr int int" => (k_here; (with_reducible refine g_or ?_); intro tz9' kz9')
    k_with "my inplaceOp Add int int" => (k_here; (with_reducible refine g_iadd ?_); intro tz9' kz9')
    k_with "my inplaceOp Sub int int" => (k_here; (with_reducible refine g_isub ?_); intro tz9' kz9')
    k_with "my binaryOp FloorDiv int int" => (k_here; (with_reducible refine floordiv_int ?zqkb1 ?_ ?zqkb2); (case zqkb1 => first | assumption | (first | lia | omega)); (case zqkb2 => exact .inl ((by assumption : Near _) _)))
    k_with "my call builtin:divmod" => (k_here; k_dflt (refine' my_divmod ?zqF ?zqN ?zqb ?zqp ?_; (case zqF => k_asm); (case zqN => k_asm); (case zqb => first | assumption | (first | lia | omega)); (case zqp => assumption); k_whole; intro D' h' t1' t2' tk' F' N' hlt'; (try k_sweep)))
    k_with "my call builtin:list.append" => (k_here; k_dflt (refine' my_append ?zqF ?zqN ?zqU ?zqz ?_; (case zqF => k_asm); (case zqN => k_asm); (case zqU => k_upd); (case zqz => first | assumption | (first | lia | omega)); k_whole; intro h' F' N'; (try k_sweep)))
    k_with "my call builtin:list.reverse" => (k_here; k_dflt (refine' my_reverse ?zqF ?zqN ?zqU ?zqz ?_; (case zqF => k_asm); (case zqN => k_asm); (case zqU => k_upd); (case zqz => first | assumption | (first | lia | omega)); k_whole; intro h' F' N'; (try k_sweep)))
    k_with "binaryOp Add ref ref" => (k_here; k_dflt (refine' my_add_lists ?F ?N ?z1 ?z2 ?_ ?z3; (case F => k_asm); (case N => k_asm); (case z1 => k_mem); (case z2 => exact .head _); (case z3 => (simp only [List.length_cons, List.length_nil]; (first | lia | omega))); k_whole; intro D9 h9 F9 N9))
    (try dsimp only)
    (try k_fold)
    k_steps
    refine hret _ _ _ _ (by assumption) (kst_newsOf (by assumption) drop23) ⟨_, _, _, _, _, rfl, ?oI, hs1, hs2, ha1, ha2, rfl⟩
    rw [← hv]
    exact ints_app hvq (.cons _ _ .nil)
end Mine
-- part G4
namespace Mine

section
open PySem.Calls PySem.Spec
variable {prog : Program} {w : World} {A : Around} {E : Value → Shared → Prop} {s : Shared} {h₀ : Heap} {L D : Addr} {m : Str → Option Value} {news : List (Addr × Obj)} {n : Nat} {a : Value} {r : List Value}
theorem truthy_cons {Q : Bool → Shared → Prop} (N : News h₀ L s.heap news) (hm : (D, listOf (a :: r).toArray n) ∈ news) (hfit : (a :: r).length ≤ 1000000) (h1 : ∀ tk, Q true { s with toks := tk }) : wpAny (model prog w) A (truthy (.ref D)) Q E s :=
  my_truthy N hm hfit (fun _ => h1) (fun e => nomatch e)
theorem truthy_nil {Q : Bool → Shared → Prop} (N : News h₀ L s.heap news) (hm : (D, listOf [].toArray n) ∈ news) (h1 : ∀ tk, Q false { s with toks := tk }) : wpAny (model prog w) A (truthy (.ref D)) Q E s :=
  my_truthy N hm (by decide) (fun e => absurd rfl e) (fun _ => h1)
noncomputable def gAt (l : List Int) (i : Nat) : Int := l.getD i 0
theorem ints_get : ∀ {vs : List Value} {ns : List Int} (_ : IntsAre vs ns) (i : Nat), i < ns.length → ∃ t, vs[i]? = some (.int (gAt ns i) t)
  | _, _, .nil, i, h => absurd h (Nat.not_lt_zero i)
  | _, _, .cons k t _, 0, _ => ⟨t, rfl⟩
  | _, _, .cons k t h, i + 1, hi => ints_get h i (Nat.lt_of_succ_lt_succ hi)
/-- ints, by a word that the library's rows do not know -/
noncomputable def IA (vs : List Value) (ns : List Int) : Prop := IntsAre vs ns
theorem my_itemI {value slice : PySem.Expr} {Q : Value → Shared → Prop} {vs : List Value} {ns : List Int} {k : Int} {u : Tok} (N : News h₀ L s.heap news) (hm : (D, listOf vs.toArray n) ∈ news) (hi : IA vs ns) (h0 : 0 ≤ k) (h1 : k < (ns.length : Int)) (hl : (ns.length : Int) < 1000) (h : ∀ t, Q (.int (gAt ns k.toNat) t) s)
    (hs : subscripted slice false (.ref D) (.int k u) = operate [.ref D, .int k u] (getItem (.ref D) (.int k u)) := by with_unfolding_all rfl) (hg : ∀ r, letTemporaryGo value (.ref D) r = pure () := by intro _; with_unfolding_all rfl) :
    wpAny (model prog w) A (subscriptTail value slice (.ref D) (.int k u)) Q E s := by
  obtain ⟨t, ht⟩ := ints_get hi k.toNat (by (first | lia | omega))
  exact my_item N hm h0 (by (first | lia | omega)) ht (h t) hs hg
theorem nm7 {h : Heap} {t : Addr × Obj} {lV : Addr} {oV : Obj} {l c3 c2 c1 : Addr} {oL o3 o2 o1 : Obj} {rest : List (Addr × Obj)} {G : Prop} (N : News h₀ L h (t :: (l, oL) :: (c3, o3) :: (c2, o2) :: (c1, o1) :: rest)) (hV : (lV, oV) ∈ rest)
    (k : ∀ D oP oC oG, D = l → oP = o3 → oC = o2 → oG = o1 → News h₀ L h ((lV, oV) :: (D, oL) :: (c3, oP) :: (c2, oC) :: (c1, oG) :: rest) → G) : G :=
  k _ _ _ _ rfl rfl rfl rfl fun p hp => by
    rcases List.mem_cons.mp hp with rfl | hp
    · exact N _ (.tail _ (.tail _ (.tail _ (.tail _ (.tail _ hV)))))
    · exact N p (.tail _ hp)
end
/-- one divided difference of a column -/
noncomputable def qAt (P C : List Int) (g i : Nat) : Int := Int.fdiv (gAt C (i + 1) - gAt C i) (gAt P (i + g) - gAt P i)
noncomputable def colN (P C : List Int) (g : Nat) : List Int := (List.range (C.length - 1)).map (qAt P C g)
/-- the heads of the columns, from the g-th on -/
noncomputable def headsF (P : List Int) : Nat → Nat → List Int → List Int
  | 0, _, _ => []
  | _ + 1, _, [] => []
  | n + 1, g, c :: r => c :: headsF P n (g + 1) (colN P (c :: r) (g + 1))
theorem colN_len (P C : List Int) (g : Nat) : (colN P C g).length = C.length - 1 := by
  unfold colN
  rw [List.length_map, List.length_range]
theorem rng_small {M : Int} (h0 : 0 ≤ M) (h1 : M ≤ 5) : Builtin.Range.small 0 M 1 = true := by
  have : M = 0 ∨ M = 1 ∨ M = 2 ∨ M = 3 ∨ M = 4 ∨ M = 5 := by (first | lia | omega)
  rcases this with rfl | rfl | rfl | rfl | rfl | rfl <;> decide
theorem rng_size {M : Int} {n : Nat} (h : M = n) (h1 : M ≤ 5) : Builtin.Range.rangeSize 0 M 1 = ((n : Nat) : Int) := by
  have : n = 0 ∨ n = 1 ∨ n = 2 ∨ n = 3 ∨ n = 4 ∨ n = 5 := by (first | lia | omega)
  subst h
  rcases this with rfl | rfl | rfl | rfl | rfl | rfl <;> decide
noncomputable abbrev HwS : Type := Addr × List Value × Nat × List Value × Nat × Obj × Obj × List Int × List Int
theorem ints_cons {c : Int} {cr : List Int} {vc : List Value} (h : IntsAre vc (c :: cr)) {G : Prop} (k : ∀ t vr, IntsAre vr cr → vc = .int c t :: vr → G) : G := by
  cases h with
  | cons _ t h => exact k t _ h rfl
theorem ints_nil {vc : List Value} (h : IntsAre vc []) {G : Prop} (k : vc = [] → G) : G := by
  cases h
  exact k rfl
local macro_rules | `(tactic| k_mem) => `(tactic| assumption)
local macro_rules | `(tactic| k_all) => `(tactic| first | assumption | exact rest_ne (by assumption) (by omega))
theorem off1_mem {D : Addr} : ∀ {l : List (Addr × Obj)}, LCg.Off1 D l → ∀ p ∈ l, p.1 ≠ D
  | [], _, _, hp => nomatch hp
  | _ :: _, h, p, hp => by
    rcases List.mem_cons.mp hp with rfl | hp
    · exact h.1
    · exact off1_mem h.2 p hp
section
local macro_rules | `(tactic| k_ne) => `(tactic| first | exact neN (by assumption) | exact neN (Ne.symm (by assumption)) | (refine neN ?_; (try dsimp only); omega))
theorem d157 (w : World) (lP lV : Addr) (nP nV : Nat) (vp vv : List Value) (ps ns : List Int) (rest : List (Addr × Obj)) (hP : (lP, listOf vp.toArray nP) ∈ rest) (hip : IntsAre vp ps) (hpl : ps.length = 5) (hV : (lV, listOf vv.toArray nV) ∈ rest) (hiv : IntsAre vv ns) (hnl : ns.length = 5)
    (hz : ∀ i g : Nat, 1 ≤ g → i + g < 5 → gAt ps (i + g) - gAt ps i ≠ 0 ∧ Near (gAt ps (i + g) - gAt ps i)) :
    Ctr w 157 [.ref lP, .ref lV] 8 200 rest (fun r led' => ∃ D vh n, r = .ref D ∧ IntsAre vh (headsF ps 5 0 ns) ∧ led' = (D, listOf vh.toArray n) :: rest) := by
  unfold Ctr; k_fill
  intro dp un gd cn cs a ccd cl outer A₀ base h₀ L m s Q E loose mean mg mb B F X N T C1 C2 hk hd hu hret
  obtain ⟨hp9, gn9, dr9, tk9, os9⟩ := s
  w_on
  w_top on
  have hipA : IA vp ps := hip
  have hivA : IA vv ns := hiv
  clear hip hiv
  k_with_none
  k_with "my binaryOp RShift int int" => (k_here; (with_reducible refine g_rsh ?zqkb1 ?_); (case zqkb1 => first | assumption | (first | lia | omega)); intro tz9' kz9')
  k_with "my inplaceOp RShift int int" => (k_here; (with_reducible refine g_irsh ?zqkb1 ?_); (case zqkb1 => first | assumption | (first | lia | omega)); intro tz9' kz9')
  k_with "my binaryOp LShift int int" => (k_here; (with_reducible refine g_lsh ?zqkb1 ?zqkb2 ?_); (case zqkb1 => first | assumption | (first | lia | omega)); (case zqkb2 => first | exact shlOk (by assumption) (by (first | lia | omega)) (by first | assumption | (first | lia | omega)) | assumption); intro tz9' kz9')
  k_with "my inplaceOp LShift int int" => (k_here; (with_reducible refine g_ilsh ?zqkb1 ?zqkb2 ?_); (case zqkb1 => first | assumption | (first | lia | omega)); (case zqkb2 => first | exact shlOk (by assumption) (by (first | lia | omega)) (by first | assumption | (first | lia | omega)) | assumption); intro tz9' kz9')
  k_with "my binaryOp Mult int int" => (k_here; (with_reducible refine g_mul ?zqkb1 ?_); (case zqkb1 => assumption); intro tz9' kz9')
  k_with "my inplaceOp Mult int int" => (k_here; (with_reducible refine g_imul ?zqkb1 ?_); (case zqkb1 => assumption); intro tz9' kz9')
  k_with "my binaryOp Add int int" => (k_here; (with_reducible refine g_add ?_); intro tz9' kz9')
  k_with "my binaryOp Sub int int" => (k_here; (with_reducible refine g_sub ?_); intro tz9' kz9')
  k_with "my binaryOp BitAnd int int" => (k_here; (with_reducible refine g_and ?_); intro tz9' kz9')
  k_with "my binaryOp BitOr int int" => (k_here; (with_reducible refine g_or ?_); intro tz9' kz9')
  k_with "my inplaceOp Add int int" => (k_here; (with_reducible refine g_iadd ?_); intro tz9' kz9')
  k_with "my inplaceOp Sub int int" => (k_here; (with_reducible refine g_isub ?_); intro tz9' kz9')
  k_with "my binaryOp FloorDiv int int" => (k_here; (with_reducible refine floordiv_int ?zqkb1 ?_ ?zqkb2); (case zqkb1 => first | assumption | (first | lia | omega)); (case zqkb2 => exact .inl ((by assumption : Near _) _)))
  k_with "my call builtin:divmod" => (k_here; k_dflt (refine' my_divmod ?zqF ?zqN ?zqb ?zqp ?_; (case zqF => k_asm); (case zqN => k_asm); (case zqb => first | assumption | (first | lia | omega)); (case zqp => assumption); k_whole; intro D' h' t1' t2' tk' F' N' hlt'; (try k_sweep)))
  k_with "my call builtin:list.append" => (k_here; k_dflt (refine' my_append ?zqF ?zqN ?zqU ?zqz ?_; (case zqF => k_asm); (case zqN => k_asm); (case zqU => k_upd); (case zqz => first | assumption | (first | lia | omega)); k_whole; intro h' F' N'; (try k_sweep)))
  k_with "my call builtin:list.reverse" => (k_here; k_dflt (refine' my_reverse ?zqF ?zqN ?zqU ?zqz ?_; (case zqF => k_asm); (case zqN => k_asm); (case zqU => k_upd); (case zqz => first | assumption | (first | lia | omega)); k_whole; intro h' F' N'; (try k_sweep)))
  k_with "my exec While" => (k_here; k_dflt (refine whl_start 0 (Hold.out ?_)))
  k_with "my CompSrc" => (k_here; k_dflt (refine LCg.CompSrc.range (by rfl) (by k_asm) (by k_asm) (by assumption) (by assumption) (by assumption) (by first | size_fits | (rw [sizeLine_eq]; (first | lia | omega))) ?_; intro g'))
  k_with "my CompRest" => (k_dflt (focus (refine' comp_range ff nn ?_ ?_ <;> first | (intro (i' : Nat) u' ys' I' oI' C' oC' D' m' h' tk' E' K' hi' hC' hx' F' N' off' ne' hK'; have hz1 := (hzz i' hi').1; have hz2 := (hzz i' hi').2; clear ne' off') | (intro wsn hwsn))))
  k_with "my EnEnd" => (refine turn_end (by k_asm) (by assumption) (by intro p9 hp9; (repeat (first | exact hp9 | refine List.Mem.tail _ ?_))) ?_; rw [← hfi i']; exact hK' _)
  k_with "my call builtin:len" => fail
  k_with "my truthy ref" => fail
  k_with "my FinE" => ((unfold LCg.FinE); intro D' h' tk' F' N' o1'; (try simp only [LCg.Off1, and_true] at o1'); (repeat (obtain ⟨o9', o1'⟩ := o1')); (have o8' := off1_mem o1'); (try simp only [List.nil_append, List.cons_append] at N'); (try dsimp only))
  k_with "my subscriptTail Name Constant ref int" => (k_here; k_dflt (refine my_item (by k_asm) (by k_mem) (by decide) (by decide) (by exact rfl) ?_ (by with_unfolding_all rfl) (by intro _; with_unfolding_all rfl)))
  k_with "my subscriptTail Name BinOp ref int" => (k_here; k_dflt (refine my_itemI (by k_asm) (by k_mem) (by assumption) (by (first | lia | omega)) (by (first | lia | omega)) (by (first | lia | omega)) ?_ (by with_unfolding_all rfl) (by intro _; with_unfolding_all rfl); intro t9'))
  k_with "my subscriptTail Name Name ref int" => (k_here; k_dflt (refine my_itemI (by k_asm) (by k_mem) (by assumption) (by (first | lia | omega)) (by (first | lia | omega)) (by (first | lia | omega)) ?_ (by with_unfolding_all rfl) (by intro _; with_unfolding_all rfl); intro t9'))
  refine wpAny_call ?_
  k_dflt (refine' code_defC ?k1 ?k2 ?k3 ?k4 ?k5 ?kA ?kF ?kK ?k6 ?k7 ?k8 ?k9 ?kB ?kD ?_ ?c2 ?c3 ?c4; (case kA => exact rfl); (case kF => exact rfl); (case kK => assumption); (case k1 => k_asm); (case k2 => k_asm); (case k3 => k_asm); (case k4 => k_asm); (case k5 => k_asm); (case k6 => k_is); (case k7 => k_is); (case k8 => ktr_room); (case k9 => exact BindsTo.of_eq rfl); (case kB => exact rfl); (case kD => decide +kernel); (case c2 => exact rfl); (case c3 => exact rfl); (case c4 => exact rfl); k_whole; intro g' L' h' tk' cells' FG' F' N' Y' B' X' T' l1; (try k_lt l1); k_cells Y'; (try simp only [List.cons_append, List.nil_append] at N'); (try dsimp only); (try k_lift B'); (try k_fold))
  have hrr : AllLt L' rest := by first | exact l1 | exact allLt_of l1
  have hq1 : ∀ p ∈ rest, p.1 ≠ L' + 1 := rest_ne hrr (by (first | lia | omega))
  have hq2 : ∀ p ∈ rest, p.1 ≠ L' + 1 + 1 := rest_ne hrr (by (first | lia | omega))
  have hq3 : ∀ p ∈ rest, p.1 ≠ L' + 1 + 1 + 1 := rest_ne hrr (by (first | lia | omega))
  k_steps
  refine Hold.mk ?_
  refine nm7 (by assumption) hV ?_
  intro lH oG oC oP e1 e2 e3 e4 N7
  subst e1
  subst e2
  subst e3
  subst e4
  have hlo : L' + 1 + 1 + 1 < lH := by first | assumption | exact (by assumption : _ ∧ _).1
  have hq4 : ∀ p ∈ rest, p.1 ≠ lH := rest_ne hrr (by (first | lia | omega))
  have dP : oP.data = Data.cell (some (Value.ref lP)) := (by assumption : oP.data = Data.cell _).trans (congrArg Data.cell (by with_unfolding_all rfl))
  have dG : oG.data = Data.cell none := (by assumption : oG.data = Data.cell _).trans (congrArg Data.cell (by with_unfolding_all rfl))
  refine' wh_loop (σ := HwS) (fun c => (c.1, listOf c.2.1.toArray c.2.2.1) :: (lH, listOf c.2.2.2.1.toArray c.2.2.2.2.1) :: (L' + 1 + 1 + 1, c.2.2.2.2.2.2.1) :: (L' + 1 + 1, c.2.2.2.2.2.1) :: (L' + 1, oP) :: rest) (fun m0 _ z => m0 z)
    (fun c => IA c.2.1 c.2.2.2.2.2.2.2.1 ∧ IA c.2.2.2.1 c.2.2.2.2.2.2.2.2 ∧ c.2.2.2.2.2.2.2.1.length + c.2.2.2.2.2.2.2.2.length = 5 ∧ headsF ps 5 0 ns = c.2.2.2.2.2.2.2.2 ++ headsF ps c.2.2.2.2.2.2.2.1.length c.2.2.2.2.2.2.2.2.length c.2.2.2.2.2.2.2.1 ∧ c.2.2.2.2.2.1.data = Data.cell (some (Value.ref c.1)) ∧ (∃ v, c.2.2.2.2.2.2.1.data = Data.cell v) ∧ @Ne Nat c.1 lH ∧ @Ne Nat c.1 (L' + 1 + 1 + 1) ∧ @Ne Nat c.1 (L' + 1 + 1))
    (fun c => c.2.2.2.2.2.2.2.1.length) (lV, vv, nV, [], 0, oC, oG, ns, []) ?hE ?F ?hM ?N ?hp ?turn
  case hE => first | passes_own | with_unfolding_all passes_own
  case F => k_asm
  case N => exact N7
  case hM => exact fun _ => rfl
  case hp => exact ⟨hivA, IntsAre.nil, by rw [hnl]; rfl, by rw [hnl]; rfl, by assumption, ⟨_, dG⟩, hq4 _ hV, hq3 _ hV, hq2 _ hV⟩
  case turn =>
    clear N7
    intro c h tk hpp F9 N9
    obtain ⟨dc, vc, nc, vh, nh, oc, og, cs, hs⟩ := c
    obtain ⟨hvc, hvh, hln, hhd, hoc, ⟨vog, hog⟩, hc1, hc2, hc3⟩ := hpp
    dsimp only at hvc hvh hln hhd hoc hog hc1 hc2 hc3 F9 N9
    cases cs with
    | nil =>
      refine ints_nil hvc ?_
      intro ec
      subst ec
      k_with_none
      k_with "my binaryOp RShift int int" => (k_here; (with_reducible refine g_rsh ?zqkb1 ?_); (case zqkb1 => first | assumption | (first | lia | omega)); intro tz9' kz9')
      k_with "my inplaceOp RShift int int" => (k_here; (with_reducible refine g_irsh ?zqkb1 ?_); (case zqkb1 => first | assumption | (first | lia | omega)); intro tz9' kz9')
      k_with "my binaryOp LShift int int" => (k_here; (with_reducible refine g_lsh ?zqkb1 ?zqkb2 ?_); (case zqkb1 => first | assumption | (first | lia | omega)); (case zqkb2 => first | exact shlOk (by assumption) (by (first | lia | omega)) (by first | assumption | (first | lia | omega)) | assumption); intro tz9' kz9')
      k_with "my inplaceOp LShift int int" => (k_here; (with_reducible refine g_ilsh ?zqkb1 ?zqkb2 ?_); (case zqkb1 => first | assumption | (first | lia | omega)); (case zqkb2 => first | exact shlOk (by assumption) (by (first | lia | omega)) (by first | assumption | (first | lia | omega)) | assumption); intro tz9' kz9')
      k_with "my binaryOp Mult int int" => (k_here; (with_reducible refine g_mul ?zqkb1 ?_); (case zqkb1 => assumption); intro tz9' kz9')
      k_with "my inplaceOp Mult int int" => (k_here; (with_reducible refine g_imul ?zqkb1 ?_); (case zqkb1 => assumption); intro tz9' kz9')
      k_with "my binaryOp Add int int" => (k_here; (with_reducible refine g_add ?_); intro tz9' kz9')
      k_with "my binaryOp Sub int int" => (k_here; (with_reducible refine g_sub ?_); intro tz9' kz9')
      k_with "my binaryOp BitAnd int int" => (k_here; (with_reducible refine g_and ?_); intro tz9' kz9')
      k_with "my binaryOp BitOr int int" => (k_here; (with_reducible refine g_or ?_); intro tz9' kz9')
      k_with "my inplaceOp Add int int" => (k_here; (with_reducible refine g_iadd ?_); intro tz9' kz9')
      k_with "my inplaceOp Sub int int" => (k_here; (with_reducible refine g_isub ?_); intro tz9' kz9')
      k_with "my binaryOp FloorDiv int int" => (k_here; (with_reducible refine floordiv_int ?zqkb1 ?_ ?zqkb2); (case zqkb1 => first | assumption | (first | lia | omega)); (case zqkb2 => exact .inl ((by assumption : Near _) _)))
      k_with "my call builtin:divmod" => (k_here; k_dflt (refine' my_divmod ?zqF ?zqN ?zqb ?zqp ?_; (case zqF => k_asm); (case zqN => k_asm); (case zqb => first | assumption | (first | lia | omega)); (case zqp => assumption); k_whole; intro D' h' t1' t2' tk' F' N' hlt'; (try k_sweep)))
      k_with "my call builtin:list.append" => (k_here; k_dflt (refine' my_append ?zqF ?zqN ?zqU ?zqz ?_; (case zqF => k_asm); (case zqN => k_asm); (case zqU => k_upd); (case zqz => first | assumption | (first | lia | omega)); k_whole; intro h' F' N'; (try k_sweep)))
      k_with "my call builtin:list.reverse" => (k_here; k_dflt (refine' my_reverse ?zqF ?zqN ?zqU ?zqz ?_; (case zqF => k_asm); (case zqN => k_asm); (case zqU => k_upd); (case zqz => first | assumption | (first | lia | omega)); k_whole; intro h' F' N'; (try k_sweep)))
      k_with "my exec While" => (k_here; k_dflt (refine whl_start 0 (Hold.out ?_)))
      k_with "my CompSrc" => (k_here; k_dflt (refine LCg.CompSrc.range (by rfl) (by k_asm) (by k_asm) (by assumption) (by assumption) (by assumption) (by first | size_fits | (rw [sizeLine_eq]; (first | lia | omega))) ?_; intro g'))
      k_with "my CompRest" => (k_dflt (focus (refine' comp_range ff nn ?_ ?_ <;> first | (intro (i' : Nat) u' ys' I' oI' C' oC' D' m' h' tk' E' K' hi' hC' hx' F' N' off' ne' hK'; have hz1 := (hzz i' hi').1; have hz2 := (hzz i' hi').2; clear ne' off') | (intro wsn hwsn))))
      k_with "my EnEnd" => (refine turn_end (by k_asm) (by assumption) (by intro p9 hp9; (repeat (first | exact hp9 | refine List.Mem.tail _ ?_))) ?_; rw [← hfi i']; exact hK' _)
      k_with "my call builtin:len" => fail
      k_with "my truthy ref" => fail
      k_with "my FinE" => ((unfold LCg.FinE); intro D' h' tk' F' N' o1'; (try simp only [LCg.Off1, and_true] at o1'); (repeat (obtain ⟨o9', o1'⟩ := o1')); (have o8' := off1_mem o1'); (try simp only [List.nil_append, List.cons_append] at N'); (try dsimp only))
      k_with "my subscriptTail Name Constant ref int" => (k_here; k_dflt (refine my_item (by k_asm) (by k_mem) (by decide) (by decide) (by exact rfl) ?_ (by with_unfolding_all rfl) (by intro _; with_unfolding_all rfl)))
      k_with "my subscriptTail Name BinOp ref int" => (k_here; k_dflt (refine my_itemI (by k_asm) (by k_mem) (by assumption) (by (first | lia | omega)) (by (first | lia | omega)) (by (first | lia | omega)) ?_ (by with_unfolding_all rfl) (by intro _; with_unfolding_all rfl); intro t9'))
      k_with "my subscriptTail Name Name ref int" => (k_here; k_dflt (refine my_itemI (by k_asm) (by k_mem) (by assumption) (by (first | lia | omega)) (by (first | lia | omega)) (by (first | lia | omega)) ?_ (by with_unfolding_all rfl) (by intro _; with_unfolding_all rfl); intro t9'))
      k_with "my truthy ref" => (k_here; (with_reducible show wpAny _ _ (truthy (Value.ref _)) _ _ _); k_dflt (refine truthy_nil (by k_asm) (by k_mem) ?_; k_whole; intro tk9))
      (try dsimp only)
      (try k_fold)
      k_steps
      refine hret (.ref lH) ((lH, listOf vh.toArray nh) :: rest) _ _ (by assumption) (kst_newsOf (by assumption) ?sub) ⟨lH, vh, nh, rfl, ?hdd, rfl⟩
      · intro p hp
        rcases List.mem_cons.mp hp with rfl | hp
        · exact .tail _ (.head _)
        · exact .tail _ (.tail _ (.tail _ (.tail _ (.tail _ hp))))
      · rw [hhd]
        show IntsAre vh (hs ++ [])
        rw [List.append_nil]
        exact hvh
    | cons c0 cr =>
      refine ints_cons hvc ?_
      intro t0 vr hvr ec
      subst ec
      have hlc : (cr.length : Int) + 1 + hs.length = 5 := by
        have := hln
        rw [List.length_cons] at this
        (first | lia | omega)
      have hiv2 : IA (vh ++ [Value.int c0 t0]) (hs ++ [c0]) := ints_app hvh (.cons _ _ .nil)
      obtain ⟨G, hG⟩ : ∃ G : Int, ((vh ++ [Value.int c0 t0]).length : Int) = G := ⟨_, rfl⟩
      obtain ⟨M, hM⟩ : ∃ M : Int, ((Value.int c0 t0 :: vr).length : Int) = M := ⟨_, rfl⟩
      have hG2 : G = hs.length + 1 := by
        rw [← hG, IntsAre.length hiv2, List.length_append]
        simp
      have hM2 : M = cr.length + 1 := by
        rw [← hM, List.length_cons, hvr.length]
        (first | lia | omega)
      have hvl : vh.length ≤ 1000000 := by rw [IntsAre.length hvh]; (first | lia | omega)
      clear hvr
      have hvl2 : (Value.int c0 t0 :: vr).length ≤ 1000000 := by (first | lia | omega)
      have hG3 : G < 2 ^ 62 := by (first | lia | omega)
      have hM3 : M < 2 ^ 62 := by (first | lia | omega)
      have hpl2 : (ps.length : Int) = 5 := by (first | lia | omega)
      have hcl2 : ((c0 :: cr).length : Int) = M := by rw [List.length_cons]; (first | lia | omega)
      obtain ⟨nn, hnn⟩ : ∃ nn : Nat, nn = cr.length := ⟨_, rfl⟩
      have hsm : Builtin.Range.small 0 (M - 1) 1 = true := rng_small (by (first | lia | omega)) (by (first | lia | omega))
      have hsz : Builtin.Range.rangeSize 0 (M - 1) 1 = (nn : Int) := rng_size (by (first | lia | omega)) (by (first | lia | omega))
      have hzz : ∀ i : Nat, i < nn → (gAt ps (0 + (i : Int) + G).toNat - gAt ps (0 + (i : Int)).toNat ≠ 0) ∧ Near (gAt ps (0 + (i : Int) + G).toNat - gAt ps (0 + (i : Int)).toNat) := fun i hi => by
        rw [show (0 + (i : Int) + G).toNat = i + (hs.length + 1) by (first | lia | omega), show (0 + (i : Int)).toNat = i by (first | lia | omega)]
        exact hz i (hs.length + 1) (by (first | lia | omega)) (by (first | lia | omega))
      obtain ⟨ff, hff⟩ : ∃ ff : Nat → Int, ff = fun i : Nat => Int.fdiv (gAt (c0 :: cr) (0 + (i : Int) + 1).toNat - gAt (c0 :: cr) (0 + (i : Int)).toNat) (gAt ps (0 + (i : Int) + G).toNat - gAt ps (0 + (i : Int)).toNat) := ⟨_, rfl⟩
      have hfi : ∀ i : Nat, ff i = Int.fdiv (gAt (c0 :: cr) (0 + (i : Int) + 1).toNat - gAt (c0 :: cr) (0 + (i : Int)).toNat) (gAt ps (0 + (i : Int) + G).toNat - gAt ps (0 + (i : Int)).toNat) := fun i => by rw [hff]
      have hq : (List.range nn).map ff = colN ps (c0 :: cr) (hs.length + 1) := by
        unfold colN
        rw [List.length_cons, Nat.add_sub_cancel, ← hnn]
        refine List.map_congr_left fun i hi => ?_
        rw [hfi i, show (0 + (i : Int) + G).toNat = i + (hs.length + 1) by (first | lia | omega), show (0 + (i : Int)).toNat = i by (first | lia | omega), show (0 + (i : Int) + 1).toNat = i + 1 by (first | lia | omega)]
        rfl
      k_with_none
      k_with "my binaryOp RShift int int" => (k_here; (with_reducible refine g_rsh ?zqkb1 ?_); (case zqkb1 => first | assumption | (first | lia | omega)); intro tz9' kz9')
      k_with "my inplaceOp RShift int int" => (k_here; (with_reducible refine g_irsh ?zqkb1 ?_); (case zqkb1 => first | assumption | (first | lia | omega)); intro tz9' kz9')
      k_with "my binaryOp LShift int int" => (k_here; (with_reducible refine g_lsh ?zqkb1 ?zqkb2 ?_); (case zqkb1 => first | assumption | (first | lia | omega)); (case zqkb2 => first | exact shlOk (by assumption) (by (first | lia | omega)) (by first | assumption | (first | lia | omega)) | assumption); intro tz9' kz9')
      k_with "my inplaceOp LShift int int" => (k_here; (with_reducible refine g_ilsh ?zqkb1 ?zqkb2 ?_); (case zqkb1 => first | assumption | (first | lia | omega)); (case zqkb2 => first | exact shlOk (by assumption) (by (first | lia | omega)) (by first | assumption | (first | lia | omega)) | assumption); intro tz9' kz9')
      k_with "my binaryOp Mult int int" => (k_here; (with_reducible refine g_mul ?zqkb1 ?_); (case zqkb1 => assumption); intro tz9' kz9')
      k_with "my inplaceOp Mult int int" => (k_here; (with_reducible refine g_imul ?zqkb1 ?_); (case zqkb1 => assumption); intro tz9' kz9')
      k_with "my binaryOp Add int int" => (k_here; (with_reducible refine g_add ?_); intro tz9' kz9')
      k_with "my binaryOp Sub int int" => (k_here; (with_reducible refine g_sub ?_); intro tz9' kz9')
      k_with "my binaryOp BitAnd int int" => (k_here; (with_reducible refine g_and ?_); intro tz9' kz9')
      k_with "my binaryOp BitOr int int" => (k_here; (with_reducible refine g_or ?_); intro tz9' kz9')
      k_with "my inplaceOp Add int int" => (k_here; (with_reducible refine g_iadd ?_); intro tz9' kz9')
      k_with "my inplaceOp Sub int int" => (k_here; (with_reducible refine g_isub ?_); intro tz9' kz9')
      k_with "my binaryOp FloorDiv int int" => (k_here; (with_reducible refine floordiv_int ?zqkb1 ?_ ?zqkb2); (case zqkb1 => first | assumption | (first | lia | omega)); (case zqkb2 => exact .inl ((by assumption : Near _) _)))
      k_with "my call builtin:divmod" => (k_here; k_dflt (refine' my_divmod ?zqF ?zqN ?zqb ?zqp ?_; (case zqF => k_asm); (case zqN => k_asm); (case zqb => first | assumption | (first | lia | omega)); (case zqp => assumption); k_whole; intro D' h' t1' t2' tk' F' N' hlt'; (try k_sweep)))
      k_with "my call builtin:list.append" => (k_here; k_dflt (refine' my_append ?zqF ?zqN ?zqU ?zqz ?_; (case zqF => k_asm); (case zqN => k_asm); (case zqU => k_upd); (case zqz => first | assumption | (first | lia | omega)); k_whole; intro h' F' N'; (try k_sweep)))
      k_with "my call builtin:list.reverse" => (k_here; k_dflt (refine' my_reverse ?zqF ?zqN ?zqU ?zqz ?_; (case zqF => k_asm); (case zqN => k_asm); (case zqU => k_upd); (case zqz => first | assumption | (first | lia | omega)); k_whole; intro h' F' N'; (try k_sweep)))
      k_with "my exec While" => (k_here; k_dflt (refine whl_start 0 (Hold.out ?_)))
      k_with "my CompSrc" => (k_here; k_dflt (refine LCg.CompSrc.range (by rfl) (by k_asm) (by k_asm) (by assumption) (by assumption) (by assumption) (by first | size_fits | (rw [sizeLine_eq]; (first | lia | omega))) ?_; intro g'))
      k_with "my CompRest" => (k_dflt (focus (refine' comp_range ff nn ?_ ?_ <;> first | (intro (i' : Nat) u' ys' I' oI' C' oC' D' m' h' tk' E' K' hi' hC' hx' F' N' off' ne' hK'; have hz1 := (hzz i' hi').1; have hz2 := (hzz i' hi').2; clear ne' off') | (intro wsn hwsn))))
      k_with "my EnEnd" => (refine turn_end (by k_asm) (by assumption) (by intro p9 hp9; (repeat (first | exact hp9 | refine List.Mem.tail _ ?_))) ?_; rw [← hfi i']; exact hK' _)
      k_with "my call builtin:len" => fail
      k_with "my truthy ref" => fail
      k_with "my FinE" => ((unfold LCg.FinE); intro D' h' tk' F' N' o1'; (try simp only [LCg.Off1, and_true] at o1'); (repeat (obtain ⟨o9', o1'⟩ := o1')); (have o8' := off1_mem o1'); (try simp only [List.nil_append, List.cons_append] at N'); (try dsimp only))
      k_with "my subscriptTail Name Constant ref int" => (k_here; k_dflt (refine my_item (by k_asm) (by k_mem) (by decide) (by decide) (by exact rfl) ?_ (by with_unfolding_all rfl) (by intro _; with_unfolding_all rfl)))
      k_with "my subscriptTail Name BinOp ref int" => (k_here; k_dflt (refine my_itemI (by k_asm) (by k_mem) (by assumption) (by (first | lia | omega)) (by (first | lia | omega)) (by (first | lia | omega)) ?_ (by with_unfolding_all rfl) (by intro _; with_unfolding_all rfl); intro t9'))
      k_with "my subscriptTail Name Name ref int" => (k_here; k_dflt (refine my_itemI (by k_asm) (by k_mem) (by assumption) (by (first | lia | omega)) (by (first | lia | omega)) (by (first | lia | omega)) ?_ (by with_unfolding_all rfl) (by intro _; with_unfolding_all rfl); intro t9'))
      k_with "my truthy ref" => (k_here; (with_reducible show wpAny _ _ (truthy (Value.ref _)) _ _ _); k_dflt (refine truthy_cons (by k_asm) (by k_mem) (by assumption) ?_; k_whole; intro tk9))
      k_with "my call builtin:list.append" => (k_here; k_dflt (refine my_append (by k_asm) (by k_asm) (by k_upd) (by assumption) ?_; k_whole; intro h' F' N'; (try k_sweep)))
      k_with "my call builtin:len" => (k_here; k_dflt (refine my_len (by k_asm) (by k_mem) (by assumption) (by assumption) ?_; k_whole; intro t9 tk9))
      (try dsimp only)
      (try k_fold)
      k_steps
      --END
      unfold WhPost
      have hcn := colN_len ps (c0 :: cr) (hs.length + 1)
      rw [List.length_cons, Nat.add_sub_cancel] at hcn
      refine' wh_end (D', wsn, wsn.length, vh ++ [Value.int c0 t0], nh + 1, _, _, colN ps (c0 :: cr) (hs.length + 1), hs ++ [c0]) ?eF ?eN ?eM ?es ?el ?ep
      case ep =>
        refine ⟨hq ▸ hwsn, hiv2, ?e1, ?e2, (by assumption : Obj.data _ = Data.cell (some (Value.ref D'))), ⟨_, (by assumption : Obj.data _ = Data.cell (some (Value.int G _)))⟩, ?e3, ?e4, ?e5⟩
        case e1 =>
          dsimp only
          rw [hcn, List.length_append]
          have := hln
          rw [List.length_cons] at this
          show cr.length + (hs.length + 1) = 5
          (first | lia | omega)
        case e2 =>
          dsimp only
          rw [hhd, hcn, List.length_append, List.append_assoc]
          rfl
        case e3 => exact Ne.symm (by assumption)
        case e4 => exact Ne.symm (by assumption)
        case e5 => exact Ne.symm (by assumption)
      case eF => assumption
      case eN => assumption
      case eM => exact fun _ => rfl
      case es =>
        intro p hp
        rcases List.mem_cons.mp hp with rfl | hp
        · (repeat' (first | exact List.Mem.head _ | refine List.Mem.tail _ ?_))
        rcases List.mem_cons.mp hp with rfl | hp
        · (repeat' (first | exact List.Mem.head _ | refine List.Mem.tail _ ?_))
        rcases List.mem_cons.mp hp with rfl | hp
        · (repeat' (first | exact List.Mem.head _ | refine List.Mem.tail _ ?_))
        rcases List.mem_cons.mp hp with rfl | hp
        · (repeat' (first | exact List.Mem.head _ | refine List.Mem.tail _ ?_))
        rcases List.mem_cons.mp hp with rfl | hp
        · (repeat' (first | exact List.Mem.head _ | refine List.Mem.tail _ ?_))
        · (repeat (first | exact hp | refine List.Mem.tail _ ?_))
      case el =>
        dsimp only
        rw [hcn, List.length_cons]
        exact Nat.lt_succ_self _
end
end Mine
-- part P1
namespace Mine

/-- what parse229 asks of a reply -/
structure Reply (x mk pt body : Str) (r port : Int) : Prop where
  l : x.length ≤ 40
  s1 : Txt.slice x none (some 3) = Str.ofString "229"
  f1 : Txt.find x (Str.ofString "(") = (7 : Int)
  f2 : Txt.find3 x (Str.ofString ")") (7 + 1) = r
  r0 : 9 ≤ r
  r1 : r < x.length
  i1 : Txt.item x (7 + 1) = mk
  i2 : Txt.item x (r - 1) = mk
  s2 : Txt.slice x (some (7 + 1)) (some r) = body
  bl : body.length ≤ 40
  mk1 : (mk.length == 0) = false
  sp : Txt.split body mk = [Str.ofString "", Str.ofString "", Str.ofString "", pt, Str.ofString ""]
  ip : PySem.intText? pt = some port
  lp : pt.length ≤ 40
theorem d100 (w : World) (x hst mk pt body : Str) (r port : Int) (tx th tp : Tok) (lp : Addr) (np : Nat) (rest : List (Addr × Obj)) (hR : Reply x mk pt body r port) (hl : (lp, listOf #[.str hst th, .int 21 tp] np) ∈ rest) :
    Ctr w 100 [.str x tx, .ref lp] 5 100 rest (fun o led' => ∃ D t0 t1, o = .ref D ∧ led' = (D, pairObj (.str hst t0) (.int port t1)) :: rest) := by
  unfold Ctr; k_fill
  intro dp un gd cn cs a ccd cl outer A₀ base h₀ L m s Q E loose mean mg mb B F X N T C1 C2 hk hd hu hret
  obtain ⟨hp9, gn9, dr9, tk9, os9⟩ := s
  w_on
  w_top on
  k_with_none
  k_with "my binaryOp RShift int int" => (k_here; (with_reducible refine g_rsh ?zqkb1 ?_); (case zqkb1 => first | assumption | (first | lia | omega)); intro tz9' kz9')
  k_with "my inplaceOp RShift int int" => (k_here; (with_reducible refine g_irsh ?zqkb1 ?_); (case zqkb1 => first | assumption | (first | lia | omega)); intro tz9' kz9')
  k_with "my binaryOp LShift int int" => (k_here; (with_reducible refine g_lsh ?zqkb1 ?zqkb2 ?_); (case zqkb1 => first | assumption | (first | lia | omega)); (case zqkb2 => first | exact shlOk (by assumption) (by (first | lia | omega)) (by first | assumption | (first | lia | omega)) | assumption); intro tz9' kz9')
  k_with "my inplaceOp LShift int int" => (k_here; (with_reducible refine g_ilsh ?zqkb1 ?zqkb2 ?_); (case zqkb1 => first | assumption | (first | lia | omega)); (case zqkb2 => first | exact shlOk (by assumption) (by (first | lia | omega)) (by first | assumption | (first | lia | omega)) | assumption); intro tz9' kz9')
  k_with "my binaryOp Mult int int" => (k_here; (with_reducible refine g_mul ?zqkb1 ?_); (case zqkb1 => assumption); intro tz9' kz9')
  k_with "my inplaceOp Mult int int" => (k_here; (with_reducible refine g_imul ?zqkb1 ?_); (case zqkb1 => assumption); intro tz9' kz9')
  k_with "my binaryOp Add int int" => (k_here; (with_reducible refine g_add ?_); intro tz9' kz9')
  k_with "my binaryOp Sub int int" => (k_here; (with_reducible refine g_sub ?_); intro tz9' kz9')
  k_with "my binaryOp BitAnd int int" => (k_here; (with_reducible refine g_and ?_); intro tz9' kz9')
  k_with "my binaryOp BitOr int int" => (k_here; (with_reducible refine g_or ?_); intro tz9' kz9')
  k_with "my inplaceOp Add int int" => (k_here; (with_reducible refine g_iadd ?_); intro tz9' kz9')
  k_with "my inplaceOp Sub int int" => (k_here; (with_reducible refine g_isub ?_); intro tz9' kz9')
  k_with "my binaryOp FloorDiv int int" => (k_here; (with_reducible refine floordiv_int ?zqkb1 ?_ ?zqkb2); (case zqkb1 => first | assumption | (first | lia | omega)); (case zqkb2 => exact .inl ((by assumption : Near _) _)))
  k_with "my call builtin:divmod" => (k_here; k_dflt (refine' my_divmod ?zqF ?zqN ?zqb ?zqp ?_; (case zqF => k_asm); (case zqN => k_asm); (case zqb => first | assumption | (first | lia | omega)); (case zqp => assumption); k_whole; intro D' h' t1' t2' tk' F' N' hlt'; (try k_sweep)))
  k_with "my subscriptTail Name Slice str ref" => (k_here; (with_reducible show wpAny _ _ (subscriptTail _ (PySem.Expr.Slice none (some _) none _) (Value.str _ _) _) _ _ _); k_dflt (refine' tx_ns (s := ⟨_, _, _, _, _⟩) ?zqF ?zqN ?zqe ?zql ?_ ?zqz3 ?zqz4; (case zqF => k_asm); (case zqN => k_asm); (case zqe => assumption); (case zql => (first | lia | omega)); (case zqz3 => with_unfolding_all rfl); (case zqz4 => (intro _; with_unfolding_all rfl)); k_whole; intro h' t' k' F' N'; (try k_sweep)))
  k_with "my subscriptTail Name Slice str ref" => (k_here; (with_reducible show wpAny _ _ (subscriptTail _ (PySem.Expr.Slice (some _) (some _) none _) (Value.str _ _) _) _ _ _); k_dflt (refine' tx_ss (s := ⟨_, _, _, _, _⟩) ?zqF ?zqN ?zqe ?zql ?_ ?zqz3 ?zqz4; (case zqF => k_asm); (case zqN => k_asm); (case zqe => assumption); (case zql => (first | lia | omega)); (case zqz3 => with_unfolding_all rfl); (case zqz4 => (intro _; with_unfolding_all rfl)); k_whole; intro h' t' k' F' N'; (try k_sweep)))
  k_with "my subscriptTail Name BinOp str int" => (k_here; (with_reducible show wpAny _ _ (subscriptTail _ _ (Value.str _ _) (Value.int _ _)) _ _ _); k_dflt (refine' tx_item ?zqz1 ?zqz2 ?zql ?zqe ?_ ?zqz3 ?zqz4; (case zqz1 => (first | lia | omega)); (case zqz2 => (first | lia | omega)); (case zql => (first | lia | omega)); (case zqe => assumption); (case zqz3 => with_unfolding_all rfl); (case zqz4 => (intro _; with_unfolding_all rfl)); k_whole))
  k_with "my subscriptTail Name Constant ref int" => (k_here; (with_reducible show wpAny _ _ (subscriptTail _ _ (Value.ref _) (Value.int _ _)) _ _ _); k_dflt (refine' my_item ?zqzN ?zqzm ?zqz0 ?zqz1 ?zqz2 ?_ ?zqz3 ?zqz4; (case zqzN => k_asm); (case zqzm => first | k_mem | exact .tail _ (by assumption) | assumption); (case zqz0 => decide); (case zqz1 => decide); (case zqz2 => exact rfl); (case zqz3 => with_unfolding_all rfl); (case zqz4 => (intro _; with_unfolding_all rfl))))
  k_with "my call builtin:str.find" => (k_here; k_dflt (refine' tx_find3 ?zqe ?_; (case zqe => assumption); k_whole))
  k_with "my call builtin:str.find" => (k_here; k_dflt (refine' tx_find ?zqe ?_; (case zqe => assumption); k_whole; intro t' k'))
  k_with "my call builtin:str.split" => (k_here; k_dflt (refine' tx_split ?zqF ?zqN ?zqy ?zql ?zqe ?_; (case zqF => k_asm); (case zqN => k_asm); (case zqy => assumption); (case zql => (first | lia | omega)); (case zqe => assumption); k_whole; intro D' t1' t2' t3' t4' t5' h' k' F' N' l1; (try k_lt l1); (try k_sweep)))
  k_with "my call builtin:len" => (k_here; (with_reducible show wpAny _ _ (call (Value.builtin "len") [Value.ref _]) _ _ _); k_dflt (refine' my_len ?zqN ?zqm ?zqk ?zqf ?_; (case zqN => k_asm); (case zqm => k_mem); (case zqk => exact rfl); (case zqf => decide); k_whole; intro _ _))
  k_with "my call type:int" => (k_here; k_dflt (refine' KIN.call_text ?zqe ?zql ?_; (case zqe => assumption); (case zql => (first | lia | omega)); k_whole))
  k_with "ite" => ((with_reducible refine' ite_neg ?fq ?_); (case fq => first | (simp; done) | (simp; (first | lia | omega))))
  refine wpAny_call ?_
  k_dflt cell_enter
  obtain ⟨l, s1, f1, f2, r0, r1, i1, i2, s2, bl, mk1, sp, ip, lp⟩ := hR
  k_steps
  --END
  refine' hret _ _ _ _ (by assumption) (kst_newsOf (by assumption) ?sub) ⟨_, _, _, rfl, rfl⟩
  intro p hp
  rcases List.mem_cons.mp hp with rfl | hp
  · (repeat' (first | exact List.Mem.head _ | refine List.Mem.tail _ ?_))
  · (repeat (first | exact hp | refine List.Mem.tail _ ?_))
end Mine
namespace Mine
noncomputable def markS (k : Nat) : Str := [Str.ofString "|", Str.ofString "!", Str.ofString "*", Str.ofString "~", Str.ofString "/", Str.ofString ":"].getD k (Str.ofString "")
noncomputable def replyS (k : Nat) (p : Int) : Str := Str.ofString "229 at (" ++ Txt.mul (markS k) 3 ++ Str.ofString (toString p) ++ markS k ++ Str.ofString ")"
noncomputable def bodyS (k : Nat) (p : Int) : Str := Txt.mul (markS k) 3 ++ Str.ofString (toString p) ++ markS k
noncomputable def replyOk (k : Nat) (p : Int) : Bool :=
  let x := replyS k p
  let r : Int := x.length - 1
  decide (x.length ≤ 40) && decide (Txt.slice x none (some 3) = Str.ofString "229") && decide (Txt.find x (Str.ofString "(") = (7 : Int)) && decide (Txt.find3 x (Str.ofString ")") (7 + 1) = r) && decide (9 ≤ r) && decide (r < x.length) &&
  decide (Txt.item x (7 + 1) = markS k) && decide (Txt.item x (r - 1) = markS k) && decide (Txt.slice x (some (7 + 1)) (some r) = bodyS k p) && decide ((bodyS k p).length ≤ 40) && decide (((markS k).length == 0) = false) &&
  decide (Txt.split (bodyS k p) (markS k) = [Str.ofString "", Str.ofString "", Str.ofString "", Str.ofString (toString p), Str.ofString ""]) && decide (PySem.intText? (Str.ofString (toString p)) = some p) && decide ((Str.ofString (toString p)).length ≤ 40)
theorem replyOk0 : (List.range 36).all (fun j => replyOk 0 ((j : Int) - 16)) = true := by decide +kernel
theorem replyOk1 : (List.range 36).all (fun j => replyOk 1 ((j : Int) - 16)) = true := by decide +kernel
theorem replyOk2 : (List.range 36).all (fun j => replyOk 2 ((j : Int) - 16)) = true := by decide +kernel
theorem replyOk3 : (List.range 36).all (fun j => replyOk 3 ((j : Int) - 16)) = true := by decide +kernel
theorem replyOk4 : (List.range 36).all (fun j => replyOk 4 ((j : Int) - 16)) = true := by decide +kernel
theorem replyOk5 : (List.range 36).all (fun j => replyOk 5 ((j : Int) - 16)) = true := by decide +kernel
theorem replyOk_all : ∀ k, k < 6 → (List.range 36).all (fun j => replyOk k ((j : Int) - 16)) = true
  | 0, _ => replyOk0
  | 1, _ => replyOk1
  | 2, _ => replyOk2
  | 3, _ => replyOk3
  | 4, _ => replyOk4
  | 5, _ => replyOk5
  | n + 6, h => absurd h (by omega)
theorem reply_of {k : Nat} {p : Int} (hk : k < 6) (h0 : -16 ≤ p) (h1 : p < 20) : Reply (replyS k p) (markS k) (Str.ofString (toString p)) (bodyS k p) ((replyS k p).length - 1) p := by
  have h := replyOk_all k hk
  rw [List.all_eq_true] at h
  have h := h (p + 16).toNat (List.mem_range.mpr (by (first | lia | omega)))
  rw [show (((p + 16).toNat : Nat) : Int) - 16 = p by (first | lia | omega)] at h
  simp only [replyOk, Bool.and_eq_true, decide_eq_true_eq] at h
  obtain ⟨⟨⟨⟨⟨⟨⟨⟨⟨⟨⟨⟨⟨a1, a2⟩, a3⟩, a4⟩, a5⟩, a6⟩, a7⟩, a8⟩, a9⟩, a10⟩, a11⟩, a12⟩, a13⟩, a14⟩ := h
  exact ⟨a1, a2, a3, a4, a5, a6, a7, a8, a9, a10, a11, a12, a13, a14⟩
end Mine
-- part P3
namespace Mine

theorem hm3s {y1 y2 y3 : Str} {m₀ : Str → Option Value} {a1 : Option Value} {a2 a3 : Value} (h1 : m₀ y1 = a1) (h2 : m₀ y2 = some a2) (h3 : m₀ y3 = some a3) :
    ∀ z, m₀ z = (if z = y1 then a1 else if z = y2 then some a2 else if z = y3 then some a3 else m₀ z) := by
  intro z
  by_cases e1 : z = y1
  · rw [if_pos e1, e1, h1]
  by_cases e2 : z = y2
  · rw [if_neg e1, if_pos e2, e2, h2]
  by_cases e3 : z = y3
  · rw [if_neg e1, if_neg e2, if_pos e3, e3, h3]
  · rw [if_neg e1, if_neg e2, if_neg e3]
theorem wh_end3s {h₀ : Heap} {L : Addr} {y1 y2 y3 : Str} {rest news' : List (Addr × Obj)} {P : (Option Value × List Nat × Int × Tok × Tok) → Prop} {μ : (Option Value × List Nat × Int × Tok × Tok) → Nat} {c₁ : Option Value × List Nat × Int × Tok × Tok} {s₁ : Shared} {h' : Heap} {tk' : Nat} {m₀ m' : Str → Option Value} {g : List Nat} {v : Int} {t2 t3 : Tok}
    (F : Fr h₀ L h' m') (N : News h₀ L h' news') (h2 : m' y2 = some (.str ⟨g.toArray⟩ t2)) (h3 : m' y3 = some (.int v t3)) (hr : ∀ z, z ≠ y1 → z ≠ y2 → z ≠ y3 → m' z = m₀ z) (hs : ∀ p ∈ rest, p ∈ news') (hlt : ∀ a, μ (a, g, v, t2, t3) < μ c₁) (hp : ∀ a, P (a, g, v, t2, t3)) :
    WhEnd h₀ L (fun _ => rest) (fun c z => if z = y1 then c.1 else if z = y2 then some (.str ⟨c.2.1.toArray⟩ c.2.2.2.1) else if z = y3 then some (.int c.2.2.1 c.2.2.2.2) else m₀ z) P μ c₁ s₁ { s₁ with heap := h', toks := tk' } := by
  refine wh_end (m' y1, g, v, t2, t3) F N (fun z => ?_) hs (hlt _) (hp _)
  dsimp only
  by_cases e1 : z = y1
  · rw [if_pos e1, e1]
  by_cases e2 : z = y2
  · rw [if_neg e1, if_pos e2, e2, h2]
  by_cases e3 : z = y3
  · rw [if_neg e1, if_neg e2, if_pos e3, e3, h3]
  · rw [if_neg e1, if_neg e2, if_neg e3, hr z e1 e2 e3]
theorem chr_ne {ch : Nat} (h : ch ≠ 34) : ¬ ((⟨#[ch]⟩ : Str) == Str.ofString "\"") = true := by
  have e : Str.ofString "\"" = ⟨#[34]⟩ := by decide +kernel
  rw [e, beq_iff_eq]
  intro q
  injection q with q
  injection q with q
  injection q with q
  exact h q
theorem dbl_len (f : List Nat) : f.length ≤ (StrLaws.dbl 34 f).length := by
  induction f with
  | nil => exact Nat.le_refl _
  | cons k r ih =>
    unfold StrLaws.dbl
    split <;> simp only [List.length_cons] <;> (first | lia | omega)
theorem q34 (f : List Nat) : (⟨f.toArray⟩ : Str) ++ Str.ofString "\"" = ⟨(f ++ [34]).toArray⟩ := by
  rw [show Str.ofString "\"" = ⟨#[34]⟩ by decide +kernel]
  exact str_snoc f 34
theorem d107 (w : World) (x : Str) (pre f tl : List Nat) (tx : Tok) (rest : List (Addr × Obj)) (hx : x.cps.toList = pre ++ (StrLaws.dbl 34 f ++ 34 :: 32 :: tl)) (hp5 : pre.length = 5) (hxl : x.length ≤ 1000)
    (s1 : Txt.slice x none (some 3) = Str.ofString "257") (s2 : Txt.slice x (some 3) (some 5) = Str.ofString " \"") :
    Ctr w 107 [.str x tx] 5 100 rest (fun o led' => ∃ t, o = .str ⟨f.toArray⟩ t ∧ led' = rest) := by
  unfold Ctr; k_fill
  intro dp un gd cn cs a ccd cl outer A₀ base h₀ L m s Q E loose mean mg mb B F X N T C1 C2 hk hd hu hret
  obtain ⟨hp9, gn9, dr9, tk9, os9⟩ := s
  w_on
  w_top on
  k_with_none
  k_with "my binaryOp RShift int int" => (k_here; (with_reducible refine g_rsh ?zqkb1 ?_); (case zqkb1 => first | assumption | (first | lia | omega)); intro tz9' kz9')
  k_with "my inplaceOp RShift int int" => (k_here; (with_reducible refine g_irsh ?zqkb1 ?_); (case zqkb1 => first | assumption | (first | lia | omega)); intro tz9' kz9')
  k_with "my binaryOp LShift int int" => (k_here; (with_reducible refine g_lsh ?zqkb1 ?zqkb2 ?_); (case zqkb1 => first | assumption | (first | lia | omega)); (case zqkb2 => first | exact shlOk (by assumption) (by (first | lia | omega)) (by first | assumption | (first | lia | omega)) | assumption); intro tz9' kz9')
  k_with "my inplaceOp LShift int int" => (k_here; (with_reducible refine g_ilsh ?zqkb1 ?zqkb2 ?_); (case zqkb1 => first | assumption | (first | lia | omega)); (case zqkb2 => first | exact shlOk (by assumption) (by (first | lia | omega)) (by first | assumption | (first | lia | omega)) | assumption); intro tz9' kz9')
  k_with "my binaryOp Mult int int" => (k_here; (with_reducible refine g_mul ?zqkb1 ?_); (case zqkb1 => assumption); intro tz9' kz9')
  k_with "my inplaceOp Mult int int" => (k_here; (with_reducible refine g_imul ?zqkb1 ?_); (case zqkb1 => assumption); intro tz9' kz9')
  k_with "my binaryOp Add int int" => (k_here; (with_reducible refine g_add ?_); intro tz9' kz9')
  k_with "my binaryOp Sub int int" => (k_here; (with_reducible refine g_sub ?_); intro tz9' kz9')
  k_with "my binaryOp BitAnd int int" => (k_here; (with_reducible refine g_and ?_); intro tz9' kz9')
  k_with "my binaryOp BitOr int int" => (k_here; (with_reducible refine g_or ?_); intro tz9' kz9')
  k_with "my inplaceOp Add int int" => (k_here; (with_reducible refine g_iadd ?_); intro tz9' kz9')
  k_with "my inplaceOp Sub int int" => (k_here; (with_reducible refine g_isub ?_); intro tz9' kz9')
  k_with "my binaryOp FloorDiv int int" => (k_here; (with_reducible refine floordiv_int ?zqkb1 ?_ ?zqkb2); (case zqkb1 => first | assumption | (first | lia | omega)); (case zqkb2 => exact .inl ((by assumption : Near _) _)))
  k_with "my call builtin:divmod" => (k_here; k_dflt (refine' my_divmod ?zqF ?zqN ?zqb ?zqp ?_; (case zqF => k_asm); (case zqN => k_asm); (case zqb => first | assumption | (first | lia | omega)); (case zqp => assumption); k_whole; intro D' h' t1' t2' tk' F' N' hlt'; (try k_sweep)))
  k_with "my subscriptTail Name Slice str ref" => (k_here; (with_reducible show wpAny _ _ (subscriptTail _ (PySem.Expr.Slice none (some _) none _) (Value.str _ _) _) _ _ _); k_dflt (refine' tx_ns (s := ⟨_, _, _, _, _⟩) ?zqF ?zqN ?zqe ?zql ?_ ?zqz3 ?zqz4; (case zqF => k_asm); (case zqN => k_asm); (case zqe => assumption); (case zql => (first | lia | omega)); (case zqz3 => with_unfolding_all rfl); (case zqz4 => (intro _; with_unfolding_all rfl)); k_whole; intro h' t' k' F' N'; (try k_sweep)))
  k_with "my subscriptTail Name Slice str ref" => (k_here; (with_reducible show wpAny _ _ (subscriptTail _ (PySem.Expr.Slice (some _) (some _) none _) (Value.str _ _) _) _ _ _); k_dflt (refine' tx_ss (s := ⟨_, _, _, _, _⟩) ?zqF ?zqN ?zqe ?zql ?_ ?zqz3 ?zqz4; (case zqF => k_asm); (case zqN => k_asm); (case zqe => assumption); (case zql => (first | lia | omega)); (case zqz3 => with_unfolding_all rfl); (case zqz4 => (intro _; with_unfolding_all rfl)); k_whole; intro h' t' k' F' N'; (try k_sweep)))
  k_with "my subscriptTail Name Name str int" => (k_here; (with_reducible show wpAny _ _ (subscriptTail _ _ (Value.str _ _) (Value.int _ _)) _ _ _); k_dflt (refine' tx_item ?zqz1 ?zqz2 ?zql ?zqe ?_ ?zqz3 ?zqz4; (case zqz1 => (first | lia | omega)); (case zqz2 => (first | lia | omega)); (case zql => (first | lia | omega)); (case zqe => assumption); (case zqz3 => with_unfolding_all rfl); (case zqz4 => (intro _; with_unfolding_all rfl)); k_whole))
  k_with "my exec While Compare" => (k_here; k_dflt (refine whl_start 0 (Hold.out ?_)))
  k_with "my binaryOp Add str str" => (k_here; k_dflt (refine' tx_cat ?zql ?zqe ?_; (case zql => (first | assumption | (simp only [str_len]; (first | lia | omega)))); (case zqe => first | exact q34 _ | exact str_snoc _ _); k_whole; intro _ _))
  k_with "ite" => ((with_reducible refine' ite_neg ?fq ?_); (case fq => first | (simp; done) | (simp; (first | lia | omega))))
  refine wpAny_call ?_
  k_dflt cell_enter
  k_steps
  refine Hold.mk ?_
  have hxL : x.length = 5 + ((StrLaws.dbl 34 f).length + (tl.length + 2)) := by
    show x.cps.size = _
    rw [← Array.length_toList, hx, List.length_append, List.length_append, List.length_cons, List.length_cons, hp5]
  refine' wh_loop (σ := Option Value × List Nat × Int × Tok × Tok) (fun _ => rest) (fun m0 c z => if z = Str.ofString "c" then c.1 else if z = Str.ofString "dirname" then some (.str ⟨c.2.1.toArray⟩ c.2.2.2.1) else if z = Str.ofString "i" then some (.int c.2.2.1 c.2.2.2.2) else m0 z)
    (fun c => c.2.2.1 = 5 + (StrLaws.dbl 34 c.2.1).length ∧ ∃ f2, f = c.2.1 ++ f2) (fun c => f.length - c.2.1.length) (none, [], 5, _, _) ?hE ?F ?hM ?N ?hp ?turn
  case hE => first | passes_own | with_unfolding_all passes_own
  case F => k_asm
  case N => k_asm
  case hM =>
    refine hm3s ?c1 ?c2 ?c3
    case c1 => rfl
    case c2 => rfl
    case c3 => first | rfl | with_unfolding_all rfl | (dsimp only; rfl) | (rw [if_neg (by decide), if_pos rfl])
  case hp => exact ⟨rfl, f, rfl⟩
  case turn =>
    intro c h tk hpp F9 N9
    obtain ⟨u1, f1, i, td, ti⟩ := c
    obtain ⟨hi, f2, hf⟩ := hpp
    dsimp only at hi hf F9 N9
    subst hf
    rw [StrLaws.dbl_append] at hx hxL
    rw [List.length_append] at hxL
    cases f2 with
    | nil =>
      simp only [StrLaws.dbl, List.append_nil, List.length_append, List.length_nil] at hx hxL
      obtain ⟨ia, ib, ic⟩ := item_at (a := pre ++ StrLaws.dbl 34 f1) (c := 34) (b := 32 :: tl) (i := i) (by rw [hx, List.append_assoc]) (by rw [List.length_append]; (first | lia | omega))
      obtain ⟨ja, jb, jc⟩ := item_at (a := pre ++ StrLaws.dbl 34 f1 ++ [34]) (c := 32) (b := tl) (i := i + 1) (by rw [hx]; simp) (by rw [List.length_append, List.length_append, List.length_cons, List.length_nil]; (first | lia | omega))
      k_with_none
      k_with "my binaryOp RShift int int" => (k_here; (with_reducible refine g_rsh ?zqkb1 ?_); (case zqkb1 => first | assumption | (first | lia | omega)); intro tz9' kz9')
      k_with "my inplaceOp RShift int int" => (k_here; (with_reducible refine g_irsh ?zqkb1 ?_); (case zqkb1 => first | assumption | (first | lia | omega)); intro tz9' kz9')
      k_with "my binaryOp LShift int int" => (k_here; (with_reducible refine g_lsh ?zqkb1 ?zqkb2 ?_); (case zqkb1 => first | assumption | (first | lia | omega)); (case zqkb2 => first | exact shlOk (by assumption) (by (first | lia | omega)) (by first | assumption | (first | lia | omega)) | assumption); intro tz9' kz9')
      k_with "my inplaceOp LShift int int" => (k_here; (with_reducible refine g_ilsh ?zqkb1 ?zqkb2 ?_); (case zqkb1 => first | assumption | (first | lia | omega)); (case zqkb2 => first | exact shlOk (by assumption) (by (first | lia | omega)) (by first | assumption | (first | lia | omega)) | assumption); intro tz9' kz9')
      k_with "my binaryOp Mult int int" => (k_here; (with_reducible refine g_mul ?zqkb1 ?_); (case zqkb1 => assumption); intro tz9' kz9')
      k_with "my inplaceOp Mult int int" => (k_here; (with_reducible refine g_imul ?zqkb1 ?_); (case zqkb1 => assumption); intro tz9' kz9')
      k_with "my binaryOp Add int int" => (k_here; (with_reducible refine g_add ?_); intro tz9' kz9')
      k_with "my binaryOp Sub int int" => (k_here; (with_reducible refine g_sub ?_); intro tz9' kz9')
      k_with "my binaryOp BitAnd int int" => (k_here; (with_reducible refine g_and ?_); intro tz9' kz9')
      k_with "my binaryOp BitOr int int" => (k_here; (with_reducible refine g_or ?_); intro tz9' kz9')
      k_with "my inplaceOp Add int int" => (k_here; (with_reducible refine g_iadd ?_); intro tz9' kz9')
      k_with "my inplaceOp Sub int int" => (k_here; (with_reducible refine g_isub ?_); intro tz9' kz9')
      k_with "my binaryOp FloorDiv int int" => (k_here; (with_reducible refine floordiv_int ?zqkb1 ?_ ?zqkb2); (case zqkb1 => first | assumption | (first | lia | omega)); (case zqkb2 => exact .inl ((by assumption : Near _) _)))
      k_with "my call builtin:divmod" => (k_here; k_dflt (refine' my_divmod ?zqF ?zqN ?zqb ?zqp ?_; (case zqF => k_asm); (case zqN => k_asm); (case zqb => first | assumption | (first | lia | omega)); (case zqp => assumption); k_whole; intro D' h' t1' t2' tk' F' N' hlt'; (try k_sweep)))
      k_with "my subscriptTail Name Slice str ref" => (k_here; (with_reducible show wpAny _ _ (subscriptTail _ (PySem.Expr.Slice none (some _) none _) (Value.str _ _) _) _ _ _); k_dflt (refine' tx_ns (s := ⟨_, _, _, _, _⟩) ?zqF ?zqN ?zqe ?zql ?_ ?zqz3 ?zqz4; (case zqF => k_asm); (case zqN => k_asm); (case zqe => assumption); (case zql => (first | lia | omega)); (case zqz3 => with_unfolding_all rfl); (case zqz4 => (intro _; with_unfolding_all rfl)); k_whole; intro h' t' k' F' N'; (try k_sweep)))
      k_with "my subscriptTail Name Slice str ref" => (k_here; (with_reducible show wpAny _ _ (subscriptTail _ (PySem.Expr.Slice (some _) (some _) none _) (Value.str _ _) _) _ _ _); k_dflt (refine' tx_ss (s := ⟨_, _, _, _, _⟩) ?zqF ?zqN ?zqe ?zql ?_ ?zqz3 ?zqz4; (case zqF => k_asm); (case zqN => k_asm); (case zqe => assumption); (case zql => (first | lia | omega)); (case zqz3 => with_unfolding_all rfl); (case zqz4 => (intro _; with_unfolding_all rfl)); k_whole; intro h' t' k' F' N'; (try k_sweep)))
      k_with "my subscriptTail Name Name str int" => (k_here; (with_reducible show wpAny _ _ (subscriptTail _ _ (Value.str _ _) (Value.int _ _)) _ _ _); k_dflt (refine' tx_item ?zqz1 ?zqz2 ?zql ?zqe ?_ ?zqz3 ?zqz4; (case zqz1 => (first | lia | omega)); (case zqz2 => (first | lia | omega)); (case zql => (first | lia | omega)); (case zqe => assumption); (case zqz3 => with_unfolding_all rfl); (case zqz4 => (intro _; with_unfolding_all rfl)); k_whole))
      k_with "my exec While Compare" => (k_here; k_dflt (refine whl_start 0 (Hold.out ?_)))
      k_with "my binaryOp Add str str" => (k_here; k_dflt (refine' tx_cat ?zql ?zqe ?_; (case zql => (first | assumption | (simp only [str_len]; (first | lia | omega)))); (case zqe => first | exact q34 _ | exact str_snoc _ _); k_whole; intro _ _))
      k_with "WhlIf" => (refine WhlIf.yes (decide_eq_true (by assumption)) ?_)
      (try dsimp only)
      (try k_fold)
      k_steps
      unfold WhPost
      dsimp only
      k_steps
      exact hret _ _ _ _ (by assumption) (by assumption) ⟨_, by rw [List.append_nil], rfl⟩
    | cons ch f2 =>
      have hlast : (f1 ++ [ch]) ++ f2 = f1 ++ ch :: f2 := by simp
      have hcat : (⟨f1.toArray⟩ : Str).length + (Str.ofString "\"").length ≤ 100000 := by
        rw [show (Str.ofString "\"").length = 1 by decide +kernel, str_len]
        have := dbl_len f1
        (first | lia | omega)
      have hcat2 : (⟨f1.toArray⟩ : Str).length + (⟨#[ch]⟩ : Str).length ≤ 100000 := by
        rw [show (⟨#[ch]⟩ : Str).length = 1 from rfl, str_len]
        have := dbl_len f1
        (first | lia | omega)
      have hsub : f1.length < (f1 ++ ch :: f2).length := by simp
      by_cases hc : ch = 34
      · subst hc
        simp only [StrLaws.dbl, if_true, List.length_append, List.length_cons] at hx hxL
        obtain ⟨ia, ib, ic⟩ := item_at (a := pre ++ StrLaws.dbl 34 f1) (c := 34) (b := 34 :: (StrLaws.dbl 34 f2 ++ 34 :: 32 :: tl)) (i := i) (by rw [hx]; simp) (by rw [List.length_append]; (first | lia | omega))
        obtain ⟨ja, jb, jc⟩ := item_at (a := pre ++ StrLaws.dbl 34 f1 ++ [34]) (c := 34) (b := (StrLaws.dbl 34 f2 ++ 34 :: 32 :: tl)) (i := i + 1) (by rw [hx]; simp) (by rw [List.length_append, List.length_append, List.length_cons, List.length_nil]; (first | lia | omega))
        k_with_none
        k_with "my binaryOp RShift int int" => (k_here; (with_reducible refine g_rsh ?zqkb1 ?_); (case zqkb1 => first | assumption | (first | lia | omega)); intro tz9' kz9')
        k_with "my inplaceOp RShift int int" => (k_here; (with_reducible refine g_irsh ?zqkb1 ?_); (case zqkb1 => first | assumption | (first | lia | omega)); intro tz9' kz9')
        k_with "my binaryOp LShift int int" => (k_here; (with_reducible refine g_lsh ?zqkb1 ?zqkb2 ?_); (case zqkb1 => first | assumption | (first | lia | omega)); (case zqkb2 => first | exact shlOk (by assumption) (by (first | lia | omega)) (by first | assumption | (first | lia | omega)) | assumption); intro tz9' kz9')
        k_with "my inplaceOp LShift int int" => (k_here; (with_reducible refine g_ilsh ?zqkb1 ?zqkb2 ?_); (case zqkb1 => first | assumption | (first | lia | omega)); (case zqkb2 => first | exact shlOk (by assumption) (by (first | lia | omega)) (by first | assumption | (first | lia | omega)) | assumption); intro tz9' kz9')
        k_with "my binaryOp Mult int int" => (k_here; (with_reducible refine g_mul ?zqkb1 ?_); (case zqkb1 => assumption); intro tz9' kz9')
        k_with "my inplaceOp Mult int int" => (k_here; (with_reducible refine g_imul ?zqkb1 ?_); (case zqkb1 => assumption); intro tz9' kz9')
        k_with "my binaryOp Add int int" => (k_here; (with_reducible refine g_add ?_); intro tz9' kz9')
        k_with "my binaryOp Sub int int" => (k_here; (with_reducible refine g_sub ?_); intro tz9' kz9')
        k_with "my binaryOp BitAnd int int" => (k_here; (with_reducible refine g_and ?_); intro tz9' kz9')
        k_with "my binaryOp BitOr int int" => (k_here; (with_reducible refine g_or ?_); intro tz9' kz9')
        k_with "my inplaceOp Add int int" => (k_here; (with_reducible refine g_iadd ?_); intro tz9' kz9')
        k_with "my inplaceOp Sub int int" => (k_here; (with_reducible refine g_isub ?_); intro tz9' kz9')
        k_with "my binaryOp FloorDiv int int" => (k_here; (with_reducible refine floordiv_int ?zqkb1 ?_ ?zqkb2); (case zqkb1 => first | assumption | (first | lia | omega)); (case zqkb2 => exact .inl ((by assumption : Near _) _)))
        k_with "my call builtin:divmod" => (k_here; k_dflt (refine' my_divmod ?zqF ?zqN ?zqb ?zqp ?_; (case zqF => k_asm); (case zqN => k_asm); (case zqb => first | assumption | (first | lia | omega)); (case zqp => assumption); k_whole; intro D' h' t1' t2' tk' F' N' hlt'; (try k_sweep)))
        k_with "my subscriptTail Name Slice str ref" => (k_here; (with_reducible show wpAny _ _ (subscriptTail _ (PySem.Expr.Slice none (some _) none _) (Value.str _ _) _) _ _ _); k_dflt (refine' tx_ns (s := ⟨_, _, _, _, _⟩) ?zqF ?zqN ?zqe ?zql ?_ ?zqz3 ?zqz4; (case zqF => k_asm); (case zqN => k_asm); (case zqe => assumption); (case zql => (first | lia | omega)); (case zqz3 => with_unfolding_all rfl); (case zqz4 => (intro _; with_unfolding_all rfl)); k_whole; intro h' t' k' F' N'; (try k_sweep)))
        k_with "my subscriptTail Name Slice str ref" => (k_here; (with_reducible show wpAny _ _ (subscriptTail _ (PySem.Expr.Slice (some _) (some _) none _) (Value.str _ _) _) _ _ _); k_dflt (refine' tx_ss (s := ⟨_, _, _, _, _⟩) ?zqF ?zqN ?zqe ?zql ?_ ?zqz3 ?zqz4; (case zqF => k_asm); (case zqN => k_asm); (case zqe => assumption); (case zql => (first | lia | omega)); (case zqz3 => with_unfolding_all rfl); (case zqz4 => (intro _; with_unfolding_all rfl)); k_whole; intro h' t' k' F' N'; (try k_sweep)))
        k_with "my subscriptTail Name Name str int" => (k_here; (with_reducible show wpAny _ _ (subscriptTail _ _ (Value.str _ _) (Value.int _ _)) _ _ _); k_dflt (refine' tx_item ?zqz1 ?zqz2 ?zql ?zqe ?_ ?zqz3 ?zqz4; (case zqz1 => (first | lia | omega)); (case zqz2 => (first | lia | omega)); (case zql => (first | lia | omega)); (case zqe => assumption); (case zqz3 => with_unfolding_all rfl); (case zqz4 => (intro _; with_unfolding_all rfl)); k_whole))
        k_with "my exec While Compare" => (k_here; k_dflt (refine whl_start 0 (Hold.out ?_)))
        k_with "my binaryOp Add str str" => (k_here; k_dflt (refine' tx_cat ?zql ?zqe ?_; (case zql => (first | assumption | (simp only [str_len]; (first | lia | omega)))); (case zqe => first | exact q34 _ | exact str_snoc _ _); k_whole; intro _ _))
        k_with "WhlIf" => (refine WhlIf.yes (decide_eq_true (by assumption)) ?_)
        k_with "ite" => ((with_reducible refine' ite_neg ?fq ?_); (case fq => first | (simp; done) | (simp; (first | lia | omega))))
        (try dsimp only)
        (try k_fold)
        k_steps
        unfold WhPost
        refine' wh_end3s ?eF ?eN ?e2 ?e3 ?er ?es ?el ?ep
        case eF => assumption
        case eN => assumption
        case e2 => exact rfl
        case e3 => exact rfl
        case er => (intro z a b c; simp only [a, b, c, if_false])
        case es => exact fun p hp => hp
        case el => (intro a; simp; (first | lia | omega))
        case ep =>
          intro a
          refine ⟨?_, f2, hlast.symm⟩
          simp only [StrLaws.dbl_append, StrLaws.dbl, if_true, List.length_append, List.length_cons, List.length_nil]
          (first | lia | omega)
      · simp only [StrLaws.dbl, if_neg hc, List.length_append, List.length_cons] at hx hxL
        obtain ⟨ia, ib, ic⟩ := item_at (a := pre ++ StrLaws.dbl 34 f1) (c := ch) (b := StrLaws.dbl 34 f2 ++ 34 :: 32 :: tl) (i := i) (by rw [hx]; simp) (by rw [List.length_append]; (first | lia | omega))
        have hne := chr_ne hc
        k_with_none
        k_with "my binaryOp RShift int int" => (k_here; (with_reducible refine g_rsh ?zqkb1 ?_); (case zqkb1 => first | assumption | (first | lia | omega)); intro tz9' kz9')
        k_with "my inplaceOp RShift int int" => (k_here; (with_reducible refine g_irsh ?zqkb1 ?_); (case zqkb1 => first | assumption | (first | lia | omega)); intro tz9' kz9')
        k_with "my binaryOp LShift int int" => (k_here; (with_reducible refine g_lsh ?zqkb1 ?zqkb2 ?_); (case zqkb1 => first | assumption | (first | lia | omega)); (case zqkb2 => first | exact shlOk (by assumption) (by (first | lia | omega)) (by first | assumption | (first | lia | omega)) | assumption); intro tz9' kz9')
        k_with "my inplaceOp LShift int int" => (k_here; (with_reducible refine g_ilsh ?zqkb1 ?zqkb2 ?_); (case zqkb1 => first | assumption | (first | lia | omega)); (case zqkb2 => first | exact shlOk (by assumption) (by (first | lia | omega)) (by first | assumption | (first | lia | omega)) | assumption); intro tz9' kz9')
        k_with "my binaryOp Mult int int" => (k_here; (with_reducible refine g_mul ?zqkb1 ?_); (case zqkb1 => assumption); intro tz9' kz9')
        k_with "my inplaceOp Mult int int" => (k_here; (with_reducible refine g_imul ?zqkb1 ?_); (case zqkb1 => assumption); intro tz9' kz9')
        k_with "my binaryOp Add int int" => (k_here; (with_reducible refine g_add ?_); intro tz9' kz9')
        k_with "my binaryOp Sub int int" => (k_here; (with_reducible refine g_sub ?_); intro tz9' kz9')
        k_with "my binaryOp BitAnd int int" => (k_here; (with_reducible refine g_and ?_); intro tz9' kz9')
        k_with "my binaryOp BitOr int int" => (k_here; (with_reducible refine g_or ?_); intro tz9' kz9')
        k_with "my inplaceOp Add int int" => (k_here; (with_reducible refine g_iadd ?_); intro tz9' kz9')
        k_with "my inplaceOp Sub int int" => (k_here; (with_reducible refine g_isub ?_); intro tz9' kz9')
        k_with "my binaryOp FloorDiv int int" => (k_here; (with_reducible refine floordiv_int ?zqkb1 ?_ ?zqkb2); (case zqkb1 => first | assumption | (first | lia | omega)); (case zqkb2 => exact .inl ((by assumption : Near _) _)))
        k_with "my call builtin:divmod" => (k_here; k_dflt (refine' my_divmod ?zqF ?zqN ?zqb ?zqp ?_; (case zqF => k_asm); (case zqN => k_asm); (case zqb => first | assumption | (first | lia | omega)); (case zqp => assumption); k_whole; intro D' h' t1' t2' tk' F' N' hlt'; (try k_sweep)))
        k_with "my subscriptTail Name Slice str ref" => (k_here; (with_reducible show wpAny _ _ (subscriptTail _ (PySem.Expr.Slice none (some _) none _) (Value.str _ _) _) _ _ _); k_dflt (refine' tx_ns (s := ⟨_, _, _, _, _⟩) ?zqF ?zqN ?zqe ?zql ?_ ?zqz3 ?zqz4; (case zqF => k_asm); (case zqN => k_asm); (case zqe => assumption); (case zql => (first | lia | omega)); (case zqz3 => with_unfolding_all rfl); (case zqz4 => (intro _; with_unfolding_all rfl)); k_whole; intro h' t' k' F' N'; (try k_sweep)))
        k_with "my subscriptTail Name Slice str ref" => (k_here; (with_reducible show wpAny _ _ (subscriptTail _ (PySem.Expr.Slice (some _) (some _) none _) (Value.str _ _) _) _ _ _); k_dflt (refine' tx_ss (s := ⟨_, _, _, _, _⟩) ?zqF ?zqN ?zqe ?zql ?_ ?zqz3 ?zqz4; (case zqF => k_asm); (case zqN => k_asm); (case zqe => assumption); (case zql => (first | lia | omega)); (case zqz3 => with_unfolding_all rfl); (case zqz4 => (intro _; with_unfolding_all rfl)); k_whole; intro h' t' k' F' N'; (try k_sweep)))
        k_with "my subscriptTail Name Name str int" => (k_here; (with_reducible show wpAny _ _ (subscriptTail _ _ (Value.str _ _) (Value.int _ _)) _ _ _); k_dflt (refine' tx_item ?zqz1 ?zqz2 ?zql ?zqe ?_ ?zqz3 ?zqz4; (case zqz1 => (first | lia | omega)); (case zqz2 => (first | lia | omega)); (case zql => (first | lia | omega)); (case zqe => assumption); (case zqz3 => with_unfolding_all rfl); (case zqz4 => (intro _; with_unfolding_all rfl)); k_whole))
        k_with "my exec While Compare" => (k_here; k_dflt (refine whl_start 0 (Hold.out ?_)))
        k_with "my binaryOp Add str str" => (k_here; k_dflt (refine' tx_cat ?zql ?zqe ?_; (case zql => (first | assumption | (simp only [str_len]; (first | lia | omega)))); (case zqe => first | exact q34 _ | exact str_snoc _ _); k_whole; intro _ _))
        k_with "WhlIf" => (refine WhlIf.yes (decide_eq_true (by assumption)) ?_)
        k_with "ite" => ((with_reducible refine' ite_neg ?fq ?_); (case fq => first | exact hne | (simp; done) | (simp; (first | lia | omega))))
        (try dsimp only)
        (try k_fold)
        k_steps
        --END
        unfold WhPost
        refine' wh_end3s ?eF ?eN ?e2 ?e3 ?er ?es ?el ?ep
        case eF => assumption
        case eN => assumption
        case e2 => exact rfl
        case e3 => exact rfl
        case er => (intro z a b c; simp only [a, b, c, if_false])
        case es => exact fun p hp => hp
        case el => (intro a; simp; (first | lia | omega))
        case ep =>
          intro a
          refine ⟨?_, f2, hlast.symm⟩
          simp only [StrLaws.dbl_append, StrLaws.dbl, if_neg hc, List.length_append, List.length_cons, List.length_nil]
          (first | lia | omega)
end Mine
-- part SY
namespace Mine
/-- the table's keys, each with its token, its number and the number's token -/
noncomputable def tbl : List (Str × Nat × Int × Nat) := [(Str.ofString "!", 447, 54, 443), (Str.ofString "!=", 449, 28, 391), (Str.ofString "%", 451, 24, 383), (Str.ofString "%=", 453, 40, 415), (Str.ofString "&", 455, 19, 373), (Str.ofString "&=", 457, 41, 417), (Str.ofString "(", 459, 7, 349), (Str.ofString ")", 461, 8, 351), (Str.ofString "*", 463, 16, 367), (Str.ofString "**", 465, 35, 405), (Str.ofString "**=", 467, 46, 427), (Str.ofString "*=", 469, 38, 411), (Str.ofString "+", 471, 14, 363), (Str.ofString "+=", 473, 36, 407), (Str.ofString ",", 475, 12, 359), (Str.ofString "-", 477, 15, 365), (Str.ofString "-=", 479, 37, 409), (Str.ofString "->", 481, 51, 437), (Str.ofString ".", 483, 23, 381), (Str.ofString "...", 485, 52, 439), (Str.ofString "/", 487, 17, 369), (Str.ofString "//", 489, 47, 429), (Str.ofString "//=", 491, 48, 431), (Str.ofString "/=", 493, 39, 413), (Str.ofString ":", 495, 11, 357), (Str.ofString ":=", 497, 53, 441), (Str.ofString ";", 499, 13, 361), (Str.ofString "<", 501, 20, 375), (Str.ofString "<<", 503, 33, 401), (Str.ofString "<<=", 505, 44, 423), (Str.ofString "<=", 507, 29, 393), (Str.ofString "=", 509, 22, 379), (Str.ofString "==", 511, 27, 389), (Str.ofString ">", 513, 21, 377), (Str.ofString ">=", 515, 30, 395), (Str.ofString ">>", 516, 34, 403), (Str.ofString ">>=", 517, 45, 425), (Str.ofString "@", 518, 49, 433), (Str.ofString "@=", 519, 50, 435), (Str.ofString "[", 520, 9, 353), (Str.ofString "]", 521, 10, 355), (Str.ofString "^", 522, 32, 399), (Str.ofString "^=", 523, 43, 421), (Str.ofString "{", 524, 25, 385), (Str.ofString "|", 525, 18, 371), (Str.ofString "|=", 526, 42, 419), (Str.ofString "}", 527, 26, 387), (Str.ofString "~", 528, 31, 397)]
noncomputable def tblE (P : Params) : List DictEntry := tbl.map fun p => { hash := PyData.keyHash P p.1, key := Value.str p.1 p.2.1, val := Value.int p.2.2.1 p.2.2.2 }
noncomputable def tget (x : Str) : Option (Int × Nat) := (tbl.find? fun p => p.1 == x).map fun p => p.2.2
theorem tab_look (w : World) : (Mine.hd.heap_39 w.params).lookup 108 = some ⟨.type "dict", none, .dict (tblE w.params).toArray 48, #[]⟩ := rfl
theorem keysLit_map (P : Params) : ∀ l : List (Str × Nat × Int × Nat), KeysLit P (l.map fun p => { hash := PyData.keyHash P p.1, key := Value.str p.1 p.2.1, val := Value.int p.2.2.1 p.2.2.2 })
  | [] => trivial
  | p :: r => ⟨⟨p.1, p.2.1, rfl, rfl⟩, keysLit_map P r⟩
theorem find_map (P : Params) (x : Str) : ∀ l : List (Str × Nat × Int × Nat), ((l.map fun p => ({ hash := PyData.keyHash P p.1, key := Value.str p.1 p.2.1, val := Value.int p.2.2.1 p.2.2.2 } : DictEntry)).find? (·.key.isStr x)).map (·.val) = (l.find? fun p => p.1 == x).map fun p => Value.int p.2.2.1 p.2.2.2
  | [] => rfl
  | p :: r => by
    have e : (Value.str p.1 p.2.1).isStr x = (p.1 == x) := rfl
    simp only [List.map_cons, List.find?_cons, e]
    cases p.1 == x with
    | true => rfl
    | false => exact find_map P x r
theorem no_ref (P : Params) : ∀ l : List (Str × Nat × Int × Nat), (l.map fun p => ({ hash := PyData.keyHash P p.1, key := Value.str p.1 p.2.1, val := Value.int p.2.2.1 p.2.2.2 } : DictEntry)).any (·.refKey) = false
  | [] => rfl
  | p :: r => by
    rw [List.map_cons, List.any_cons, no_ref P r]
    rfl
theorem tab_in (w : World) (x : Str) : nsIn (Mine.hd.heap_39 w.params) 108 x = some ((tget x).map fun p => Value.int p.1 p.2) := by
  unfold nsIn
  rw [tab_look]
  simp only [List.toList_toArray]
  have h := find_map w.params x tbl
  have e : ((tget x).map fun p => Value.int p.1 p.2) = (tbl.find? fun p => p.1 == x).map fun p => Value.int p.2.2.1 p.2.2.2 := by
    unfold tget
    cases tbl.find? fun p => p.1 == x <;> rfl
  rw [e, ← h]
  unfold tblE
  cases List.find? (fun x_1 => x_1.key.isStr x) (List.map (fun p => ({ hash := PyData.keyHash w.params p.1, key := Value.str p.1 p.2.1, val := Value.int p.2.2.1 p.2.2.2 } : DictEntry)) tbl) with
  | none => simp only [no_ref]; rfl
  | some e => rfl
section
open PySem.Calls PySem.Spec
variable {prog : Program} {w : World} {A : Around} {E : Value → Shared → Prop} {s : Shared} {h₀ : Heap} {L : Addr} {m : Str → Option Value} {x : Str} {t : Tok} {Q : Value → Shared → Prop}
theorem my_in {b : Bool} (F : Fr h₀ L s.heap m) (X : (Mine.hd.heap_39 w.params).In h₀) (e : (tget x).isSome = b) (h : ∀ k, Q (.bool b) { s with toks := k }) : wpAny (model prog w) A (compareOp .In (.str x t) (.ref 108)) Q E s := by
  refine topIn_K F X (tab_look w) (keysLit_map w.params tbl) (tab_in w x) rfl ?_
  rw [Option.isSome_map, e]
  exact h _
theorem my_get {value slice : PySem.Expr} {v : Int} {u : Nat} (F : Fr h₀ L s.heap m) (X : (Mine.hd.heap_39 w.params).In h₀) (e : tget x = some (v, u)) (h : ∀ k, Q (.int v u) { s with toks := k })
    (hs : subscripted slice false (.ref 108) (.str x t) = operate [.ref 108, .str x t] (getItem (.ref 108) (.str x t)) := by with_unfolding_all rfl) :
    wpAny (model prog w) A (subscriptTail value slice (.ref 108) (.str x t)) Q E s := by
  refine topItem_K F X (tab_look w) (keysLit_map w.params tbl) ?_ (h _) hs
  rw [tab_in, e]
  rfl
end
end Mine
namespace Mine
open PySem.Builtin PySem.Builtin.Str
theorem slice_hi_beyond (len : Nat) {i j : Int} (h0 : 0 ≤ i) (h : (len : Int) ≤ j) : strSliceIndices (some i) (some j) 1 len = strSliceIndices (some i) (some (len : Int)) 1 len := by
  have a0 : ¬ i < 0 := by (first | lia | omega)
  have a1 : ¬ j < 0 := by (first | lia | omega)
  have a2 : ¬ ((len : Int) < 0) := by (first | lia | omega)
  have e1 : max (0 : Int) (min j (len : Int)) = len := by (first | lia | omega)
  have e2 : max (0 : Int) (min (len : Int) (len : Int)) = len := by (first | lia | omega)
  simp [strSliceIndices, a0, a1, a2, e1, e2]
theorem slice_mid {x : Str} {a b : List Nat} {i j : Int} {k : Nat} (hx : x.cps.toList = a ++ b) (hi : i = a.length) (hj : j = i + k) : Txt.slice x (some i) (some j) = ⟨(b.take k).toArray⟩ := by
  have hl : x.length = a.length + b.length := by
    show x.cps.size = _
    rw [← Array.length_toList, hx, List.length_append]
  by_cases h : j ≤ x.length
  · have e := eq_of_beq (slice_closesL (x := x) (i := i) (j := j) (by (first | lia | omega)) (by (first | lia | omega)) h)
    rw [e, hx, show i.toNat = a.length by (first | lia | omega), List.drop_left, show (j - i).toNat = k by (first | lia | omega)]
  · have e1 : Txt.slice x (some i) (some j) = Txt.slice x (some i) (some (x.length : Int)) := by
      unfold Txt.slice
      rw [slice_hi_beyond x.length (by (first | lia | omega)) (by (first | lia | omega))]
    have e := eq_of_beq (slice_closesL (x := x) (i := i) (j := (x.length : Int)) (by (first | lia | omega)) (by (first | lia | omega)) (Int.le_refl _))
    rw [e1, e, hx, show i.toNat = a.length by (first | lia | omega), List.drop_left, show ((x.length : Int) - i).toNat = b.length by (first | lia | omega), List.take_length, List.take_of_length_le (by (first | lia | omega))]
end Mine
-- part P5
namespace Mine

/-- what a pass asks of a symbol's signs and of those behind it -/
noncomputable def TokOk (part nx : List Nat) (v : Int) : Prop :=
  (part.length = 2 ∧ (tget ⟨((part ++ nx).take 2).toArray⟩).isSome = true ∧ ∃ u, tget ⟨part.toArray⟩ = some (v, u)) ∨
  (part.length = 1 ∧ (tget ⟨((part ++ nx).take 2).toArray⟩).isSome = false ∧ ∃ u, tget ⟨part.toArray⟩ = some (v, u)) ∨
  (part = [34] ∧ (tget ⟨((part ++ nx).take 2).toArray⟩).isSome = false ∧ (tget ⟨part.toArray⟩).isSome = false ∧ v = 256) ∨
  (part.length = 1 ∧ part ≠ [34] ∧ (tget ⟨((part ++ nx).take 2).toArray⟩).isSome = false ∧ (tget ⟨part.toArray⟩).isSome = false ∧ ∃ d, PySem.intText? ⟨part.toArray⟩ = some d ∧ v = 256 + d) ∨
  (part.length = 1 ∧ nx = [] ∧ (tget ⟨part.toArray⟩).isSome = true ∧ ∃ u, tget ⟨part.toArray⟩ = some (v, u))
noncomputable def flat (ts : List (List Nat × Int)) : List Nat := ts.flatMap (·.1)
noncomputable def AllOk : List (List Nat × Int) → Prop
  | [] => True
  | t :: r => TokOk t.1 (flat r) t.2 ∧ AllOk r
theorem AllOk.right : ∀ {a b : List (List Nat × Int)}, AllOk (a ++ b) → AllOk b
  | [], _, h => h
  | _ :: a, _, h => AllOk.right (a := a) h.2
theorem AllOk.nil_of : ∀ {a : List (List Nat × Int)}, AllOk a → flat a = [] → a = []
  | [], _, _ => rfl
  | t :: a, h, e => by
    have e2 : t.1 ++ flat a = [] := e
    have e3 : t.1 = [] := (List.append_eq_nil_iff.mp e2).1
    have e4 : t.1.length = 0 := by rw [e3]; rfl
    rcases h.1 with h | h | h | h | h
    · have := h.1; omega
    · have := h.1; omega
    · have := h.1; rw [e3] at this; cases this
    · have := h.1; omega
    · have := h.1; omega
theorem hmS {y1 y2 y3 : Str} {m₀ : Str → Option Value} {a1 a2 : Option Value} {a3 : Value} (h1 : m₀ y1 = a1) (h2 : m₀ y2 = a2) (h3 : m₀ y3 = some a3) :
    ∀ z, m₀ z = (if z = y1 then a1 else if z = y2 then a2 else if z = y3 then some a3 else m₀ z) := by
  intro z
  by_cases e1 : z = y1
  · rw [if_pos e1, e1, h1]
  by_cases e2 : z = y2
  · rw [if_neg e1, if_pos e2, e2, h2]
  by_cases e3 : z = y3
  · rw [if_neg e1, if_neg e2, if_pos e3, e3, h3]
  · rw [if_neg e1, if_neg e2, if_neg e3]
theorem nm2 {h₀ : Heap} {L : Addr} {h : Heap} {p : Addr × Obj} {l : Addr} {o : Obj} {rest : List (Addr × Obj)} {G : Prop} (N : News h₀ L h (p :: (l, o) :: rest)) (hne : ∀ x ∈ rest, x.1 ≠ l) (k : ∀ D, D = l → News h₀ L h ((D, o) :: rest) → (∀ x ∈ rest, x.1 ≠ D) → G) : G :=
  k l rfl (fun q hq => N q (List.Mem.tail _ hq)) hne
noncomputable abbrev SyS : Type := Option Value × Option Value × Int × Tok × List Value × Nat × List (List Nat × Int)
theorem wh_endS {h₀ : Heap} {L D : Addr} {y1 y2 y3 : Str} {rest news' : List (Addr × Obj)} {P : SyS → Prop} {μ : SyS → Nat} {c₁ : SyS} {s₁ : Shared} {h' : Heap} {tk' : Nat} {m₀ m' : Str → Option Value} {v : Int} {t3 : Tok} {vs : List Value} {ep : Nat} {ts : List (List Nat × Int)}
    (F : Fr h₀ L h' m') (N : News h₀ L h' news') (h3 : m' y3 = some (.int v t3)) (hr : ∀ z, z ≠ y1 → z ≠ y2 → z ≠ y3 → m' z = m₀ z) (hs : ∀ p ∈ (D, listOf vs.toArray ep) :: rest, p ∈ news') (hlt : ∀ a b, μ (a, b, v, t3, vs, ep, ts) < μ c₁) (hp : ∀ a b, P (a, b, v, t3, vs, ep, ts)) :
    WhEnd h₀ L (fun c => (D, listOf c.2.2.2.2.1.toArray c.2.2.2.2.2.1) :: rest) (fun c z => if z = y1 then c.1 else if z = y2 then c.2.1 else if z = y3 then some (.int c.2.2.1 c.2.2.2.1) else m₀ z) P μ c₁ s₁ { s₁ with heap := h', toks := tk' } := by
  refine wh_end (m' y1, m' y2, v, t3, vs, ep, ts) F N (fun z => ?_) hs (hlt _ _) (hp _ _)
  dsimp only
  by_cases e1 : z = y1
  · rw [if_pos e1, e1]
  by_cases e2 : z = y2
  · rw [if_neg e1, if_pos e2, e2]
  by_cases e3 : z = y3
  · rw [if_neg e1, if_neg e2, if_pos e3, e3, h3]
  · rw [if_neg e1, if_neg e2, if_neg e3, hr z e1 e2 e3]
theorem part_ne {part : List Nat} (h : part ≠ [34]) : ¬ ((⟨part.toArray⟩ : Str) == Str.ofString "\"") = true := by
  rw [show Str.ofString "\"" = ⟨#[34]⟩ by decide +kernel, beq_iff_eq]
  intro q
  injection q with q
  injection q with q
  exact h q
theorem part_eq : ((⟨[34].toArray⟩ : Str) == Str.ofString "\"") = true := by decide +kernel
theorem d138 (w : World) (x : Str) (toks : List (List Nat × Int)) (tx : Tok) (rest : List (Addr × Obj)) (hx : x.cps.toList = flat toks) (hok : AllOk toks) (hxl : x.length ≤ 1000) (hlt : toks.length ≤ 100) :
    Ctr w 138 [.str x tx] 5 100 rest (fun o led' => ∃ D vs n, o = .ref D ∧ IntsAre vs (toks.map (·.2)) ∧ (∀ p ∈ rest, p.1 ≠ D) ∧ led' = (D, listOf vs.toArray n) :: rest) := by
  unfold Ctr; k_fill
  intro dp un gd cn cs a ccd cl outer A₀ base h₀ L m s Q E loose mean mg mb B F X N T C1 C2 hk hd hu hret
  obtain ⟨hp9, gn9, dr9, tk9, os9⟩ := s
  w_on
  w_top on
  k_with_none
  k_with "my binaryOp RShift int int" => (k_here; (with_reducible refine g_rsh ?zqkb1 ?_); (case zqkb1 => first | assumption | (first | lia | omega)); intro tz9' kz9')
  k_with "my inplaceOp RShift int int" => (k_here; (with_reducible refine g_irsh ?zqkb1 ?_); (case zqkb1 => first | assumption | (first | lia | omega)); intro tz9' kz9')
  k_with "my binaryOp LShift int int" => (k_here; (with_reducible refine g_lsh ?zqkb1 ?zqkb2 ?_); (case zqkb1 => first | assumption | (first | lia | omega)); (case zqkb2 => first | exact shlOk (by assumption) (by (first | lia | omega)) (by first | assumption | (first | lia | omega)) | assumption); intro tz9' kz9')
  k_with "my inplaceOp LShift int int" => (k_here; (with_reducible refine g_ilsh ?zqkb1 ?zqkb2 ?_); (case zqkb1 => first | assumption | (first | lia | omega)); (case zqkb2 => first | exact shlOk (by assumption) (by (first | lia | omega)) (by first | assumption | (first | lia | omega)) | assumption); intro tz9' kz9')
  k_with "my binaryOp Mult int int" => (k_here; (with_reducible refine g_mul ?zqkb1 ?_); (case zqkb1 => assumption); intro tz9' kz9')
  k_with "my inplaceOp Mult int int" => (k_here; (with_reducible refine g_imul ?zqkb1 ?_); (case zqkb1 => assumption); intro tz9' kz9')
  k_with "my binaryOp Add int int" => (k_here; (with_reducible refine g_add ?_); intro tz9' kz9')
  k_with "my binaryOp Sub int int" => (k_here; (with_reducible refine g_sub ?_); intro tz9' kz9')
  k_with "my binaryOp BitAnd int int" => (k_here; (with_reducible refine g_and ?_); intro tz9' kz9')
  k_with "my binaryOp BitOr int int" => (k_here; (with_reducible refine g_or ?_); intro tz9' kz9')
  k_with "my inplaceOp Add int int" => (k_here; (with_reducible refine g_iadd ?_); intro tz9' kz9')
  k_with "my inplaceOp Sub int int" => (k_here; (with_reducible refine g_isub ?_); intro tz9' kz9')
  k_with "my binaryOp FloorDiv int int" => (k_here; (with_reducible refine floordiv_int ?zqkb1 ?_ ?zqkb2); (case zqkb1 => first | assumption | (first | lia | omega)); (case zqkb2 => exact .inl ((by assumption : Near _) _)))
  k_with "my call builtin:divmod" => (k_here; k_dflt (refine' my_divmod ?zqF ?zqN ?zqb ?zqp ?_; (case zqF => k_asm); (case zqN => k_asm); (case zqb => first | assumption | (first | lia | omega)); (case zqp => assumption); k_whole; intro D' h' t1' t2' tk' F' N' hlt'; (try k_sweep)))
  k_with "my call builtin:list.append" => (k_here; k_dflt (refine' my_append ?zqF ?zqN ?zqU ?zqz ?_; (case zqF => k_asm); (case zqN => k_asm); (case zqU => k_upd); (case zqz => first | assumption | (first | lia | omega)); k_whole; intro h' F' N'; (try k_sweep)))
  k_with "my call builtin:list.reverse" => (k_here; k_dflt (refine' my_reverse ?zqF ?zqN ?zqU ?zqz ?_; (case zqF => k_asm); (case zqN => k_asm); (case zqU => k_upd); (case zqz => first | assumption | (first | lia | omega)); k_whole; intro h' F' N'; (try k_sweep)))
  k_with "my subscriptTail Name Slice str ref" => (k_here; (with_reducible show wpAny _ _ (subscriptTail _ (PySem.Expr.Slice none (some _) none _) (Value.str _ _) _) _ _ _); k_dflt (refine' tx_ns (s := ⟨_, _, _, _, _⟩) ?zqF ?zqN ?zqe ?zql ?_ ?zqz3 ?zqz4; (case zqF => k_asm); (case zqN => k_asm); (case zqe => assumption); (case zql => (first | lia | omega)); (case zqz3 => with_unfolding_all rfl); (case zqz4 => (intro _; with_unfolding_all rfl)); k_whole; intro h' t' k' F' N'; (try k_sweep)))
  k_with "my subscriptTail Name Slice str ref" => (k_here; (with_reducible show wpAny _ _ (subscriptTail _ (PySem.Expr.Slice (some _) (some _) none _) (Value.str _ _) _) _ _ _); k_dflt (refine' tx_ss (s := ⟨_, _, _, _, _⟩) ?zqF ?zqN ?zqe ?zql ?_ ?zqz3 ?zqz4; (case zqF => k_asm); (case zqN => k_asm); (case zqe => assumption); (case zql => (first | lia | omega)); (case zqz3 => with_unfolding_all rfl); (case zqz4 => (intro _; with_unfolding_all rfl)); k_whole; intro h' t' k' F' N'; (try k_sweep)))
  k_with "my exec While Compare" => (k_here; k_dflt (refine whl_start 0 (Hold.out ?_)))
  k_with "my compareOp In str ref" => (k_here; k_dflt (refine' my_in ?zqF ?zqX ?zqe ?_; (case zqF => k_asm); (case zqX => k_asm); (case zqe => assumption); k_whole; intro _))
  k_with "my subscriptTail Name Name ref str" => (k_here; k_dflt (refine' my_get ?zqF ?zqX ?zqe ?_ ?zqz3; (case zqF => k_asm); (case zqX => k_asm); (case zqe => assumption); (case zqz3 => with_unfolding_all rfl); k_whole; intro _))
  k_with "my subscriptTail" => (k_here; (with_reducible show wpAny _ _ (subscriptTail _ _ (Value.ref 108) (Value.str _ _)) _ _ _); k_dflt (refine' my_get ?zqF ?zqX ?zqe ?_ ?zqz3; (case zqF => k_asm); (case zqX => k_asm); (case zqe => assumption); (case zqz3 => with_unfolding_all rfl); k_whole; intro _))
  k_with "my call type:int" => (k_here; k_dflt (refine' KIN.call_text ?zqe ?zql ?_; (case zqe => assumption); (case zql => (simp only [str_len]; (first | lia | omega))); k_whole))
  refine wpAny_call ?_
  k_dflt cell_enter
  k_steps
  refine Hold.mk ?_
  have hxL : x.length = (flat toks).length := by
    show x.cps.size = _
    rw [← Array.length_toList, hx]
  refine nm2 (by assumption) (by first | assumption | exact rest_ne (by assumption) (Nat.le_refl _) | exact fun p hp => Nat.ne_of_lt ((by assumption : ∀ p ∈ rest, p.1 < _) p hp) | exact fun p hp => Nat.ne_of_lt (allLt_to (by assumption) p hp)) ?_
  intro D hD N7 hDr
  subst hD
  refine' wh_loop (σ := SyS) (fun c => (D, listOf c.2.2.2.2.1.toArray c.2.2.2.2.2.1) :: rest) (fun m0 c z => if z = Str.ofString "size" then c.1 else if z = Str.ofString "part" then c.2.1 else if z = Str.ofString "place" then some (.int c.2.2.1 c.2.2.2.1) else m0 z)
    (fun c => IntsAre c.2.2.2.2.1 (c.2.2.2.2.2.2.map (·.2)) ∧ ∃ t2, toks = c.2.2.2.2.2.2 ++ t2 ∧ (c.2.2.1 = (flat c.2.2.2.2.2.2).length ∨ (t2 = [] ∧ c.2.2.1 = (flat c.2.2.2.2.2.2).length + 1))) (fun c => toks.length - c.2.2.2.2.2.2.length) (none, none, 0, _, [], 0, []) ?hE ?F ?hM ?N ?hp ?turn
  case hE => first | passes_own | with_unfolding_all passes_own
  case F => k_asm
  case N => assumption
  case hM =>
    refine hmS ?c1 ?c2 ?c3
    case c1 => rfl
    case c2 => rfl
    case c3 => first | rfl | with_unfolding_all rfl
  case hp => exact ⟨.nil, toks, rfl, .inl rfl⟩
  case turn =>
    intro c h tk hpp F9 N9
    obtain ⟨u1, u2, pl, tp, vs, ep, t1⟩ := c
    obtain ⟨hvs, t2, ht, hpl⟩ := hpp
    dsimp only at hpl hvs ht F9 N9
    subst ht
    have hvl : vs.length ≤ 1000000 := by
      rw [hvs.length, List.length_map]
      rw [List.length_append] at hlt
      (first | lia | omega)
    have hx2 : x.cps.toList = flat t1 ++ flat t2 := by rw [hx]; exact List.flatMap_append ..
    have hxl2 : x.length = (flat t1).length + (flat t2).length := by
      show x.cps.size = _
      rw [← Array.length_toList, hx2, List.length_append]
    cases t2 with
    | nil =>
      have hno : decide (pl < (x.length : Int)) = false := by
        rw [decide_eq_false_iff_not]
        have : (flat ([] : List (List Nat × Int))).length = 0 := rfl
        (first | lia | omega)
      k_with_none
      k_with "my binaryOp RShift int int" => (k_here; (with_reducible refine g_rsh ?zqkb1 ?_); (case zqkb1 => first | assumption | (first | lia | omega)); intro tz9' kz9')
      k_with "my inplaceOp RShift int int" => (k_here; (with_reducible refine g_irsh ?zqkb1 ?_); (case zqkb1 => first | assumption | (first | lia | omega)); intro tz9' kz9')
      k_with "my binaryOp LShift int int" => (k_here; (with_reducible refine g_lsh ?zqkb1 ?zqkb2 ?_); (case zqkb1 => first | assumption | (first | lia | omega)); (case zqkb2 => first | exact shlOk (by assumption) (by (first | lia | omega)) (by first | assumption | (first | lia | omega)) | assumption); intro tz9' kz9')
      k_with "my inplaceOp LShift int int" => (k_here; (with_reducible refine g_ilsh ?zqkb1 ?zqkb2 ?_); (case zqkb1 => first | assumption | (first | lia | omega)); (case zqkb2 => first | exact shlOk (by assumption) (by (first | lia | omega)) (by first | assumption | (first | lia | omega)) | assumption); intro tz9' kz9')
      k_with "my binaryOp Mult int int" => (k_here; (with_reducible refine g_mul ?zqkb1 ?_); (case zqkb1 => assumption); intro tz9' kz9')
      k_with "my inplaceOp Mult int int" => (k_here; (with_reducible refine g_imul ?zqkb1 ?_); (case zqkb1 => assumption); intro tz9' kz9')
      k_with "my binaryOp Add int int" => (k_here; (with_reducible refine g_add ?_); intro tz9' kz9')
      k_with "my binaryOp Sub int int" => (k_here; (with_reducible refine g_sub ?_); intro tz9' kz9')
      k_with "my binaryOp BitAnd int int" => (k_here; (with_reducible refine g_and ?_); intro tz9' kz9')
      k_with "my binaryOp BitOr int int" => (k_here; (with_reducible refine g_or ?_); intro tz9' kz9')
      k_with "my inplaceOp Add int int" => (k_here; (with_reducible refine g_iadd ?_); intro tz9' kz9')
      k_with "my inplaceOp Sub int int" => (k_here; (with_reducible refine g_isub ?_); intro tz9' kz9')
      k_with "my binaryOp FloorDiv int int" => (k_here; (with_reducible refine floordiv_int ?zqkb1 ?_ ?zqkb2); (case zqkb1 => first | assumption | (first | lia | omega)); (case zqkb2 => exact .inl ((by assumption : Near _) _)))
      k_with "my call builtin:divmod" => (k_here; k_dflt (refine' my_divmod ?zqF ?zqN ?zqb ?zqp ?_; (case zqF => k_asm); (case zqN => k_asm); (case zqb => first | assumption | (first | lia | omega)); (case zqp => assumption); k_whole; intro D' h' t1' t2' tk' F' N' hlt'; (try k_sweep)))
      k_with "my call builtin:list.append" => (k_here; k_dflt (refine' my_append ?zqF ?zqN ?zqU ?zqz ?_; (case zqF => k_asm); (case zqN => k_asm); (case zqU => k_upd); (case zqz => first | assumption | (first | lia | omega)); k_whole; intro h' F' N'; (try k_sweep)))
      k_with "my call builtin:list.reverse" => (k_here; k_dflt (refine' my_reverse ?zqF ?zqN ?zqU ?zqz ?_; (case zqF => k_asm); (case zqN => k_asm); (case zqU => k_upd); (case zqz => first | assumption | (first | lia | omega)); k_whole; intro h' F' N'; (try k_sweep)))
      k_with "my subscriptTail Name Slice str ref" => (k_here; (with_reducible show wpAny _ _ (subscriptTail _ (PySem.Expr.Slice none (some _) none _) (Value.str _ _) _) _ _ _); k_dflt (refine' tx_ns (s := ⟨_, _, _, _, _⟩) ?zqF ?zqN ?zqe ?zql ?_ ?zqz3 ?zqz4; (case zqF => k_asm); (case zqN => k_asm); (case zqe => assumption); (case zql => (first | lia | omega)); (case zqz3 => with_unfolding_all rfl); (case zqz4 => (intro _; with_unfolding_all rfl)); k_whole; intro h' t' k' F' N'; (try k_sweep)))
      k_with "my subscriptTail Name Slice str ref" => (k_here; (with_reducible show wpAny _ _ (subscriptTail _ (PySem.Expr.Slice (some _) (some _) none _) (Value.str _ _) _) _ _ _); k_dflt (refine' tx_ss (s := ⟨_, _, _, _, _⟩) ?zqF ?zqN ?zqe ?zql ?_ ?zqz3 ?zqz4; (case zqF => k_asm); (case zqN => k_asm); (case zqe => assumption); (case zql => (first | lia | omega)); (case zqz3 => with_unfolding_all rfl); (case zqz4 => (intro _; with_unfolding_all rfl)); k_whole; intro h' t' k' F' N'; (try k_sweep)))
      k_with "my exec While Compare" => (k_here; k_dflt (refine whl_start 0 (Hold.out ?_)))
      k_with "my compareOp In str ref" => (k_here; k_dflt (refine' my_in ?zqF ?zqX ?zqe ?_; (case zqF => k_asm); (case zqX => k_asm); (case zqe => assumption); k_whole; intro _))
      k_with "my subscriptTail Name Name ref str" => (k_here; k_dflt (refine' my_get ?zqF ?zqX ?zqe ?_ ?zqz3; (case zqF => k_asm); (case zqX => k_asm); (case zqe => assumption); (case zqz3 => with_unfolding_all rfl); k_whole; intro _))
      k_with "my subscriptTail" => (k_here; (with_reducible show wpAny _ _ (subscriptTail _ _ (Value.ref 108) (Value.str _ _)) _ _ _); k_dflt (refine' my_get ?zqF ?zqX ?zqe ?_ ?zqz3; (case zqF => k_asm); (case zqX => k_asm); (case zqe => assumption); (case zqz3 => with_unfolding_all rfl); k_whole; intro _))
      k_with "my call type:int" => (k_here; k_dflt (refine' KIN.call_text ?zqe ?zql ?_; (case zqe => assumption); (case zql => (simp only [str_len]; (first | lia | omega))); k_whole))
      k_with "WhlIf" => (refine WhlIf.no hno ?_)
      (try dsimp only)
      (try k_fold)
      k_steps
      exact hret _ _ _ _ (by assumption) (by assumption) ⟨_, _, _, rfl, by rw [List.append_nil]; exact hvs, hDr, rfl⟩
    | cons t t2 =>
      obtain ⟨part, v⟩ := t
      replace hpl : pl = (flat t1).length := by
        rcases hpl with h | ⟨h, _⟩
        · exact h
        · cases h
      have hok2 := (AllOk.right hok).1
      dsimp only at hok2
      have hx3 : x.cps.toList = flat t1 ++ (part ++ flat t2) := hx2
      have sl2 : Txt.slice x (some pl) (some (pl + 2)) = ⟨((part ++ flat t2).take 2).toArray⟩ := slice_mid (k := 2) hx3 hpl rfl
      have slp : ∀ k : Nat, part.length = k → Txt.slice x (some pl) (some (pl + (k : Int))) = ⟨part.toArray⟩ := fun k hk => by
        rw [slice_mid (k := k) hx3 hpl rfl, ← hk, List.take_left]
      have hflat : (flat (t1 ++ [(part, v)])).length = (flat t1).length + part.length := by
        unfold flat
        rw [List.flatMap_append, List.length_append]
        simp
      have hlast : t1 ++ (part, v) :: t2 = (t1 ++ [(part, v)]) ++ t2 := by simp
      have hmu : (t1 ++ (part, v) :: t2).length - (t1 ++ [(part, v)]).length < (t1 ++ (part, v) :: t2).length - t1.length := by simp; (first | lia | omega)
      have hfl : (flat ((part, v) :: t2)).length = part.length + (flat t2).length := by
        show (part ++ flat t2).length = _
        rw [List.length_append]
      rcases hok2 with ⟨hp1, hp2, u, hp3⟩ | ⟨hp1, hp2, u, hp3⟩ | ⟨hp1, hp2, hp3, rfl⟩ | ⟨hp1, hpn, hp2, hp3, d, hp4, rfl⟩ | ⟨hp1, hnx, hp4, u, hp3⟩
      · have slq := slp 2 hp1
        have hp4 : (tget ⟨part.toArray⟩).isSome = true := by rw [hp3]; rfl
        have hyes : decide (pl < (x.length : Int)) = true := decide_eq_true (by (first | lia | omega))
        k_with_none
        k_with "my binaryOp RShift int int" => (k_here; (with_reducible refine g_rsh ?zqkb1 ?_); (case zqkb1 => first | assumption | (first | lia | omega)); intro tz9' kz9')
        k_with "my inplaceOp RShift int int" => (k_here; (with_reducible refine g_irsh ?zqkb1 ?_); (case zqkb1 => first | assumption | (first | lia | omega)); intro tz9' kz9')
        k_with "my binaryOp LShift int int" => (k_here; (with_reducible refine g_lsh ?zqkb1 ?zqkb2 ?_); (case zqkb1 => first | assumption | (first | lia | omega)); (case zqkb2 => first | exact shlOk (by assumption) (by (first | lia | omega)) (by first | assumption | (first | lia | omega)) | assumption); intro tz9' kz9')
        k_with "my inplaceOp LShift int int" => (k_here; (with_reducible refine g_ilsh ?zqkb1 ?zqkb2 ?_); (case zqkb1 => first | assumption | (first | lia | omega)); (case zqkb2 => first | exact shlOk (by assumption) (by (first | lia | omega)) (by first | assumption | (first | lia | omega)) | assumption); intro tz9' kz9')
        k_with "my binaryOp Mult int int" => (k_here; (with_reducible refine g_mul ?zqkb1 ?_); (case zqkb1 => assumption); intro tz9' kz9')
        k_with "my inplaceOp Mult int int" => (k_here; (with_reducible refine g_imul ?zqkb1 ?_); (case zqkb1 => assumption); intro tz9' kz9')
        k_with "my binaryOp Add int int" => (k_here; (with_reducible refine g_add ?_); intro tz9' kz9')
        k_with "my binaryOp Sub int int" => (k_here; (with_reducible refine g_sub ?_); intro tz9' kz9')
        k_with "my binaryOp BitAnd int int" => (k_here; (with_reducible refine g_and ?_); intro tz9' kz9')
        k_with "my binaryOp BitOr int int" => (k_here; (with_reducible refine g_or ?_); intro tz9' kz9')
        k_with "my inplaceOp Add int int" => (k_here; (with_reducible refine g_iadd ?_); intro tz9' kz9')
        k_with "my inplaceOp Sub int int" => (k_here; (with_reducible refine g_isub ?_); intro tz9' kz9')
        k_with "my binaryOp FloorDiv int int" => (k_here; (with_reducible refine floordiv_int ?zqkb1 ?_ ?zqkb2); (case zqkb1 => first | assumption | (first | lia | omega)); (case zqkb2 => exact .inl ((by assumption : Near _) _)))
        k_with "my call builtin:divmod" => (k_here; k_dflt (refine' my_divmod ?zqF ?zqN ?zqb ?zqp ?_; (case zqF => k_asm); (case zqN => k_asm); (case zqb => first | assumption | (first | lia | omega)); (case zqp => assumption); k_whole; intro D' h' t1' t2' tk' F' N' hlt'; (try k_sweep)))
        k_with "my call builtin:list.append" => (k_here; k_dflt (refine' my_append ?zqF ?zqN ?zqU ?zqz ?_; (case zqF => k_asm); (case zqN => k_asm); (case zqU => k_upd); (case zqz => first | assumption | (first | lia | omega)); k_whole; intro h' F' N'; (try k_sweep)))
        k_with "my call builtin:list.reverse" => (k_here; k_dflt (refine' my_reverse ?zqF ?zqN ?zqU ?zqz ?_; (case zqF => k_asm); (case zqN => k_asm); (case zqU => k_upd); (case zqz => first | assumption | (first | lia | omega)); k_whole; intro h' F' N'; (try k_sweep)))
        k_with "my subscriptTail Name Slice str ref" => (k_here; (with_reducible show wpAny _ _ (subscriptTail _ (PySem.Expr.Slice none (some _) none _) (Value.str _ _) _) _ _ _); k_dflt (refine' tx_ns (s := ⟨_, _, _, _, _⟩) ?zqF ?zqN ?zqe ?zql ?_ ?zqz3 ?zqz4; (case zqF => k_asm); (case zqN => k_asm); (case zqe => assumption); (case zql => (first | lia | omega)); (case zqz3 => with_unfolding_all rfl); (case zqz4 => (intro _; with_unfolding_all rfl)); k_whole; intro h' t' k' F' N'; (try k_sweep)))
        k_with "my subscriptTail Name Slice str ref" => (k_here; (with_reducible show wpAny _ _ (subscriptTail _ (PySem.Expr.Slice (some _) (some _) none _) (Value.str _ _) _) _ _ _); k_dflt (refine' tx_ss (s := ⟨_, _, _, _, _⟩) ?zqF ?zqN ?zqe ?zql ?_ ?zqz3 ?zqz4; (case zqF => k_asm); (case zqN => k_asm); (case zqe => assumption); (case zql => (first | lia | omega)); (case zqz3 => with_unfolding_all rfl); (case zqz4 => (intro _; with_unfolding_all rfl)); k_whole; intro h' t' k' F' N'; (try k_sweep)))
        k_with "my exec While Compare" => (k_here; k_dflt (refine whl_start 0 (Hold.out ?_)))
        k_with "my compareOp In str ref" => (k_here; k_dflt (refine' my_in ?zqF ?zqX ?zqe ?_; (case zqF => k_asm); (case zqX => k_asm); (case zqe => assumption); k_whole; intro _))
        k_with "my subscriptTail Name Name ref str" => (k_here; k_dflt (refine' my_get ?zqF ?zqX ?zqe ?_ ?zqz3; (case zqF => k_asm); (case zqX => k_asm); (case zqe => assumption); (case zqz3 => with_unfolding_all rfl); k_whole; intro _))
        k_with "my subscriptTail" => (k_here; (with_reducible show wpAny _ _ (subscriptTail _ _ (Value.ref 108) (Value.str _ _)) _ _ _); k_dflt (refine' my_get ?zqF ?zqX ?zqe ?_ ?zqz3; (case zqF => k_asm); (case zqX => k_asm); (case zqe => assumption); (case zqz3 => with_unfolding_all rfl); k_whole; intro _))
        k_with "my call type:int" => (k_here; k_dflt (refine' KIN.call_text ?zqe ?zql ?_; (case zqe => assumption); (case zql => (simp only [str_len]; (first | lia | omega))); k_whole))
        k_with "WhlIf" => (refine WhlIf.yes hyes ?_)
        (try dsimp only)
        (try k_fold)
        k_steps
        unfold WhPost
        refine' wh_endS ?eF ?eN ?e3 ?er ?es ?el ?ep
        case eF => assumption
        case eN => assumption
        case e3 => exact rfl
        case er => (intro z a b c; simp only [a, b, c, if_false])
        case es => exact fun p hp => hp
        case el => (intro a b; exact hmu)
        case ep =>
          intro a b
          refine ⟨?_, t2, hlast, .inl ?_⟩
          · dsimp only
            rw [List.map_append]
            exact ints_app hvs (.cons _ _ .nil)
          · dsimp only
            rw [hflat]
            (first | lia | omega)
      · have slq := slp 1 hp1
        have hp4 : (tget ⟨part.toArray⟩).isSome = true := by rw [hp3]; rfl
        have hyes : decide (pl < (x.length : Int)) = true := decide_eq_true (by (first | lia | omega))
        k_with_none
        k_with "my binaryOp RShift int int" => (k_here; (with_reducible refine g_rsh ?zqkb1 ?_); (case zqkb1 => first | assumption | (first | lia | omega)); intro tz9' kz9')
        k_with "my inplaceOp RShift int int" => (k_here; (with_reducible refine g_irsh ?zqkb1 ?_); (case zqkb1 => first | assumption | (first | lia | omega)); intro tz9' kz9')
        k_with "my binaryOp LShift int int" => (k_here; (with_reducible refine g_lsh ?zqkb1 ?zqkb2 ?_); (case zqkb1 => first | assumption | (first | lia | omega)); (case zqkb2 => first | exact shlOk (by assumption) (by (first | lia | omega)) (by first | assumption | (first | lia | omega)) | assumption); intro tz9' kz9')
        k_with "my inplaceOp LShift int int" => (k_here; (with_reducible refine g_ilsh ?zqkb1 ?zqkb2 ?_); (case zqkb1 => first | assumption | (first | lia | omega)); (case zqkb2 => first | exact shlOk (by assumption) (by (first | lia | omega)) (by first | assumption | (first | lia | omega)) | assumption); intro tz9' kz9')
        k_with "my binaryOp Mult int int" => (k_here; (with_reducible refine g_mul ?zqkb1 ?_); (case zqkb1 => assumption); intro tz9' kz9')
        k_with "my inplaceOp Mult int int" => (k_here; (with_reducible refine g_imul ?zqkb1 ?_); (case zqkb1 => assumption); intro tz9' kz9')
        k_with "my binaryOp Add int int" => (k_here; (with_reducible refine g_add ?_); intro tz9' kz9')
        k_with "my binaryOp Sub int int" => (k_here; (with_reducible refine g_sub ?_); intro tz9' kz9')
        k_with "my binaryOp BitAnd int int" => (k_here; (with_reducible refine g_and ?_); intro tz9' kz9')
        k_with "my binaryOp BitOr int int" => (k_here; (with_reducible refine g_or ?_); intro tz9' kz9')
        k_with "my inplaceOp Add int int" => (k_here; (with_reducible refine g_iadd ?_); intro tz9' kz9')
        k_with "my inplaceOp Sub int int" => (k_here; (with_reducible refine g_isub ?_); intro tz9' kz9')
        k_with "my binaryOp FloorDiv int int" => (k_here; (with_reducible refine floordiv_int ?zqkb1 ?_ ?zqkb2); (case zqkb1 => first | assumption | (first | lia | omega)); (case zqkb2 => exact .inl ((by assumption : Near _) _)))
        k_with "my call builtin:divmod" => (k_here; k_dflt (refine' my_divmod ?zqF ?zqN ?zqb ?zqp ?_; (case zqF => k_asm); (case zqN => k_asm); (case zqb => first | assumption | (first | lia | omega)); (case zqp => assumption); k_whole; intro D' h' t1' t2' tk' F' N' hlt'; (try k_sweep)))
        k_with "my call builtin:list.append" => (k_here; k_dflt (refine' my_append ?zqF ?zqN ?zqU ?zqz ?_; (case zqF => k_asm); (case zqN => k_asm); (case zqU => k_upd); (case zqz => first | assumption | (first | lia | omega)); k_whole; intro h' F' N'; (try k_sweep)))
        k_with "my call builtin:list.reverse" => (k_here; k_dflt (refine' my_reverse ?zqF ?zqN ?zqU ?zqz ?_; (case zqF => k_asm); (case zqN => k_asm); (case zqU => k_upd); (case zqz => first | assumption | (first | lia | omega)); k_whole; intro h' F' N'; (try k_sweep)))
        k_with "my subscriptTail Name Slice str ref" => (k_here; (with_reducible show wpAny _ _ (subscriptTail _ (PySem.Expr.Slice none (some _) none _) (Value.str _ _) _) _ _ _); k_dflt (refine' tx_ns (s := ⟨_, _, _, _, _⟩) ?zqF ?zqN ?zqe ?zql ?_ ?zqz3 ?zqz4; (case zqF => k_asm); (case zqN => k_asm); (case zqe => assumption); (case zql => (first | lia | omega)); (case zqz3 => with_unfolding_all rfl); (case zqz4 => (intro _; with_unfolding_all rfl)); k_whole; intro h' t' k' F' N'; (try k_sweep)))
        k_with "my subscriptTail Name Slice str ref" => (k_here; (with_reducible show wpAny _ _ (subscriptTail _ (PySem.Expr.Slice (some _) (some _) none _) (Value.str _ _) _) _ _ _); k_dflt (refine' tx_ss (s := ⟨_, _, _, _, _⟩) ?zqF ?zqN ?zqe ?zql ?_ ?zqz3 ?zqz4; (case zqF => k_asm); (case zqN => k_asm); (case zqe => assumption); (case zql => (first | lia | omega)); (case zqz3 => with_unfolding_all rfl); (case zqz4 => (intro _; with_unfolding_all rfl)); k_whole; intro h' t' k' F' N'; (try k_sweep)))
        k_with "my exec While Compare" => (k_here; k_dflt (refine whl_start 0 (Hold.out ?_)))
        k_with "my compareOp In str ref" => (k_here; k_dflt (refine' my_in ?zqF ?zqX ?zqe ?_; (case zqF => k_asm); (case zqX => k_asm); (case zqe => assumption); k_whole; intro _))
        k_with "my subscriptTail Name Name ref str" => (k_here; k_dflt (refine' my_get ?zqF ?zqX ?zqe ?_ ?zqz3; (case zqF => k_asm); (case zqX => k_asm); (case zqe => assumption); (case zqz3 => with_unfolding_all rfl); k_whole; intro _))
        k_with "my subscriptTail" => (k_here; (with_reducible show wpAny _ _ (subscriptTail _ _ (Value.ref 108) (Value.str _ _)) _ _ _); k_dflt (refine' my_get ?zqF ?zqX ?zqe ?_ ?zqz3; (case zqF => k_asm); (case zqX => k_asm); (case zqe => assumption); (case zqz3 => with_unfolding_all rfl); k_whole; intro _))
        k_with "my call type:int" => (k_here; k_dflt (refine' KIN.call_text ?zqe ?zql ?_; (case zqe => assumption); (case zql => (simp only [str_len]; (first | lia | omega))); k_whole))
        k_with "WhlIf" => (refine WhlIf.yes hyes ?_)
        (try dsimp only)
        (try k_fold)
        k_steps
        unfold WhPost
        refine' wh_endS ?eF ?eN ?e3 ?er ?es ?el ?ep
        case eF => assumption
        case eN => assumption
        case e3 => exact rfl
        case er => (intro z a b c; simp only [a, b, c, if_false])
        case es => exact fun p hp => hp
        case el => (intro a b; exact hmu)
        case ep =>
          intro a b
          refine ⟨?_, t2, hlast, .inl ?_⟩
          · dsimp only
            rw [List.map_append]
            exact ints_app hvs (.cons _ _ .nil)
          · dsimp only
            rw [hflat]
            (first | lia | omega)
      · have hp5 : part.length = 1 := by rw [hp1]; rfl
        have slq := slp 1 hp5
        have hyes : decide (pl < (x.length : Int)) = true := decide_eq_true (by (first | lia | omega))
        have hq : ((⟨part.toArray⟩ : Str) == Str.ofString "\"") = true := by rw [hp1]; exact part_eq
        k_with_none
        k_with "my binaryOp RShift int int" => (k_here; (with_reducible refine g_rsh ?zqkb1 ?_); (case zqkb1 => first | assumption | (first | lia | omega)); intro tz9' kz9')
        k_with "my inplaceOp RShift int int" => (k_here; (with_reducible refine g_irsh ?zqkb1 ?_); (case zqkb1 => first | assumption | (first | lia | omega)); intro tz9' kz9')
        k_with "my binaryOp LShift int int" => (k_here; (with_reducible refine g_lsh ?zqkb1 ?zqkb2 ?_); (case zqkb1 => first | assumption | (first | lia | omega)); (case zqkb2 => first | exact shlOk (by assumption) (by (first | lia | omega)) (by first | assumption | (first | lia | omega)) | assumption); intro tz9' kz9')
        k_with "my inplaceOp LShift int int" => (k_here; (with_reducible refine g_ilsh ?zqkb1 ?zqkb2 ?_); (case zqkb1 => first | assumption | (first | lia | omega)); (case zqkb2 => first | exact shlOk (by assumption) (by (first | lia | omega)) (by first | assumption | (first | lia | omega)) | assumption); intro tz9' kz9')
        k_with "my binaryOp Mult int int" => (k_here; (with_reducible refine g_mul ?zqkb1 ?_); (case zqkb1 => assumption); intro tz9' kz9')
        k_with "my inplaceOp Mult int int" => (k_here; (with_reducible refine g_imul ?zqkb1 ?_); (case zqkb1 => assumption); intro tz9' kz9')
        k_with "my binaryOp Add int int" => (k_here; (with_reducible refine g_add ?_); intro tz9' kz9')
        k_with "my binaryOp Sub int int" => (k_here; (with_reducible refine g_sub ?_); intro tz9' kz9')
        k_with "my binaryOp BitAnd int int" => (k_here; (with_reducible refine g_and ?_); intro tz9' kz9')
        k_with "my binaryOp BitOr int int" => (k_here; (with_reducible refine g_or ?_); intro tz9' kz9')
        k_with "my inplaceOp Add int int" => (k_here; (with_reducible refine g_iadd ?_); intro tz9' kz9')
        k_with "my inplaceOp Sub int int" => (k_here; (with_reducible refine g_isub ?_); intro tz9' kz9')
        k_with "my binaryOp FloorDiv int int" => (k_here; (with_reducible refine floordiv_int ?zqkb1 ?_ ?zqkb2); (case zqkb1 => first | assumption | (first | lia | omega)); (case zqkb2 => exact .inl ((by assumption : Near _) _)))
        k_with "my call builtin:divmod" => (k_here; k_dflt (refine' my_divmod ?zqF ?zqN ?zqb ?zqp ?_; (case zqF => k_asm); (case zqN => k_asm); (case zqb => first | assumption | (first | lia | omega)); (case zqp => assumption); k_whole; intro D' h' t1' t2' tk' F' N' hlt'; (try k_sweep)))
        k_with "my call builtin:list.append" => (k_here; k_dflt (refine' my_append ?zqF ?zqN ?zqU ?zqz ?_; (case zqF => k_asm); (case zqN => k_asm); (case zqU => k_upd); (case zqz => first | assumption | (first | lia | omega)); k_whole; intro h' F' N'; (try k_sweep)))
        k_with "my call builtin:list.reverse" => (k_here; k_dflt (refine' my_reverse ?zqF ?zqN ?zqU ?zqz ?_; (case zqF => k_asm); (case zqN => k_asm); (case zqU => k_upd); (case zqz => first | assumption | (first | lia | omega)); k_whole; intro h' F' N'; (try k_sweep)))
        k_with "my subscriptTail Name Slice str ref" => (k_here; (with_reducible show wpAny _ _ (subscriptTail _ (PySem.Expr.Slice none (some _) none _) (Value.str _ _) _) _ _ _); k_dflt (refine' tx_ns (s := ⟨_, _, _, _, _⟩) ?zqF ?zqN ?zqe ?zql ?_ ?zqz3 ?zqz4; (case zqF => k_asm); (case zqN => k_asm); (case zqe => assumption); (case zql => (first | lia | omega)); (case zqz3 => with_unfolding_all rfl); (case zqz4 => (intro _; with_unfolding_all rfl)); k_whole; intro h' t' k' F' N'; (try k_sweep)))
        k_with "my subscriptTail Name Slice str ref" => (k_here; (with_reducible show wpAny _ _ (subscriptTail _ (PySem.Expr.Slice (some _) (some _) none _) (Value.str _ _) _) _ _ _); k_dflt (refine' tx_ss (s := ⟨_, _, _, _, _⟩) ?zqF ?zqN ?zqe ?zql ?_ ?zqz3 ?zqz4; (case zqF => k_asm); (case zqN => k_asm); (case zqe => assumption); (case zql => (first | lia | omega)); (case zqz3 => with_unfolding_all rfl); (case zqz4 => (intro _; with_unfolding_all rfl)); k_whole; intro h' t' k' F' N'; (try k_sweep)))
        k_with "my exec While Compare" => (k_here; k_dflt (refine whl_start 0 (Hold.out ?_)))
        k_with "my compareOp In str ref" => (k_here; k_dflt (refine' my_in ?zqF ?zqX ?zqe ?_; (case zqF => k_asm); (case zqX => k_asm); (case zqe => assumption); k_whole; intro _))
        k_with "my subscriptTail Name Name ref str" => (k_here; k_dflt (refine' my_get ?zqF ?zqX ?zqe ?_ ?zqz3; (case zqF => k_asm); (case zqX => k_asm); (case zqe => assumption); (case zqz3 => with_unfolding_all rfl); k_whole; intro _))
        k_with "my subscriptTail" => (k_here; (with_reducible show wpAny _ _ (subscriptTail _ _ (Value.ref 108) (Value.str _ _)) _ _ _); k_dflt (refine' my_get ?zqF ?zqX ?zqe ?_ ?zqz3; (case zqF => k_asm); (case zqX => k_asm); (case zqe => assumption); (case zqz3 => with_unfolding_all rfl); k_whole; intro _))
        k_with "my call type:int" => (k_here; k_dflt (refine' KIN.call_text ?zqe ?zql ?_; (case zqe => assumption); (case zql => (simp only [str_len]; (first | lia | omega))); k_whole))
        k_with "WhlIf" => (refine WhlIf.yes hyes ?_)
        k_with "ite" => (with_reducible refine ite_pos hq ?_)
        (try dsimp only)
        (try k_fold)
        k_steps
        unfold WhPost
        refine' wh_endS ?eF ?eN ?e3 ?er ?es ?el ?ep
        case eF => assumption
        case eN => assumption
        case e3 => exact rfl
        case er => (intro z a b c; simp only [a, b, c, if_false])
        case es => exact fun p hp => hp
        case el => (intro a b; exact hmu)
        case ep =>
          intro a b
          refine ⟨?_, t2, hlast, .inl ?_⟩
          · dsimp only
            rw [List.map_append]
            exact ints_app hvs (.cons _ _ .nil)
          · dsimp only
            rw [hflat]
            (first | lia | omega)
      · have slq := slp 1 hp1
        have hyes : decide (pl < (x.length : Int)) = true := decide_eq_true (by (first | lia | omega))
        have hq := part_ne hpn
        k_with_none
        k_with "my binaryOp RShift int int" => (k_here; (with_reducible refine g_rsh ?zqkb1 ?_); (case zqkb1 => first | assumption | (first | lia | omega)); intro tz9' kz9')
        k_with "my inplaceOp RShift int int" => (k_here; (with_reducible refine g_irsh ?zqkb1 ?_); (case zqkb1 => first | assumption | (first | lia | omega)); intro tz9' kz9')
        k_with "my binaryOp LShift int int" => (k_here; (with_reducible refine g_lsh ?zqkb1 ?zqkb2 ?_); (case zqkb1 => first | assumption | (first | lia | omega)); (case zqkb2 => first | exact shlOk (by assumption) (by (first | lia | omega)) (by first | assumption | (first | lia | omega)) | assumption); intro tz9' kz9')
        k_with "my inplaceOp LShift int int" => (k_here; (with_reducible refine g_ilsh ?zqkb1 ?zqkb2 ?_); (case zqkb1 => first | assumption | (first | lia | omega)); (case zqkb2 => first | exact shlOk (by assumption) (by (first | lia | omega)) (by first | assumption | (first | lia | omega)) | assumption); intro tz9' kz9')
        k_with "my binaryOp Mult int int" => (k_here; (with_reducible refine g_mul ?zqkb1 ?_); (case zqkb1 => assumption); intro tz9' kz9')
        k_with "my inplaceOp Mult int int" => (k_here; (with_reducible refine g_imul ?zqkb1 ?_); (case zqkb1 => assumption); intro tz9' kz9')
        k_with "my binaryOp Add int int" => (k_here; (with_reducible refine g_add ?_); intro tz9' kz9')
        k_with "my binaryOp Sub int int" => (k_here; (with_reducible refine g_sub ?_); intro tz9' kz9')
        k_with "my binaryOp BitAnd int int" => (k_here; (with_reducible refine g_and ?_); intro tz9' kz9')
        k_with "my binaryOp BitOr int int" => (k_here; (with_reducible refine g_or ?_); intro tz9' kz9')
        k_with "my inplaceOp Add int int" => (k_here; (with_reducible refine g_iadd ?_); intro tz9' kz9')
        k_with "my inplaceOp Sub int int" => (k_here; (with_reducible refine g_isub ?_); intro tz9' kz9')
        k_with "my binaryOp FloorDiv int int" => (k_here; (with_reducible refine floordiv_int ?zqkb1 ?_ ?zqkb2); (case zqkb1 => first | assumption | (first | lia | omega)); (case zqkb2 => exact .inl ((by assumption : Near _) _)))
        k_with "my call builtin:divmod" => (k_here; k_dflt (refine' my_divmod ?zqF ?zqN ?zqb ?zqp ?_; (case zqF => k_asm); (case zqN => k_asm); (case zqb => first | assumption | (first | lia | omega)); (case zqp => assumption); k_whole; intro D' h' t1' t2' tk' F' N' hlt'; (try k_sweep)))
        k_with "my call builtin:list.append" => (k_here; k_dflt (refine' my_append ?zqF ?zqN ?zqU ?zqz ?_; (case zqF => k_asm); (case zqN => k_asm); (case zqU => k_upd); (case zqz => first | assumption | (first | lia | omega)); k_whole; intro h' F' N'; (try k_sweep)))
        k_with "my call builtin:list.reverse" => (k_here; k_dflt (refine' my_reverse ?zqF ?zqN ?zqU ?zqz ?_; (case zqF => k_asm); (case zqN => k_asm); (case zqU => k_upd); (case zqz => first | assumption | (first | lia | omega)); k_whole; intro h' F' N'; (try k_sweep)))
        k_with "my subscriptTail Name Slice str ref" => (k_here; (with_reducible show wpAny _ _ (subscriptTail _ (PySem.Expr.Slice none (some _) none _) (Value.str _ _) _) _ _ _); k_dflt (refine' tx_ns (s := ⟨_, _, _, _, _⟩) ?zqF ?zqN ?zqe ?zql ?_ ?zqz3 ?zqz4; (case zqF => k_asm); (case zqN => k_asm); (case zqe => assumption); (case zql => (first | lia | omega)); (case zqz3 => with_unfolding_all rfl); (case zqz4 => (intro _; with_unfolding_all rfl)); k_whole; intro h' t' k' F' N'; (try k_sweep)))
        k_with "my subscriptTail Name Slice str ref" => (k_here; (with_reducible show wpAny _ _ (subscriptTail _ (PySem.Expr.Slice (some _) (some _) none _) (Value.str _ _) _) _ _ _); k_dflt (refine' tx_ss (s := ⟨_, _, _, _, _⟩) ?zqF ?zqN ?zqe ?zql ?_ ?zqz3 ?zqz4; (case zqF => k_asm); (case zqN => k_asm); (case zqe => assumption); (case zql => (first | lia | omega)); (case zqz3 => with_unfolding_all rfl); (case zqz4 => (intro _; with_unfolding_all rfl)); k_whole; intro h' t' k' F' N'; (try k_sweep)))
        k_with "my exec While Compare" => (k_here; k_dflt (refine whl_start 0 (Hold.out ?_)))
        k_with "my compareOp In str ref" => (k_here; k_dflt (refine' my_in ?zqF ?zqX ?zqe ?_; (case zqF => k_asm); (case zqX => k_asm); (case zqe => assumption); k_whole; intro _))
        k_with "my subscriptTail Name Name ref str" => (k_here; k_dflt (refine' my_get ?zqF ?zqX ?zqe ?_ ?zqz3; (case zqF => k_asm); (case zqX => k_asm); (case zqe => assumption); (case zqz3 => with_unfolding_all rfl); k_whole; intro _))
        k_with "my subscriptTail" => (k_here; (with_reducible show wpAny _ _ (subscriptTail _ _ (Value.ref 108) (Value.str _ _)) _ _ _); k_dflt (refine' my_get ?zqF ?zqX ?zqe ?_ ?zqz3; (case zqF => k_asm); (case zqX => k_asm); (case zqe => assumption); (case zqz3 => with_unfolding_all rfl); k_whole; intro _))
        k_with "my call type:int" => (k_here; k_dflt (refine' KIN.call_text ?zqe ?zql ?_; (case zqe => assumption); (case zql => (simp only [str_len]; (first | lia | omega))); k_whole))
        k_with "WhlIf" => (refine WhlIf.yes hyes ?_)
        k_with "ite" => (with_reducible refine ite_neg hq ?_)
        (try dsimp only)
        (try k_fold)
        k_steps
        unfold WhPost
        refine' wh_endS ?eF ?eN ?e3 ?er ?es ?el ?ep
        case eF => assumption
        case eN => assumption
        case e3 => exact rfl
        case er => (intro z a b c; simp only [a, b, c, if_false])
        case es => exact fun p hp => hp
        case el => (intro a b; exact hmu)
        case ep =>
          intro a b
          refine ⟨?_, t2, hlast, .inl ?_⟩
          · dsimp only
            rw [List.map_append]
            exact ints_app hvs (.cons _ _ .nil)
          · dsimp only
            rw [hflat]
            (first | lia | omega)
      · have ht2 := (AllOk.right hok).2.nil_of hnx
        subst ht2
        have slq : Txt.slice x (some pl) (some (pl + 2)) = ⟨part.toArray⟩ := by
          rw [sl2, show flat ([] : List (List Nat × Int)) = [] from rfl, List.append_nil, List.take_of_length_le (by (first | lia | omega))]
        clear sl2
        have hyes : decide (pl < (x.length : Int)) = true := decide_eq_true (by (first | lia | omega))
        k_with_none
        k_with "my binaryOp RShift int int" => (k_here; (with_reducible refine g_rsh ?zqkb1 ?_); (case zqkb1 => first | assumption | (first | lia | omega)); intro tz9' kz9')
        k_with "my inplaceOp RShift int int" => (k_here; (with_reducible refine g_irsh ?zqkb1 ?_); (case zqkb1 => first | assumption | (first | lia | omega)); intro tz9' kz9')
        k_with "my binaryOp LShift int int" => (k_here; (with_reducible refine g_lsh ?zqkb1 ?zqkb2 ?_); (case zqkb1 => first | assumption | (first | lia | omega)); (case zqkb2 => first | exact shlOk (by assumption) (by (first | lia | omega)) (by first | assumption | (first | lia | omega)) | assumption); intro tz9' kz9')
        k_with "my inplaceOp LShift int int" => (k_here; (with_reducible refine g_ilsh ?zqkb1 ?zqkb2 ?_); (case zqkb1 => first | assumption | (first | lia | omega)); (case zqkb2 => first | exact shlOk (by assumption) (by (first | lia | omega)) (by first | assumption | (first | lia | omega)) | assumption); intro tz9' kz9')
        k_with "my binaryOp Mult int int" => (k_here; (with_reducible refine g_mul ?zqkb1 ?_); (case zqkb1 => assumption); intro tz9' kz9')
        k_with "my inplaceOp Mult int int" => (k_here; (with_reducible refine g_imul ?zqkb1 ?_); (case zqkb1 => assumption); intro tz9' kz9')
        k_with "my binaryOp Add int int" => (k_here; (with_reducible refine g_add ?_); intro tz9' kz9')
        k_with "my binaryOp Sub int int" => (k_here; (with_reducible refine g_sub ?_); intro tz9' kz9')
        k_with "my binaryOp BitAnd int int" => (k_here; (with_reducible refine g_and ?_); intro tz9' kz9')
        k_with "my binaryOp BitOr int int" => (k_here; (with_reducible refine g_or ?_); intro tz9' kz9')
        k_with "my inplaceOp Add int int" => (k_here; (with_reducible refine g_iadd ?_); intro tz9' kz9')
        k_with "my inplaceOp Sub int int" => (k_here; (with_reducible refine g_isub ?_); intro tz9' kz9')
        k_with "my binaryOp FloorDiv int int" => (k_here; (with_reducible refine floordiv_int ?zqkb1 ?_ ?zqkb2); (case zqkb1 => first | assumption | (first | lia | omega)); (case zqkb2 => exact .inl ((by assumption : Near _) _)))
        k_with "my call builtin:divmod" => (k_here; k_dflt (refine' my_divmod ?zqF ?zqN ?zqb ?zqp ?_; (case zqF => k_asm); (case zqN => k_asm); (case zqb => first | assumption | (first | lia | omega)); (case zqp => assumption); k_whole; intro D' h' t1' t2' tk' F' N' hlt'; (try k_sweep)))
        k_with "my call builtin:list.append" => (k_here; k_dflt (refine' my_append ?zqF ?zqN ?zqU ?zqz ?_; (case zqF => k_asm); (case zqN => k_asm); (case zqU => k_upd); (case zqz => first | assumption | (first | lia | omega)); k_whole; intro h' F' N'; (try k_sweep)))
        k_with "my call builtin:list.reverse" => (k_here; k_dflt (refine' my_reverse ?zqF ?zqN ?zqU ?zqz ?_; (case zqF => k_asm); (case zqN => k_asm); (case zqU => k_upd); (case zqz => first | assumption | (first | lia | omega)); k_whole; intro h' F' N'; (try k_sweep)))
        k_with "my subscriptTail Name Slice str ref" => (k_here; (with_reducible show wpAny _ _ (subscriptTail _ (PySem.Expr.Slice none (some _) none _) (Value.str _ _) _) _ _ _); k_dflt (refine' tx_ns (s := ⟨_, _, _, _, _⟩) ?zqF ?zqN ?zqe ?zql ?_ ?zqz3 ?zqz4; (case zqF => k_asm); (case zqN => k_asm); (case zqe => assumption); (case zql => (first | lia | omega)); (case zqz3 => with_unfolding_all rfl); (case zqz4 => (intro _; with_unfolding_all rfl)); k_whole; intro h' t' k' F' N'; (try k_sweep)))
        k_with "my subscriptTail Name Slice str ref" => (k_here; (with_reducible show wpAny _ _ (subscriptTail _ (PySem.Expr.Slice (some _) (some _) none _) (Value.str _ _) _) _ _ _); k_dflt (refine' tx_ss (s := ⟨_, _, _, _, _⟩) ?zqF ?zqN ?zqe ?zql ?_ ?zqz3 ?zqz4; (case zqF => k_asm); (case zqN => k_asm); (case zqe => assumption); (case zql => (first | lia | omega)); (case zqz3 => with_unfolding_all rfl); (case zqz4 => (intro _; with_unfolding_all rfl)); k_whole; intro h' t' k' F' N'; (try k_sweep)))
        k_with "my exec While Compare" => (k_here; k_dflt (refine whl_start 0 (Hold.out ?_)))
        k_with "my compareOp In str ref" => (k_here; k_dflt (refine' my_in ?zqF ?zqX ?zqe ?_; (case zqF => k_asm); (case zqX => k_asm); (case zqe => assumption); k_whole; intro _))
        k_with "my subscriptTail Name Name ref str" => (k_here; k_dflt (refine' my_get ?zqF ?zqX ?zqe ?_ ?zqz3; (case zqF => k_asm); (case zqX => k_asm); (case zqe => assumption); (case zqz3 => with_unfolding_all rfl); k_whole; intro _))
        k_with "my subscriptTail" => (k_here; (with_reducible show wpAny _ _ (subscriptTail _ _ (Value.ref 108) (Value.str _ _)) _ _ _); k_dflt (refine' my_get ?zqF ?zqX ?zqe ?_ ?zqz3; (case zqF => k_asm); (case zqX => k_asm); (case zqe => assumption); (case zqz3 => with_unfolding_all rfl); k_whole; intro _))
        k_with "my call type:int" => (k_here; k_dflt (refine' KIN.call_text ?zqe ?zql ?_; (case zqe => assumption); (case zql => (simp only [str_len]; (first | lia | omega))); k_whole))
        k_with "WhlIf" => (refine WhlIf.yes hyes ?_)
        (try dsimp only)
        (try k_fold)
        k_steps
        unfold WhPost
        refine' wh_endS ?eF ?eN ?e3 ?er ?es ?el ?ep
        case eF => assumption
        case eN => assumption
        case e3 => exact rfl
        case er => (intro z a b c; simp only [a, b, c, if_false])
        case es => exact fun p hp => hp
        case el => (intro a b; exact hmu)
        case ep =>
          intro a b
          refine ⟨?_, [], hlast, .inr ⟨rfl, ?_⟩⟩
          · dsimp only
            rw [List.map_append]
            exact ints_app hvs (.cons _ _ .nil)
          · dsimp only
            rw [hflat]
            (first | lia | omega)
end Mine
-- part S1
namespace Mine

noncomputable def fig (n : Int) : Str := Str.ofString (toString ((n.fdiv 8).fmod 9 + 1))
noncomputable def stepS (n : Int) : Str := [Str.ofString "+" ++ fig n, Str.ofString "-" ++ fig n, Str.ofString "*" ++ fig n, Str.ofString "+\"", Str.ofString "-\"", Str.ofString "*\"", Str.ofString "**2", Str.ofString "~"].getD (n.fmod 8).toNat (Str.ofString "")
section
open PySem.Calls PySem.Spec
variable {prog : Program} {w : World} {A : Around} {E : Value → Shared → Prop} {s : Shared} {h₀ : Heap} {L D : Addr} {news : List (Addr × Obj)} {n : Nat}
theorem my_item8 {value slice : PySem.Expr} {Q : Value → Shared → Prop} {z : Int} {u : Tok} {a0 a1 a2 a3 a4 a5 a6 a7 : Str} {t0 t1 t2 t3 t4 t5 t6 t7 : Tok} (N : News h₀ L s.heap news) (hm : (D, listOf #[.str a0 t0, .str a1 t1, .str a2 t2, .str a3 t3, .str a4 t4, .str a5 t5, .str a6 t6, .str a7 t7] n) ∈ news)
    (h : ∀ t, Q (.str ([a0, a1, a2, a3, a4, a5, a6, a7].getD (z.fmod 8).toNat (Str.ofString "")) t) s)
    (hs : subscripted slice false (.ref D) (.int (z.fmod 8) u) = operate [.ref D, .int (z.fmod 8) u] (getItem (.ref D) (.int (z.fmod 8) u)) := by with_unfolding_all rfl) :
    wpAny (model prog w) A (subscriptTail value slice (.ref D) (.int (z.fmod 8) u)) Q E s := by
  have e : z.fmod 8 = z % 8 := Int.fmod_eq_emod_of_nonneg _ (by decide)
  have hk : ∃ t, [Value.str a0 t0, .str a1 t1, .str a2 t2, .str a3 t3, .str a4 t4, .str a5 t5, .str a6 t6, .str a7 t7][(z.fmod 8).toNat]? = some (.str ([a0, a1, a2, a3, a4, a5, a6, a7].getD (z.fmod 8).toNat (Str.ofString "")) t) := by
    rw [e]
    have : z % 8 = 0 ∨ z % 8 = 1 ∨ z % 8 = 2 ∨ z % 8 = 3 ∨ z % 8 = 4 ∨ z % 8 = 5 ∨ z % 8 = 6 ∨ z % 8 = 7 := by (first | lia | omega)
    rcases this with h | h | h | h | h | h | h | h <;> rw [h] <;> exact ⟨_, rfl⟩
  obtain ⟨t, ht⟩ := hk
  exact tail_any (PySem.IsL.isList (n := n) (N _ hm).1).typeIs slot_list_getitem.lookup (wpAny_getItem_list (PySem.IsL.isList (n := n) (N _ hm).1) (by (first | lia | omega)) (by (first | lia | omega)) (by simpa using ht) (h t)) hs
end
theorem d124 (w : World) (n : Int) (tn : Tok) (rest : List (Addr × Obj)) :
    Ctr w 124 [.int n tn] 5 60 rest (fun r led' => led' = rest ∧ ∃ t, r = .str (stepS n) t) := by
  unfold Ctr; k_fill
  intro dp un gd cn cs a ccd cl outer A₀ base h₀ L m s Q E loose mean mg mb B F X N T C1 C2 hk hd hu hret
  obtain ⟨hp9, gn9, dr9, tk9, os9⟩ := s
  w_on
  w_top on
  k_with_none
  k_with "my binaryOp RShift int int" => (k_here; (with_reducible refine g_rsh ?zqkb1 ?_); (case zqkb1 => first | assumption | omega); intro tz9' kz9')
  k_with "my inplaceOp RShift int int" => (k_here; (with_reducible refine g_irsh ?zqkb1 ?_); (case zqkb1 => first | assumption | omega); intro tz9' kz9')
  k_with "my binaryOp LShift int int" => (k_here; (with_reducible refine g_lsh ?zqkb1 ?zqkb2 ?_); (case zqkb1 => first | assumption | omega); (case zqkb2 => first | exact shlOk (by assumption) (by omega) (by first | assumption | omega) | assumption); intro tz9' kz9')
  k_with "my inplaceOp LShift int int" => (k_here; (with_reducible refine g_ilsh ?zqkb1 ?zqkb2 ?_); (case zqkb1 => first | assumption | omega); (case zqkb2 => first | exact shlOk (by assumption) (by omega) (by first | assumption | omega) | assumption); intro tz9' kz9')
  k_with "my binaryOp Mult int int" => (k_here; (with_reducible refine g_mul ?zqkb1 ?_); (case zqkb1 => assumption); intro tz9' kz9')
  k_with "my inplaceOp Mult int int" => (k_here; (with_reducible refine g_imul ?zqkb1 ?_); (case zqkb1 => assumption); intro tz9' kz9')
  k_with "my binaryOp Add int int" => (k_here; (with_reducible refine g_add ?_); intro tz9' kz9')
  k_with "my binaryOp Sub int int" => (k_here; (with_reducible refine g_sub ?_); intro tz9' kz9')
  k_with "my binaryOp BitAnd int int" => (k_here; (with_reducible refine g_and ?_); intro tz9' kz9')
  k_with "my binaryOp BitOr int int" => (k_here; (with_reducible refine g_or ?_); intro tz9' kz9')
  k_with "my inplaceOp Add int int" => (k_here; (with_reducible refine g_iadd ?_); intro tz9' kz9')
  k_with "my inplaceOp Sub int int" => (k_here; (with_reducible refine g_isub ?_); intro tz9' kz9')
  k_with "my binaryOp FloorDiv int int" => (k_here; (with_reducible refine floordiv_int ?zqkb1 ?_ ?zqkb2); (case zqkb1 => first | assumption | omega); (case zqkb2 => exact .inl ((by assumption : Near _) _)))
  k_with "my call builtin:divmod" => (k_here; k_dflt (refine' my_divmod ?zqF ?zqN ?zqb ?zqp ?_; (case zqF => k_asm); (case zqN => k_asm); (case zqb => first | assumption | omega); (case zqp => assumption); k_whole; intro D' h' t1' t2' tk' F' N' hlt'; (try k_sweep)))
  k_with "my subscriptTail" => (k_here; k_dflt (refine' my_item8 ?zqzN ?zqzm ?_ ?zqz3; (case zqzN => k_asm); (case zqzm => k_mem); (case zqz3 => with_unfolding_all rfl); k_whole; intro t9'))
  refine wpAny_call ?_
  k_dflt cell_enter
  k_steps
  --END
  exact hret _ _ _ _ (by assumption) (kst_newsOf (by assumption) fun p hp => List.Mem.tail _ hp) ⟨rfl, _, rfl⟩
end Mine
-- part TK
namespace Mine
/-- the symbols of one step: kind k, figure f + 1 -/
noncomputable def toksKF (k f : Nat) : List (List Nat × Int) :=
  match k with
  | 0 => [([43], 14), ([49 + f], 256 + (f + 1 : Nat))]
  | 1 => [([45], 15), ([49 + f], 256 + (f + 1 : Nat))]
  | 2 => [([42], 16), ([49 + f], 256 + (f + 1 : Nat))]
  | 3 => [([43], 14), ([34], 256)]
  | 4 => [([45], 15), ([34], 256)]
  | 5 => [([42], 16), ([34], 256)]
  | 6 => [([42, 42], 35), ([50], 258)]
  | _ => [([126], 31)]
noncomputable def stepKF (k f : Nat) : Str := [Str.ofString "+" ++ Str.ofString (toString ((f : Int) + 1)), Str.ofString "-" ++ Str.ofString (toString ((f : Int) + 1)), Str.ofString "*" ++ Str.ofString (toString ((f : Int) + 1)), Str.ofString "+\"", Str.ofString "-\"", Str.ofString "*\"", Str.ofString "**2", Str.ofString "~"].getD k (Str.ofString "")
theorem step_flat_all : (List.range 8).all (fun k => (List.range 9).all fun f => decide ((stepKF k f).cps.toList = flat (toksKF k f))) = true := by decide +kernel
theorem step_flat {k f : Nat} (hk : k < 8) (hf : f < 9) : (stepKF k f).cps.toList = flat (toksKF k f) := by
  have h := step_flat_all
  rw [List.all_eq_true] at h
  have h := h k (List.mem_range.mpr hk)
  rw [List.all_eq_true] at h
  exact of_decide_eq_true (h f (List.mem_range.mpr hf))
/-- what may begin the text behind a step -/
noncomputable def Hd (nx : List Nat) : Prop := nx = [] ∨ ∃ h t, nx = h :: t ∧ (h = 42 ∨ h = 43 ∨ h = 45 ∨ h = 126)
theorem two_all : (List.range 128).all (fun c => [42, 43, 45, 126].all fun h => !((c == 34 || c == 126 || (49 ≤ c && c < 58)) && (tget ⟨#[c, h]⟩).isSome)) = true := by decide +kernel
theorem two_of {c h : Nat} (hc : c = 34 ∨ c = 126 ∨ (49 ≤ c ∧ c < 58)) (hh : h = 42 ∨ h = 43 ∨ h = 45 ∨ h = 126) : (tget ⟨#[c, h]⟩).isSome = false := by
  have e := two_all
  rw [List.all_eq_true] at e
  have e := e c (List.mem_range.mpr (by (first | lia | omega)))
  rw [List.all_eq_true] at e
  have e := e h (by simp only [List.mem_cons, List.not_mem_nil, or_false]; (first | lia | omega))
  have e1 : (c == 34 || c == 126 || (decide (49 ≤ c) && decide (c < 58))) = true := by
    simp only [Bool.or_eq_true, beq_iff_eq, Bool.and_eq_true, decide_eq_true_eq]
    (first | lia | omega)
  rw [e1, Bool.true_and, Bool.not_eq_true'] at e
  exact e
theorem dig_all : (List.range 9).all (fun f => !(tget ⟨#[49 + f]⟩).isSome && decide (PySem.intText? ⟨#[49 + f]⟩ = some ((f + 1 : Nat) : Int)) && !(tget ⟨#[43, 49 + f]⟩).isSome && !(tget ⟨#[45, 49 + f]⟩).isSome && !(tget ⟨#[42, 49 + f]⟩).isSome) = true := by decide +kernel
theorem dig_of {f : Nat} (hf : f < 9) : (tget ⟨#[49 + f]⟩).isSome = false ∧ PySem.intText? ⟨#[49 + f]⟩ = some ((f + 1 : Nat) : Int) ∧ (tget ⟨#[43, 49 + f]⟩).isSome = false ∧ (tget ⟨#[45, 49 + f]⟩).isSome = false ∧ (tget ⟨#[42, 49 + f]⟩).isSome = false := by
  have e := dig_all
  rw [List.all_eq_true] at e
  have e := e f (List.mem_range.mpr hf)
  simp only [Bool.and_eq_true, Bool.not_eq_true', decide_eq_true_eq] at e
  obtain ⟨⟨⟨⟨a, b⟩, c⟩, d⟩, g⟩ := e
  exact ⟨a, b, c, d, g⟩
theorem q_one : (tget ⟨#[34]⟩).isSome = false := by decide +kernel
/-- a figure -/
theorem ok_dig {f : Nat} (hf : f < 9) {nx : List Nat} (h : Hd nx) : TokOk [49 + f] nx (256 + (f + 1 : Nat)) := by
  obtain ⟨d1, d2, _⟩ := dig_of hf
  refine .inr (.inr (.inr (.inl ⟨rfl, fun e => by injection e with e; (first | lia | omega), ?_, d1, _, d2, rfl⟩)))
  rcases h with rfl | ⟨h, t, rfl, hh⟩
  · exact d1
  · exact two_of (by (first | lia | omega)) hh
theorem ok_quote {nx : List Nat} (h : Hd nx) : TokOk [34] nx 256 := by
  refine .inr (.inr (.inl ⟨rfl, ?_, q_one, rfl⟩))
  rcases h with rfl | ⟨h, t, rfl, hh⟩
  · exact q_one
  · exact two_of (by (first | lia | omega)) hh
theorem ok_tilde {nx : List Nat} (h : Hd nx) : TokOk [126] nx 31 := by
  rcases h with rfl | ⟨h, t, rfl, hh⟩
  · exact .inr (.inr (.inr (.inr ⟨rfl, rfl, by decide +kernel, 397, by decide +kernel⟩)))
  · exact .inr (.inl ⟨rfl, two_of (by omega) hh, 397, by decide +kernel⟩)
theorem ok_two {nx : List Nat} (h : Hd nx) : TokOk [50] nx 258 := ok_dig (f := 1) (by decide) h
theorem ok_pow {nx : List Nat} : TokOk [42, 42] nx 35 := .inl ⟨rfl, by show (tget ⟨#[42, 42]⟩).isSome = true; decide +kernel, 405, by decide +kernel⟩
theorem ok_op {c : Nat} {v : Int} {u d : Nat} {nx : List Nat} (h1 : (tget ⟨#[c, d]⟩).isSome = false) (h2 : tget ⟨#[c]⟩ = some (v, u)) : TokOk [c] (d :: nx) v :=
  .inr (.inl ⟨rfl, h1, u, h2⟩)
theorem steps_ok {k f : Nat} (hk : k < 8) (hf : f < 9) {r : List (List Nat × Int)} (h : AllOk r) (hd : Hd (flat r)) : AllOk (toksKF k f ++ r) ∧ Hd (flat (toksKF k f ++ r)) := by
  obtain ⟨d1, d2, d3, d4, d5⟩ := dig_of hf
  have : k = 0 ∨ k = 1 ∨ k = 2 ∨ k = 3 ∨ k = 4 ∨ k = 5 ∨ k = 6 ∨ k = 7 := by (first | lia | omega)
  rcases this with rfl | rfl | rfl | rfl | rfl | rfl | rfl | rfl
  · exact ⟨⟨ok_op d3 (u := 363) (by decide +kernel), ok_dig hf hd, h⟩, .inr ⟨43, _, rfl, by (first | lia | omega)⟩⟩
  · exact ⟨⟨ok_op d4 (u := 365) (by decide +kernel), ok_dig hf hd, h⟩, .inr ⟨45, _, rfl, by (first | lia | omega)⟩⟩
  · exact ⟨⟨ok_op d5 (u := 367) (by decide +kernel), ok_dig hf hd, h⟩, .inr ⟨42, _, rfl, by (first | lia | omega)⟩⟩
  · exact ⟨⟨ok_op (by decide +kernel) (u := 363) (by decide +kernel), ok_quote hd, h⟩, .inr ⟨43, _, rfl, by (first | lia | omega)⟩⟩
  · exact ⟨⟨ok_op (by decide +kernel) (u := 365) (by decide +kernel), ok_quote hd, h⟩, .inr ⟨45, _, rfl, by (first | lia | omega)⟩⟩
  · exact ⟨⟨ok_op (by decide +kernel) (u := 367) (by decide +kernel), ok_quote hd, h⟩, .inr ⟨42, _, rfl, by (first | lia | omega)⟩⟩
  · exact ⟨⟨ok_pow, ok_two hd, h⟩, .inr ⟨42, _, rfl, by (first | lia | omega)⟩⟩
  · exact ⟨⟨ok_tilde hd, h⟩, .inr ⟨126, _, rfl, by (first | lia | omega)⟩⟩
noncomputable def kOf (n : Int) : Nat := (n % 8).toNat
noncomputable def fOf (n : Int) : Nat := (n / 8 % 9).toNat
noncomputable def toksN (n : Int) : List (List Nat × Int) := toksKF (kOf n) (fOf n)
theorem kOf_lt (n : Int) : kOf n < 8 := by unfold kOf; (first | lia | omega)
theorem fOf_lt (n : Int) : fOf n < 9 := by unfold fOf; (first | lia | omega)
theorem stepS_eq (n : Int) : stepS n = stepKF (kOf n) (fOf n) := by
  have e8 : n.fmod 8 = n % 8 := Int.fmod_eq_emod_of_nonneg _ (by decide)
  have e9 : (n.fdiv 8).fmod 9 + 1 = ((fOf n : Nat) : Int) + 1 := by
    rw [Int.fdiv_eq_ediv_of_nonneg _ (by decide), Int.fmod_eq_emod_of_nonneg _ (by decide)]
    unfold fOf
    (first | lia | omega)
  unfold stepS stepKF fig
  rw [e8, e9]
  rfl
theorem stepS_cps (n : Int) : (stepS n).cps.toList = flat (toksN n) := by rw [stepS_eq]; exact step_flat (kOf_lt n) (fOf_lt n)
noncomputable def toksOf (ns : List Int) : List (List Nat × Int) := ([34], 256) :: ns.flatMap toksN
theorem flat_app (a b : List (List Nat × Int)) : flat (a ++ b) = flat a ++ flat b := List.flatMap_append ..
theorem toks_tail : ∀ ns : List Int, AllOk (ns.flatMap toksN) ∧ Hd (flat (ns.flatMap toksN))
  | [] => ⟨trivial, .inl rfl⟩
  | n :: r => by
    rw [List.flatMap_cons]
    obtain ⟨a, b⟩ := toks_tail r
    exact steps_ok (kOf_lt n) (fOf_lt n) a b
theorem toksOf_ok (ns : List Int) : AllOk (toksOf ns) := ⟨ok_quote (toks_tail ns).2, (toks_tail ns).1⟩
theorem toksN_len (n : Int) : (toksN n).length ≤ 2 ∧ (flat (toksN n)).length ≤ 3 := by
  have hk := kOf_lt n
  unfold toksN
  generalize kOf n = k at *
  have : k = 0 ∨ k = 1 ∨ k = 2 ∨ k = 3 ∨ k = 4 ∨ k = 5 ∨ k = 6 ∨ k = 7 := by (first | lia | omega)
  rcases this with rfl | rfl | rfl | rfl | rfl | rfl | rfl | rfl <;> exact ⟨by simp [toksKF], by simp [toksKF, flat]⟩
end Mine
namespace Mine
/-- every symbol may be worked out -/
noncomputable def WAll (g : Int) : Int × Int → List Int → Prop
  | _, [] => True
  | c, s :: r => WOk g c s ∧ WAll g (wstep g c s) r
theorem WAll.app {g : Int} : ∀ {a b : List Int} {c : Int × Int}, WAll g c a → WAll g (a.foldl (wstep g) c) b → WAll g c (a ++ b)
  | [], _, _, _, h => h
  | _ :: a, _, _, h, h' => ⟨h.1, WAll.app (a := a) h.2 h'⟩
theorem WAll.at {g : Int} : ∀ {a b : List Int} {s : Int} {c : Int × Int}, WAll g c (a ++ s :: b) → WOk g (a.foldl (wstep g) c) s
  | [], _, _, _, h => h.1
  | _ :: a, _, _, _, h => WAll.at (a := a) h.2
noncomputable def valsKF (k f : Nat) : List Int := (toksKF k f).map (·.2)
theorem wok_op {g : Int} {c : Int × Int} {s : Int} (h : s < 256) : WOk g c s := ⟨fun e => absurd e (by (first | lia | omega)), fun e => absurd e (by (first | lia | omega))⟩
theorem wok_in {g : Int} {v k s : Int} {B : Nat} (hv : Bd B v) (hg : Bd B g) (hB : 4 ≤ B) (hB1 : B ≤ 1000000) (hs : s = 256 ∨ (256 < s ∧ s < 266)) (hk : k = 14 ∨ k = 15 ∨ k = 16 ∨ (k = 35 ∧ s = 258)) : WOk g (v, k) s := by
  have ho : Bd B (if s = 256 then g else s - 256) := by
    split
    · exact hg
    · exact (Bd.lt (k := 4) (by (first | lia | omega)) (by (first | lia | omega))).mono hB
  refine ⟨fun _ => mulOk hv ho (by (first | lia | omega)), fun _ h1 h2 h3 => ?_⟩
  dsimp only at h1 h2 h3
  obtain ⟨_, rfl⟩ : k = 35 ∧ s = 258 := by (first | lia | omega)
  have := hv.bits
  rw [if_neg (by decide)]
  dsimp only
  (first | lia | omega)
theorem work_step {g v : Int} {kd : Int} {B : Nat} (n : Int) (hv : Bd B v) (hg : Bd B g) (hB : 4 ≤ B) (hB1 : B ≤ 1000000) :
    WAll g (v, kd) ((toksN n).map (·.2)) ∧ (((toksN n).map (·.2)).foldl (wstep g) (v, kd)).1 = stepV g v n := by
  have hk := kOf_lt n
  have hf := fOf_lt n
  have ek : n % 8 = (kOf n : Int) := by unfold kOf; (first | lia | omega)
  have ef : n / 8 % 9 = (fOf n : Int) := by unfold fOf; (first | lia | omega)
  unfold stepV toksN
  rw [ek, ef]
  generalize kOf n = k at *
  generalize fOf n = f at *
  have hf1 : ¬ ((256 : Int) + ((f + 1 : Nat) : Int) = 256) := by (first | lia | omega)
  have hf2 : (256 : Int) ≤ 256 + ((f + 1 : Nat) : Int) := by (first | lia | omega)
  have hf3 : (256 : Int) + ((f + 1 : Nat) : Int) - 256 = (f : Int) + 1 := by (first | lia | omega)
  have hf4 : (256 : Int) ≤ 256 + ((f : Int) + 1) := by (first | lia | omega)
  have hf5 : ¬ (256 : Int) + ((f : Int) + 1) = 256 := by (first | lia | omega)
  have hf6 : (256 : Int) + ((f : Int) + 1) - 256 = (f : Int) + 1 := by (first | lia | omega)
  have : k = 0 ∨ k = 1 ∨ k = 2 ∨ k = 3 ∨ k = 4 ∨ k = 5 ∨ k = 6 ∨ k = 7 := by (first | lia | omega)
  rcases this with rfl | rfl | rfl | rfl | rfl | rfl | rfl | rfl
  · refine ⟨⟨wok_op (by decide), wok_in hv hg hB hB1 (by dsimp only; (first | lia | omega)) (by simp [wstep]), trivial⟩, ?_⟩
    simp only [toksKF, wstep, List.map_cons, List.map_nil, List.foldl_cons, List.foldl_nil]
    simp [hf4, hf5, hf6]
  · refine ⟨⟨wok_op (by decide), wok_in hv hg hB hB1 (by dsimp only; (first | lia | omega)) (by simp [wstep]), trivial⟩, ?_⟩
    simp only [toksKF, wstep, List.map_cons, List.map_nil, List.foldl_cons, List.foldl_nil]
    simp [hf4, hf5, hf6]
  · refine ⟨⟨wok_op (by decide), wok_in hv hg hB hB1 (by dsimp only; (first | lia | omega)) (by simp [wstep]), trivial⟩, ?_⟩
    simp only [toksKF, wstep, List.map_cons, List.map_nil, List.foldl_cons, List.foldl_nil]
    simp [hf4, hf5, hf6]
  · refine ⟨⟨wok_op (by decide), wok_in hv hg hB hB1 (by dsimp only; (first | lia | omega)) (by simp [wstep]), trivial⟩, ?_⟩
    simp [toksKF, wstep]
  · refine ⟨⟨wok_op (by decide), wok_in hv hg hB hB1 (by dsimp only; (first | lia | omega)) (by simp [wstep]), trivial⟩, ?_⟩
    simp [toksKF, wstep]
  · refine ⟨⟨wok_op (by decide), wok_in hv hg hB hB1 (by dsimp only; (first | lia | omega)) (by simp [wstep]), trivial⟩, ?_⟩
    simp [toksKF, wstep]
  · refine ⟨⟨wok_op (by decide), wok_in hv hg hB hB1 (by dsimp only; (first | lia | omega)) (by simp [wstep]), trivial⟩, ?_⟩
    simp [toksKF, wstep]
    first | grind | (rw [Int.pow_succ, Int.pow_succ, Int.pow_zero, Int.one_mul])
  · refine ⟨⟨wok_op (by decide), trivial⟩, ?_⟩
    simp [toksKF, wstep]
    unfold Builtin.bitNot
    (first | lia | omega)
theorem work_steps {g : Int} {Bg : Nat} (hg : Bd Bg g) (hBg : 4 ≤ Bg) : ∀ (ns : List Int) (v kd : Int) (B : Nat), Bd B v → Bg ≤ B → B * 2 ^ ns.length ≤ 1000000 →
    WAll g (v, kd) ((ns.flatMap toksN).map (·.2)) ∧ (((ns.flatMap toksN).map (·.2)).foldl (wstep g) (v, kd)).1 = ns.foldl (fun v n => stepV g v n) v
  | [], _, _, _, _, _, _ => ⟨trivial, rfl⟩
  | n :: r, v, kd, B, hv, hB, hB1 => by
    rw [List.length_cons, Nat.pow_succ] at hB1
    have hp : 1 ≤ 2 ^ r.length := Nat.one_le_two_pow
    have h2 : B * 2 * 2 ^ r.length ≤ 1000000 := by rw [Nat.mul_assoc, Nat.mul_comm 2]; exact hB1
    have h3 : B * 2 ≤ 1000000 := Nat.le_trans (Nat.le_mul_of_pos_right _ hp) h2
    obtain ⟨a, b⟩ := work_step (kd := kd) n hv (hg.mono hB) (by (first | lia | omega)) (by (first | lia | omega))
    have hb := stepV_bd (n := n) (hg.mono hB) hv (by (first | lia | omega))
    rw [List.flatMap_cons, List.map_append, List.foldl_append, List.foldl_cons]
    generalize hc : ((toksN n).map (·.2)).foldl (wstep g) (v, kd) = c at *
    obtain ⟨c1, c2⟩ := c
    dsimp only at b
    subst b
    obtain ⟨a', b'⟩ := work_steps hg hBg r _ c2 (B * 2) hb (by (first | lia | omega)) h2
    exact ⟨a.app (by rw [hc]; exact a'), b'⟩
theorem work_all {g : Int} {Bg : Nat} (ns : List Int) (hg : Bd Bg g) (hBg : 4 ≤ Bg) (hB1 : Bg * 2 * 2 ^ ns.length ≤ 1000000) :
    (work g ((toksOf ns).map (·.2))).1 = drawn ns g ∧ ∀ s1 s s2, (toksOf ns).map (·.2) = s1 ++ s :: s2 → WOk g (work g s1) s := by
  have h0 : wstep g (0, 14) 256 = (g, 14) := by simp [wstep]
  have hp : 1 ≤ 2 ^ ns.length := Nat.one_le_two_pow
  have h3 : Bg * 2 ≤ 1000000 := Nat.le_trans (Nat.le_mul_of_pos_right _ hp) hB1
  have hB2 : Bg * 2 ^ ns.length ≤ 1000000 := Nat.le_trans (Nat.mul_le_mul_right _ (by (first | lia | omega))) hB1
  obtain ⟨a, b⟩ := work_steps hg hBg ns g 14 Bg hg (Nat.le_refl _) hB2
  have hz : Bd Bg 0 := by unfold Bd; exact Nat.two_pow_pos _
  have hall : WAll g (0, 14) ((toksOf ns).map (·.2)) := ⟨wok_in hz hg hBg (by (first | lia | omega)) (.inl rfl) (.inl rfl), by rw [h0]; exact a⟩
  refine ⟨?_, fun s1 s s2 e => ?_⟩
  · unfold work toksOf
    rw [List.map_cons, List.foldl_cons, h0]
    exact b
  · rw [e] at hall
    exact hall.at
end Mine
-- part PL1
namespace Mine
structure M5 where
  (a00 a01 a02 a03 a04 a11 a12 a13 a14 a22 a23 a24 a33 a34 a44 : Int)
namespace M5
noncomputable def mul (A B : M5) : M5 where
  a00 := A.a00 * B.a00
  a01 := A.a00 * B.a01 + A.a01 * B.a11
  a02 := A.a00 * B.a02 + A.a01 * B.a12 + A.a02 * B.a22
  a03 := A.a00 * B.a03 + A.a01 * B.a13 + A.a02 * B.a23 + A.a03 * B.a33
  a04 := A.a00 * B.a04 + A.a01 * B.a14 + A.a02 * B.a24 + A.a03 * B.a34 + A.a04 * B.a44
  a11 := A.a11 * B.a11
  a12 := A.a11 * B.a12 + A.a12 * B.a22
  a13 := A.a11 * B.a13 + A.a12 * B.a23 + A.a13 * B.a33
  a14 := A.a11 * B.a14 + A.a12 * B.a24 + A.a13 * B.a34 + A.a14 * B.a44
  a22 := A.a22 * B.a22
  a23 := A.a22 * B.a23 + A.a23 * B.a33
  a24 := A.a22 * B.a24 + A.a23 * B.a34 + A.a24 * B.a44
  a33 := A.a33 * B.a33
  a34 := A.a33 * B.a34 + A.a34 * B.a44
  a44 := A.a44 * B.a44
/-- places -/
noncomputable def X (x0 x1 x2 x3 x4 : Int) : M5 := ⟨x0, 1, 0, 0, 0, x1, 1, 0, 0, x2, 1, 0, x3, 1, x4⟩
/-- k A + c -/
noncomputable def lin (k c : Int) (A : M5) : M5 :=
  ⟨k * A.a00 + c, k * A.a01, k * A.a02, k * A.a03, k * A.a04, k * A.a11 + c, k * A.a12, k * A.a13, k * A.a14, k * A.a22 + c, k * A.a23, k * A.a24, k * A.a33 + c, k * A.a34, k * A.a44 + c⟩
noncomputable def add (A B : M5) : M5 :=
  ⟨A.a00 + B.a00, A.a01 + B.a01, A.a02 + B.a02, A.a03 + B.a03, A.a04 + B.a04, A.a11 + B.a11, A.a12 + B.a12, A.a13 + B.a13, A.a14 + B.a14, A.a22 + B.a22, A.a23 + B.a23, A.a24 + B.a24, A.a33 + B.a33, A.a34 + B.a34, A.a44 + B.a44⟩
theorem mul_assoc (A B C : M5) : (A.mul B).mul C = A.mul (B.mul C) := by
  simp only [mul, M5.mk.injEq]
  refine ⟨?_, ?_, ?_, ?_, ?_, ?_, ?_, ?_, ?_, ?_, ?_, ?_, ?_, ?_, ?_⟩ <;> grind
theorem lin_mul (k c : Int) (A B : M5) : (lin k c A).mul B = add (lin k 0 (A.mul B)) (lin c 0 B) := by
  simp only [mul, lin, add, M5.mk.injEq]
  refine ⟨?_, ?_, ?_, ?_, ?_, ?_, ?_, ?_, ?_, ?_, ?_, ?_, ?_, ?_, ?_⟩ <;> grind
theorem mul_lin (k c : Int) (A B : M5) : B.mul (lin k c A) = add (lin k 0 (B.mul A)) (lin c 0 B) := by
  simp only [mul, lin, add, M5.mk.injEq]
  refine ⟨?_, ?_, ?_, ?_, ?_, ?_, ?_, ?_, ?_, ?_, ?_, ?_, ?_, ?_, ?_⟩ <;> grind
theorem add_mul (A B C : M5) : (add A B).mul C = add (A.mul C) (B.mul C) := by
  simp only [mul, add, M5.mk.injEq]
  refine ⟨?_, ?_, ?_, ?_, ?_, ?_, ?_, ?_, ?_, ?_, ?_, ?_, ?_, ?_, ?_⟩ <;> grind
theorem mul_add (A B C : M5) : A.mul (add B C) = add (A.mul B) (A.mul C) := by
  simp only [mul, add, M5.mk.injEq]
  refine ⟨?_, ?_, ?_, ?_, ?_, ?_, ?_, ?_, ?_, ?_, ?_, ?_, ?_, ?_, ?_⟩ <;> grind
/-- row 0 against the Newton vector -/
structure V5 where
  (v0 v1 v2 v3 v4 : Int)
noncomputable def app (A : M5) (v : V5) : V5 :=
  ⟨A.a00 * v.v0 + A.a01 * v.v1 + A.a02 * v.v2 + A.a03 * v.v3 + A.a04 * v.v4,
   A.a11 * v.v1 + A.a12 * v.v2 + A.a13 * v.v3 + A.a14 * v.v4,
   A.a22 * v.v2 + A.a23 * v.v3 + A.a24 * v.v4, A.a33 * v.v3 + A.a34 * v.v4, A.a44 * v.v4⟩
noncomputable def sc (c : Int) (v : V5) : V5 := ⟨c * v.v0, c * v.v1, c * v.v2, c * v.v3, c * v.v4⟩
theorem app_mul (A B : M5) (v : V5) : app (A.mul B) v = app A (app B v) := by
  simp only [mul, app, V5.mk.injEq]
  refine ⟨?_, ?_, ?_, ?_, ?_⟩ <;> grind
theorem app_sc (A : M5) (c : Int) (v : V5) : app A (sc c v) = sc c (app A v) := by
  simp only [sc, app, V5.mk.injEq]
  refine ⟨?_, ?_, ?_, ?_, ?_⟩ <;> grind
theorem sc_sc (a c : Int) (v : V5) : sc a (sc c v) = sc (c * a) v := by
  simp only [sc, V5.mk.injEq]
  refine ⟨?_, ?_, ?_, ?_, ?_⟩ <;> grind
theorem app_lin (k c a : Int) (A : M5) (v : V5) (h : app A v = sc a v) : app (lin k c A) v = sc (k * a + c) v := by
  simp only [lin, sc, app, V5.mk.injEq] at *
  grind
noncomputable def addV (u v : V5) : V5 := ⟨u.v0 + v.v0, u.v1 + v.v1, u.v2 + v.v2, u.v3 + v.v3, u.v4 + v.v4⟩
theorem app_addV (A B : M5) (v : V5) : app (add A B) v = addV (app A v) (app B v) := by
  simp only [add, addV, app, V5.mk.injEq]
  refine ⟨?_, ?_, ?_, ?_, ?_⟩ <;> grind
theorem sc_addV (a b : Int) (v : V5) : addV (sc a v) (sc b v) = sc (a + b) v := by
  simp only [sc, addV, V5.mk.injEq]
  refine ⟨?_, ?_, ?_, ?_, ?_⟩ <;> grind
theorem app_add (a b : Int) (A B : M5) (v : V5) (h : app A v = sc a v) (h' : app B v = sc b v) : app (add A B) v = sc (a + b) v := by
  rw [app_addV, h, h', sc_addV]
noncomputable def newt (x0 x1 x2 x3 x4 : Int) : V5 := ⟨1, x4 - x0, (x4 - x0) * (x4 - x1), (x4 - x0) * (x4 - x1) * (x4 - x2), (x4 - x0) * (x4 - x1) * (x4 - x2) * (x4 - x3)⟩
theorem app_X (x0 x1 x2 x3 x4 : Int) : app (X x0 x1 x2 x3 x4) (newt x0 x1 x2 x3 x4) = sc x4 (newt x0 x1 x2 x3 x4) := by
  simp only [X, newt, sc, app, V5.mk.injEq]
  refine ⟨?_, ?_, ?_, ?_, ?_⟩ <;> grind
noncomputable def diagIs (A : M5) (d0 d1 d2 d3 d4 : Int) : Prop := A.a00 = d0 ∧ A.a11 = d1 ∧ A.a22 = d2 ∧ A.a33 = d3 ∧ A.a44 = d4
/-- natAbs, shut -/
noncomputable def ab (x : Int) : Nat := x.natAbs
theorem ab_add (x y : Int) : ab (x + y) ≤ ab x + ab y := Int.natAbs_add_le x y
theorem ab_mul (x y : Int) : ab (x * y) = ab x * ab y := Int.natAbs_mul x y
/-- the small block's row sums -/
noncomputable def Le (N : Nat) (A : M5) : Prop :=
  ab A.a00 + ab A.a01 + ab A.a02 + ab A.a03 ≤ N ∧ ab A.a11 + ab A.a12 + ab A.a13 ≤ N ∧ ab A.a22 + ab A.a23 ≤ N ∧ ab A.a33 ≤ N
theorem Le.mul {M N : Nat} {A B : M5} (hA : Le M A) (hB : Le N B) : Le (M * N) (A.mul B) := by
  obtain ⟨a0, a1, a2, a3⟩ := hA
  obtain ⟨b0, b1, b2, b3⟩ := hB
  refine ⟨?_, ?_, ?_, ?_⟩
  · simp only [M5.mul]
    have e0 := Nat.mul_le_mul_left (ab A.a00) b0
    have e1 := Nat.mul_le_mul_left (ab A.a01) b1
    have e2 := Nat.mul_le_mul_left (ab A.a02) b2
    have e3 := Nat.mul_le_mul_left (ab A.a03) b3
    have e4 := Nat.mul_le_mul_right N a0
    have f1 := ab_add (A.a00 * B.a01) (A.a01 * B.a11)
    have f2 := ab_add (A.a00 * B.a02 + A.a01 * B.a12) (A.a02 * B.a22)
    have f2' := ab_add (A.a00 * B.a02) (A.a01 * B.a12)
    have f3 := ab_add (A.a00 * B.a03 + A.a01 * B.a13 + A.a02 * B.a23) (A.a03 * B.a33)
    have f3' := ab_add (A.a00 * B.a03 + A.a01 * B.a13) (A.a02 * B.a23)
    have f3'' := ab_add (A.a00 * B.a03) (A.a01 * B.a13)
    simp only [ab_mul, Nat.mul_add, Nat.add_mul] at *
    omega
  · simp only [M5.mul]
    have e1 := Nat.mul_le_mul_left (ab A.a11) b1
    have e2 := Nat.mul_le_mul_left (ab A.a12) b2
    have e3 := Nat.mul_le_mul_left (ab A.a13) b3
    have e4 := Nat.mul_le_mul_right N a1
    have f2 := ab_add (A.a11 * B.a12) (A.a12 * B.a22)
    have f3 := ab_add (A.a11 * B.a13 + A.a12 * B.a23) (A.a13 * B.a33)
    have f3' := ab_add (A.a11 * B.a13) (A.a12 * B.a23)
    simp only [ab_mul, Nat.mul_add, Nat.add_mul] at *
    omega
  · simp only [M5.mul]
    have e2 := Nat.mul_le_mul_left (ab A.a22) b2
    have e3 := Nat.mul_le_mul_left (ab A.a23) b3
    have e4 := Nat.mul_le_mul_right N a2
    have f3 := ab_add (A.a22 * B.a23) (A.a23 * B.a33)
    simp only [ab_mul, Nat.mul_add, Nat.add_mul] at *
    omega
  · simp only [M5.mul]
    rw [ab_mul]
    exact Nat.le_trans (Nat.mul_le_mul_left _ b3) (Nat.mul_le_mul_right _ a3)
theorem Le.add {M N : Nat} {A B : M5} (hA : Le M A) (hB : Le N B) : Le (M + N) (add A B) := by
  obtain ⟨a0, a1, a2, a3⟩ := hA
  obtain ⟨b0, b1, b2, b3⟩ := hB
  have t0 := ab_add A.a00 B.a00
  have t1 := ab_add A.a01 B.a01
  have t2 := ab_add A.a02 B.a02
  have t3 := ab_add A.a03 B.a03
  have t4 := ab_add A.a11 B.a11
  have t5 := ab_add A.a12 B.a12
  have t6 := ab_add A.a13 B.a13
  have t7 := ab_add A.a22 B.a22
  have t8 := ab_add A.a23 B.a23
  have t9 := ab_add A.a33 B.a33
  simp only [Le, M5.add]
  refine ⟨?_, ?_, ?_, ?_⟩ <;> omega
theorem Le.scal {N : Nat} {A : M5} (k : Int) (h : Le N A) : Le (ab k * N) (lin k 0 A) := by
  obtain ⟨a0, a1, a2, a3⟩ := h
  have e0 := Nat.mul_le_mul_left (ab k) a0
  have e1 := Nat.mul_le_mul_left (ab k) a1
  have e2 := Nat.mul_le_mul_left (ab k) a2
  have e3 := Nat.mul_le_mul_left (ab k) a3
  simp only [Nat.mul_add] at e0 e1 e2 e3
  simp only [Le, M5.lin, Int.add_zero, ab_mul]
  exact ⟨e0, e1, e2, e3⟩
theorem Le.plus {N : Nat} {A : M5} (c : Int) (h : Le N A) : Le (N + ab c) (lin 1 c A) := by
  obtain ⟨a0, a1, a2, a3⟩ := h
  have t0 := ab_add A.a00 c
  have t1 := ab_add A.a11 c
  have t2 := ab_add A.a22 c
  have t3 := ab_add A.a33 c
  simp only [Le, M5.lin, Int.one_mul]
  refine ⟨?_, ?_, ?_, ?_⟩ <;> omega
theorem Le.mono {M N : Nat} {A : M5} (h : Le M A) (hn : M ≤ N) : Le N A := ⟨Nat.le_trans h.1 hn, Nat.le_trans h.2.1 hn, Nat.le_trans h.2.2.1 hn, Nat.le_trans h.2.2.2 hn⟩

theorem comm_lin {P A : M5} (k c : Int) (h : P.mul A = A.mul P) : P.mul (lin k c A) = (lin k c A).mul P := by rw [mul_lin, lin_mul, h]
theorem comm_add {P A B : M5} (h : P.mul A = A.mul P) (h' : P.mul B = B.mul P) : P.mul (add A B) = (add A B).mul P := by rw [mul_add, add_mul, h, h']
theorem comm_mul {P A B : M5} (h : P.mul A = A.mul P) (h' : P.mul B = B.mul P) : P.mul (A.mul B) = (A.mul B).mul P := by
  rw [← mul_assoc, h, mul_assoc, h', ← mul_assoc]
end M5
open M5
/-- the same on matrices -/
noncomputable def stepM (P A : M5) (n : Int) : M5 :=
  if n % 8 = 6 then A.mul A
  else if n % 8 = 7 then lin (-1) (-1) A
  else if n % 8 = 0 then lin 1 (n / 8 % 9 + 1) A
  else if n % 8 = 1 then lin 1 (-(n / 8 % 9 + 1)) A
  else if n % 8 = 2 then lin (n / 8 % 9 + 1) 0 A
  else if n % 8 = 3 then add A P
  else if n % 8 = 4 then add A (lin (-1) 0 P)
  else A.mul P
structure Good (x0 x1 x2 x3 x4 : Int) (f : Int → Int) (N : Nat) (A : M5) : Prop where
  comm : (X x0 x1 x2 x3 x4).mul A = A.mul (X x0 x1 x2 x3 x4)
  diag : diagIs A (f x0) (f x1) (f x2) (f x3) (f x4)
  eig : app A (newt x0 x1 x2 x3 x4) = sc (f x4) (newt x0 x1 x2 x3 x4)
  le : Le N A
theorem Good.step {x0 x1 x2 x3 x4 : Int} {f : Int → Int} {N : Nat} {A : M5} (G : Good x0 x1 x2 x3 x4 f N A) (hX : Le 20 (X x0 x1 x2 x3 x4)) (hN : 20 ≤ N) (n : Int) :
    Good x0 x1 x2 x3 x4 (fun x => stepV x (f x) n) (N * N) (stepM (X x0 x1 x2 x3 x4) A n) := by
  obtain ⟨c, d, e, l⟩ := G
  have hN2 : 20 * N ≤ N * N := Nat.mul_le_mul_right _ hN
  have hf : 1 ≤ n / 8 % 9 + 1 ∧ n / 8 % 9 + 1 ≤ 9 := by (first | lia | omega)
  have hX0 := app_X x0 x1 x2 x3 x4
  simp only [stepV, stepM]
  by_cases h6 : n % 8 = 6
  · simp only [h6, if_true]
    refine ⟨comm_mul c c, ?_, ?_, l.mul l⟩
    · simp only [diagIs, M5.mul] at d ⊢; obtain ⟨d0, d1, d2, d3, d4⟩ := d; simp only [d0, d1, d2, d3, d4, and_self]
    · rw [app_mul, e, app_sc, e, sc_sc]
  by_cases h7 : n % 8 = 7
  · simp only [h7, if_true, show ¬ ((7 : Int) = 6) by decide, if_false]
    refine ⟨comm_lin _ _ c, ?_, ?_, ?_⟩
    · simp only [diagIs, M5.lin] at d ⊢; obtain ⟨d0, d1, d2, d3, d4⟩ := d; simp only [d0, d1, d2, d3, d4]; refine ⟨?_, ?_, ?_, ?_, ?_⟩ <;> (first | lia | omega)
    · rw [app_lin _ _ _ _ _ e]; congr 1; (first | lia | omega)
    · have e7 : lin (-1) (-1) A = lin 1 (-1) (lin (-1) 0 A) := by
        simp only [lin, M5.mk.injEq]
        refine ⟨?_, ?_, ?_, ?_, ?_, ?_, ?_, ?_, ?_, ?_, ?_, ?_, ?_, ?_, ?_⟩ <;> (first | lia | omega)
      rw [e7]
      exact ((l.scal (-1)).plus (-1)).mono (by have h1 : ab (-1) = 1 := rfl; rw [h1]; (first | lia | omega))
  by_cases h0 : n % 8 = 0
  · simp only [h0, if_true, show ¬ ((0 : Int) = 6) by decide, show ¬ ((0 : Int) = 7) by decide, if_false]
    refine ⟨comm_lin _ _ c, ?_, ?_, (l.plus _).mono (by unfold ab; (first | lia | omega))⟩
    · simp only [diagIs, M5.lin] at d ⊢; obtain ⟨d0, d1, d2, d3, d4⟩ := d; simp only [d0, d1, d2, d3, d4]; refine ⟨?_, ?_, ?_, ?_, ?_⟩ <;> (first | lia | omega)
    · rw [app_lin _ _ _ _ _ e]; congr 1; (first | lia | omega)
  by_cases h1 : n % 8 = 1
  · simp only [h1, if_true, show ¬ ((1 : Int) = 6) by decide, show ¬ ((1 : Int) = 7) by decide, show ¬ ((1 : Int) = 0) by decide, if_false]
    refine ⟨comm_lin _ _ c, ?_, ?_, (l.plus _).mono (by unfold ab; (first | lia | omega))⟩
    · simp only [diagIs, M5.lin] at d ⊢; obtain ⟨d0, d1, d2, d3, d4⟩ := d; simp only [d0, d1, d2, d3, d4]; refine ⟨?_, ?_, ?_, ?_, ?_⟩ <;> (first | lia | omega)
    · rw [app_lin _ _ _ _ _ e]; congr 1; (first | lia | omega)
  by_cases h2 : n % 8 = 2
  · simp only [h2, if_true, show ¬ ((2 : Int) = 6) by decide, show ¬ ((2 : Int) = 7) by decide, show ¬ ((2 : Int) = 0) by decide, show ¬ ((2 : Int) = 1) by decide, if_false]
    refine ⟨comm_lin _ _ c, ?_, ?_, (l.scal _).mono (Nat.le_trans (Nat.mul_le_mul_right N (show ab (n / 8 % 9 + 1) ≤ 20 by unfold ab; (first | lia | omega))) hN2)⟩
    · simp only [diagIs, M5.lin] at d ⊢; obtain ⟨d0, d1, d2, d3, d4⟩ := d; simp only [d0, d1, d2, d3, d4, Int.add_zero, Int.mul_comm, and_self]
    · rw [app_lin _ _ _ _ _ e, Int.add_zero, Int.mul_comm]
  by_cases h3 : n % 8 = 3
  · simp only [h3, if_true, show ¬ ((3 : Int) = 6) by decide, show ¬ ((3 : Int) = 7) by decide, show ¬ ((3 : Int) = 0) by decide, show ¬ ((3 : Int) = 1) by decide, show ¬ ((3 : Int) = 2) by decide, if_false]
    refine ⟨comm_add c rfl, ?_, ?_, (l.add hX).mono (by (first | lia | omega))⟩
    · simp only [diagIs, M5.add, X] at d ⊢; obtain ⟨d0, d1, d2, d3, d4⟩ := d; simp only [d0, d1, d2, d3, d4, and_self]
    · exact app_add _ _ _ _ _ e hX0
  by_cases h4 : n % 8 = 4
  · simp only [h4, if_true, show ¬ ((4 : Int) = 6) by decide, show ¬ ((4 : Int) = 7) by decide, show ¬ ((4 : Int) = 0) by decide, show ¬ ((4 : Int) = 1) by decide, show ¬ ((4 : Int) = 2) by decide, show ¬ ((4 : Int) = 3) by decide, if_false]
    refine ⟨comm_add c (comm_lin _ _ rfl), ?_, ?_, (l.add (hX.scal (-1))).mono (by have h1 : ab (-1) = 1 := rfl; rw [h1]; (first | lia | omega))⟩
    · simp only [diagIs, M5.add, M5.lin, X] at d ⊢; obtain ⟨d0, d1, d2, d3, d4⟩ := d; simp only [d0, d1, d2, d3, d4]; refine ⟨?_, ?_, ?_, ?_, ?_⟩ <;> (first | lia | omega)
    · rw [app_add _ _ _ _ _ e (app_lin _ _ _ _ _ hX0)]; congr 1; (first | lia | omega)
  · simp only [h6, h7, h0, h1, h2, h3, h4, if_false]
    refine ⟨comm_mul c rfl, ?_, ?_, (l.mul hX).mono (by rw [Nat.mul_comm]; exact hN2)⟩
    · simp only [diagIs, M5.mul, X] at d ⊢; obtain ⟨d0, d1, d2, d3, d4⟩ := d; simp only [d0, d1, d2, d3, d4, and_self]
    · rw [app_mul, hX0, app_sc, e, sc_sc]
theorem Good.start {x0 x1 x2 x3 x4 : Int} (hX : Le 20 (X x0 x1 x2 x3 x4)) : Good x0 x1 x2 x3 x4 (fun x => x) 20 (X x0 x1 x2 x3 x4) :=
  ⟨rfl, ⟨rfl, rfl, rfl, rfl, rfl⟩, app_X _ _ _ _ _, hX⟩
theorem good_of (n0 n1 n2 n3 : Int) {x0 x1 x2 x3 x4 : Int} (hX : Le 20 (X x0 x1 x2 x3 x4)) : ∃ A, Good x0 x1 x2 x3 x4 (drawn [n0, n1, n2, n3]) (20 ^ 16) A := by
  have g0 := Good.start hX
  have g1 := g0.step hX (by decide) n0
  have g2 := g1.step hX (by decide) n1
  have g3 := g2.step hX (by decide) n2
  have g4 := g3.step hX (by decide) n3
  exact ⟨_, g4.comm, g4.diag, g4.eig, g4.le.mono (by decide)⟩
theorem nearDiv_eq {c q d : Int} (h : 2 * c.natAbs < d.natAbs) : nearDiv (c + d * q) d = (q, c) := by
  have hd : d ≠ 0 := by rintro rfl; simp at h
  unfold nearDiv
  rw [Int.add_mul_fdiv_left _ _ hd, Int.add_mul_fmod_self_left]
  rcases Int.lt_or_gt_of_ne hd with hn | hp
  · rcases Int.lt_or_le 0 c with hc | hc
    · have e : c.fmod d = c + d := by
        have := Int.add_mul_fmod_self_left (c + d) d (-1)
        rw [show c + d + d * -1 = c by omega] at this
        rw [this]
        rw [← Int.neg_neg (c + d), ← Int.neg_neg d, Int.neg_fmod_neg, Int.fmod_eq_of_lt (by omega) (by omega)] 
      have e2 : c.fdiv d = -1 := by
        have := Int.mul_fdiv_add_fmod c d
        have h1 : d * c.fdiv d = d * -1 := by omega
        exact Int.eq_of_mul_eq_mul_left hd h1
      rw [e, e2, if_pos (by omega)]
      refine Prod.ext ?_ ?_ <;> simp only <;> omega
    · have e : c.fmod d = c := by
        rw [← Int.neg_neg c, ← Int.neg_neg d, Int.neg_fmod_neg, Int.fmod_eq_of_lt (by omega) (by omega)]
      have e2 : c.fdiv d = 0 := by
        have := Int.mul_fdiv_add_fmod c d
        have h1 : d * c.fdiv d = d * 0 := by omega
        exact Int.eq_of_mul_eq_mul_left hd h1
      rw [e, e2, if_neg (by omega)]
      refine Prod.ext ?_ ?_ <;> simp only <;> omega
  · rcases Int.lt_or_le c 0 with hc | hc
    · have e : c.fmod d = c + d := by
        have := Int.add_mul_fmod_self_left (c + d) d (-1)
        rw [show c + d + d * -1 = c by omega] at this
        rw [this, Int.fmod_eq_of_lt (by omega) (by omega)] 
      have e2 : c.fdiv d = -1 := by
        have := Int.mul_fdiv_add_fmod c d
        have h1 : d * c.fdiv d = d * -1 := by omega
        exact Int.eq_of_mul_eq_mul_left hd h1
      rw [e, e2, if_pos (by omega)]
      refine Prod.ext ?_ ?_ <;> simp only <;> omega
    · have e : c.fmod d = c := Int.fmod_eq_of_lt (by omega) (by omega)
      have e2 : c.fdiv d = 0 := by
        have := Int.mul_fdiv_add_fmod c d
        have h1 : d * c.fdiv d = d * 0 := by omega
        exact Int.eq_of_mul_eq_mul_left hd h1
      rw [e, e2, if_neg (by omega)]
      refine Prod.ext ?_ ?_ <;> simp only <;> omega
theorem quot_eq {t x y a b : Int} (hne : y ≠ x) (h : t * y - x * t = a - b) : (a - b).fdiv (y - x) = t := by
  rw [← h, show t * y - x * t = t * (y - x) by grind]
  exact Int.mul_fdiv_cancel _ (by (first | lia | omega))
theorem small_of {a x0 x4 : Int} {N M F : Nat} (ha : ab a ≤ N) (hN : N < M) (hM : M * 2 + 20 ≤ F) (hx : x0.natAbs ≤ 19) (h4 : F ≤ x4.natAbs) : 2 * a.natAbs < (x4 - x0).natAbs := by
  unfold ab at ha
  omega
theorem le_X {x0 x1 x2 x3 x4 : Int} (b0 : x0.natAbs ≤ 19) (b1 : x1.natAbs ≤ 19) (b2 : x2.natAbs ≤ 19) (b3 : x3.natAbs ≤ 19) : Le 20 (X x0 x1 x2 x3 x4) := by
  have a0 : ab 0 = 0 := rfl
  have a1 : ab 1 = 1 := rfl
  simp only [Le, X, a0, a1]
  unfold ab
  refine ⟨?_, ?_, ?_, ?_⟩ <;> (first | lia | omega)
theorem row_of {A : M5} {N : Nat} (h : Le N A) : ab A.a00 ≤ N ∧ ab A.a01 ≤ N ∧ ab A.a02 ≤ N ∧ ab A.a03 ≤ N := by
  have h := h.1
  refine ⟨?_, ?_, ?_, ?_⟩ <;> (first | lia | omega)
theorem near_far {x x4 : Int} {F : Nat} (hF : 20 ≤ F) (hx : x.natAbs ≤ 19) (h4 : F ≤ x4.natAbs) : x4 ≠ x := by (first | lia | omega)
theorem told_eq (n0 n1 n2 n3 : Int) {x0 x1 x2 x3 x4 : Int} (b0 : x0.natAbs ≤ 19) (b1 : x1.natAbs ≤ 19) (b2 : x2.natAbs ≤ 19) (b3 : x3.natAbs ≤ 19) (hfar : 2 ^ 128 ≤ x4.natAbs)
    (h01 : x1 ≠ x0) (h02 : x2 ≠ x0) (h03 : x3 ≠ x0) (h12 : x2 ≠ x1) (h13 : x3 ≠ x1) (h23 : x3 ≠ x2) :
    ∃ c0 c1 c2 c3 c4 d12 d23 d34 d13 d24 d14 : Int,
      (rloop (drawn [n0, n1, n2, n3] x4) [x4 - x0, x4 - x1, x4 - x2, x4 - x3]).2 ++ [(rloop (drawn [n0, n1, n2, n3] x4) [x4 - x0, x4 - x1, x4 - x2, x4 - x3]).1] = [c0, c1, c2, c3, c4] ∧
      drawn [n0, n1, n2, n3] x0 = c0 ∧
      (drawn [n0, n1, n2, n3] x1 - drawn [n0, n1, n2, n3] x0).fdiv (x1 - x0) = c1 ∧
      (drawn [n0, n1, n2, n3] x2 - drawn [n0, n1, n2, n3] x1).fdiv (x2 - x1) = d12 ∧
      (drawn [n0, n1, n2, n3] x3 - drawn [n0, n1, n2, n3] x2).fdiv (x3 - x2) = d23 ∧
      (drawn [n0, n1, n2, n3] x4 - drawn [n0, n1, n2, n3] x3).fdiv (x4 - x3) = d34 ∧
      (d12 - c1).fdiv (x2 - x0) = c2 ∧ (d23 - d12).fdiv (x3 - x1) = d13 ∧ (d34 - d23).fdiv (x4 - x2) = d24 ∧
      (d13 - c2).fdiv (x3 - x0) = c3 ∧ (d24 - d13).fdiv (x4 - x1) = d14 ∧ (d14 - c3).fdiv (x4 - x0) = c4 := by
  obtain ⟨A, hc, ⟨d0, d1, d2, d3, d4⟩, he, hl⟩ := good_of n0 n1 n2 n3 (le_X (x4 := x4) b0 b1 b2 b3)
  have hbig : (20 : Nat) ^ 16 < 2 ^ 70 := by decide
  have hbig2 : (2 : Nat) ^ 70 * 2 + 20 ≤ 2 ^ 128 := by decide
  have hF20 : 20 ≤ (2 : Nat) ^ 128 := by decide
  obtain ⟨r0, r1, r2, r3⟩ := row_of hl
  have q0 := small_of r0 hbig hbig2 b0 hfar
  have q1 := small_of r1 hbig hbig2 b1 hfar
  have q2 := small_of r2 hbig hbig2 b2 hfar
  have q3 := small_of r3 hbig hbig2 b3 hfar
  have k0 := near_far hF20 b0 hfar
  have k1 := near_far hF20 b1 hfar
  have k2 := near_far hF20 b2 hfar
  have k3 := near_far hF20 b3 hfar
  clear hbig hbig2 hF20 r0 r1 r2 r3 hl hfar b0 b1 b2 b3
  simp only [M5.mul, X, M5.mk.injEq] at hc
  obtain ⟨_, e01, e02, e03, e04, _, e12, e13, e14, _, e23, e24, _, e34, _⟩ := hc
  refine ⟨A.a00, A.a01, A.a02, A.a03, A.a04, A.a12, A.a23, A.a34, A.a13, A.a24, A.a14, ?_, d0.symm, ?_, ?_, ?_, ?_, ?_, ?_, ?_, ?_, ?_, ?_⟩
  · have hv : drawn [n0, n1, n2, n3] x4 = A.a00 + (x4 - x0) * (A.a01 + (x4 - x1) * (A.a02 + (x4 - x2) * (A.a03 + (x4 - x3) * A.a04))) := by
      simp only [app, sc, newt, V5.mk.injEq] at he
      have := he.1
      grind
    rw [hv]
    simp only [rloop, List.foldl_cons, List.foldl_nil, rstep]
    rw [nearDiv_eq q0]
    simp only
    rw [nearDiv_eq q1]
    simp only
    rw [nearDiv_eq q2]
    simp only
    rw [nearDiv_eq q3]
    rfl
  · rw [← d0, ← d1]; exact quot_eq h01 (by (first | lia | omega))
  · rw [← d1, ← d2]; exact quot_eq h12 (by (first | lia | omega))
  · rw [← d2, ← d3]; exact quot_eq h23 (by (first | lia | omega))
  · rw [← d3, ← d4]; exact quot_eq k3 (by (first | lia | omega))
  · exact quot_eq h02 (by (first | lia | omega))
  · exact quot_eq h13 (by (first | lia | omega))
  · exact quot_eq k2 (by (first | lia | omega))
  · exact quot_eq h03 (by (first | lia | omega))
  · exact quot_eq k1 (by (first | lia | omega))
  · exact quot_eq k0 (by (first | lia | omega))
end Mine
-- part TL
namespace Mine
open PySem.Builtin PySem.Builtin.Str
theorem str_ext {a b : Str} (h : a.cps.toList = b.cps.toList) : a = b := by
  cases a; cases b
  exact congrArg Str.mk (Array.toList_inj.mp h)
theorem cps_app (a b : Str) : (a ++ b).cps.toList = a.cps.toList ++ b.cps.toList := by
  show (a.cps ++ b.cps).toList = _
  simp
theorem len_cps (a : Str) : a.length = a.cps.toList.length := by
  show a.cps.size = _
  simp
theorem len_app (a b : Str) : (a ++ b).length = a.length + b.length := by
  rw [len_cps, len_cps, len_cps, cps_app, List.length_append]
noncomputable def bodyF (ns : List Int) : Str := ⟨(flat (ns.flatMap toksN)).toArray⟩
noncomputable def formS (ns : List Int) : Str := ⟨(flat (toksOf ns)).toArray⟩
theorem join_steps (n0 n1 n2 n3 : Int) : Txt.join (Str.ofString "") [stepS n0, stepS n1, stepS n2, stepS n3] = bodyF [n0, n1, n2, n3] := by
  apply str_ext
  have e : Txt.join (Str.ofString "") [stepS n0, stepS n1, stepS n2, stepS n3] = Str.join (Str.ofString "") [stepS n0, stepS n1, stepS n2, stepS n3] := StrLaws.glued_eq_join _ _
  rw [e]
  have e0 : (Str.ofString "").cps.toList = [] := by decide +kernel
  simp only [Str.join, cps_app, e0, List.append_nil, stepS_cps]
  unfold bodyF
  simp only [List.flatMap_cons, List.flatMap_nil, List.append_nil, flat_app, List.append_assoc]
theorem quote_body (ns : List Int) : Str.ofString "\"" ++ bodyF ns = formS ns := by
  apply str_ext
  rw [cps_app, show (Str.ofString "\"").cps.toList = [34] by decide +kernel]
  rfl
theorem body_len (ns : List Int) : (bodyF ns).length ≤ 3 * ns.length := by
  rw [len_cps]
  show (flat (ns.flatMap toksN)).length ≤ _
  induction ns with
  | nil => exact Nat.le_refl _
  | cons n r ih =>
    rw [List.flatMap_cons, flat_app, List.length_append, List.length_cons]
    have := (toksN_len n).2
    (first | lia | omega)
theorem form_len (ns : List Int) : (formS ns).length ≤ 3 * ns.length + 1 := by
  rw [← quote_body, len_app, show (Str.ofString "\"").length = 1 by decide +kernel]
  have := body_len ns
  (first | lia | omega)
theorem toks_len (ns : List Int) : (toksOf ns).length ≤ 2 * ns.length + 1 := by
  unfold toksOf
  rw [List.length_cons]
  suffices h : (ns.flatMap toksN).length ≤ 2 * ns.length by (first | lia | omega)
  induction ns with
  | nil => exact Nat.le_refl _
  | cons n r ih =>
    rw [List.flatMap_cons, List.length_append, List.length_cons]
    have := (toksN_len n).1
    (first | lia | omega)
noncomputable def nameX (ns : List Int) : Str := Str.ofString "257 \"" ++ Txt.replace (formS ns) (Str.ofString "\"") (Str.ofString "\"\"") ++ Str.ofString "\" is the formula"
theorem name_cps (ns : List Int) : (nameX ns).cps.toList = [50, 53, 55, 32, 34] ++ (StrLaws.dbl 34 (flat (toksOf ns)) ++ 34 :: 32 :: (Str.ofString "is the formula").cps.toList) := by
  unfold nameX
  rw [cps_app, cps_app, replace_dbl (formS ns) _ _ 34 (by decide +kernel) (by decide +kernel)]
  rw [show (Str.ofString "257 \"").cps.toList = [50, 53, 55, 32, 34] by decide +kernel, show (Str.ofString "\" is the formula").cps.toList = 34 :: 32 :: (Str.ofString "is the formula").cps.toList by decide +kernel, List.append_assoc]
  rfl
theorem dbl_len2 (f : List Nat) : (StrLaws.dbl 34 f).length ≤ 2 * f.length := by
  induction f with
  | nil => exact Nat.le_refl _
  | cons k r ih =>
    unfold StrLaws.dbl
    split <;> simp only [List.length_cons] <;> (first | lia | omega)
theorem name_len (ns : List Int) : (nameX ns).length ≤ 6 * ns.length + 40 := by
  rw [len_cps, name_cps]
  have h1 := dbl_len2 (flat (toksOf ns))
  have h2 := form_len ns
  rw [len_cps] at h2
  have h3 : (flat (toksOf ns)).length ≤ 3 * ns.length + 1 := h2
  have h4 : (Str.ofString "is the formula").cps.toList.length = 14 := by decide +kernel
  simp only [List.length_append, List.length_cons, List.length_nil, h4]
  (first | lia | omega)
theorem slice_pre {x : Str} {a b : List Nat} {j : Int} (hx : x.cps.toList = a ++ b) (hj : j = a.length) : Txt.slice x none (some j) = ⟨a.toArray⟩ := by
  have hl : x.length = a.length + b.length := by rw [len_cps, hx, List.length_append]
  have e := eq_of_beq (slice_closes_toL (x := x) (j := j) (by (first | lia | omega)) (by (first | lia | omega)))
  rw [e, hx]
  show (⟨(List.take (j - 0).toNat (List.drop 0 (a ++ b))).toArray⟩ : Str) = _
  rw [List.drop_zero, show (j - 0).toNat = a.length by (first | lia | omega), List.take_left]
theorem name_s1 (ns : List Int) : Txt.slice (nameX ns) none (some 3) = Str.ofString "257" := by
  have h := name_cps ns
  rw [slice_pre (j := 3) (a := [50, 53, 55]) (b := [32, 34] ++ (StrLaws.dbl 34 (flat (toksOf ns)) ++ 34 :: 32 :: (Str.ofString "is the formula").cps.toList)) (by rw [h]; rfl) rfl]
  decide +kernel
theorem name_s2 (ns : List Int) : Txt.slice (nameX ns) (some 3) (some 5) = Str.ofString " \"" := by
  have h := name_cps ns
  rw [slice_mid (k := 2) (i := 3) (j := 5) (a := [50, 53, 55]) (b := [32, 34] ++ (StrLaws.dbl 34 (flat (toksOf ns)) ++ 34 :: 32 :: (Str.ofString "is the formula").cps.toList)) (by rw [h]; rfl) rfl rfl]
  show (⟨[32, 34].toArray⟩ : Str) = _
  decide +kernel
/-- the name told back -/
theorem d107n (w : World) (ns : List Int) (tx : Tok) (rest : List (Addr × Obj)) (hn : ns.length ≤ 4) :
    Ctr w 107 [.str (nameX ns) tx] 5 100 rest (fun o led' => ∃ t, o = .str (formS ns) t ∧ led' = rest) :=
  d107 w (nameX ns) [50, 53, 55, 32, 34] (flat (toksOf ns)) (Str.ofString "is the formula").cps.toList tx rest (name_cps ns) rfl (by have := name_len ns; (first | lia | omega)) (name_s1 ns) (name_s2 ns)
theorem d138n (w : World) (ns : List Int) (tx : Tok) (rest : List (Addr × Obj)) (hn : ns.length ≤ 4) :
    Ctr w 138 [.str (formS ns) tx] 5 100 rest (fun o led' => ∃ D vs n, o = .ref D ∧ IntsAre vs ((toksOf ns).map (·.2)) ∧ (∀ p ∈ rest, p.1 ≠ D) ∧ led' = (D, listOf vs.toArray n) :: rest) :=
  d138 w (formS ns) (toksOf ns) tx rest rfl (toksOf_ok ns) (by have := form_len ns; (first | lia | omega)) (by have := toks_len ns; (first | lia | omega))
theorem d100n (w : World) (k : Nat) (p : Int) (hst : Str) (tx th tp : Tok) (lp : Addr) (np : Nat) (rest : List (Addr × Obj)) (hk : k < 6) (h0 : -16 ≤ p) (h1 : p < 20) (hl : (lp, listOf #[.str hst th, .int 21 tp] np) ∈ rest) :
    Ctr w 100 [.str (replyS k p) tx, .ref lp] 5 100 rest (fun o led' => ∃ D t0 t1, o = .ref D ∧ led' = (D, pairObj (.str hst t0) (.int p t1)) :: rest) :=
  d100 w (replyS k p) hst _ _ _ _ p tx th tp lp np rest (reply_of hk h0 h1) hl
theorem mark_item (n : Int) : Txt.item (Str.ofString "|!*~/:") ((n.fdiv 4).fmod 6) = markS ((n.fdiv 4).fmod 6).toNat ∧ 0 ≤ (n.fdiv 4).fmod 6 ∧ (n.fdiv 4).fmod 6 < 6 := by
  have h0 := Int.fmod_nonneg_of_pos (n.fdiv 4) (b := 6) (by decide)
  have h1 := Int.fmod_lt_of_pos (n.fdiv 4) (b := 6) (by decide)
  refine ⟨?_, h0, h1⟩
  generalize (n.fdiv 4).fmod 6 = i at *
  have : i = 0 ∨ i = 1 ∨ i = 2 ∨ i = 3 ∨ i = 4 ∨ i = 5 := by (first | lia | omega)
  rcases this with rfl | rfl | rfl | rfl | rfl | rfl <;> decide +kernel
theorem mark_len {k : Nat} (hk : k < 6) : (markS k).length = 1 := by
  have : k = 0 ∨ k = 1 ∨ k = 2 ∨ k = 3 ∨ k = 4 ∨ k = 5 := by (first | lia | omega)
  rcases this with rfl | rfl | rfl | rfl | rfl | rfl <;> decide +kernel
theorem mul_len {k : Nat} (hk : k < 6) : (Txt.mul (markS k) 3).length = 3 := by
  have : k = 0 ∨ k = 1 ∨ k = 2 ∨ k = 3 ∨ k = 4 ∨ k = 5 := by (first | lia | omega)
  rcases this with rfl | rfl | rfl | rfl | rfl | rfl <;> decide +kernel
theorem port_len {p : Int} (h0 : -16 ≤ p) (h1 : p < 20) : (Str.ofString (toString p)).length ≤ 40 := (reply_of (k := 0) (by decide) h0 h1).lp
theorem port_facts {n c : Int} {i : Nat} (hi : i < 4) (h : 4 * (n.fmod 9 - 4) + (i : Int) = c) : -16 ≤ c ∧ c < 20 ∧ c % 4 = i := by
  have h0 := Int.fmod_nonneg_of_pos n (b := 9) (by decide)
  have h1 := Int.fmod_lt_of_pos n (b := 9) (by decide)
  (first | lia | omega)
/-- the far place's power -/
theorem far_facts (n : Int) : ∃ (e : Nat) (f : Int), (2 : Int) ^ (128 + 4000 * ((n.fdiv 2).fmod 2)).toNat * (1 - 2 * (n.fmod 2)) = f ∧ f.natAbs = 2 ^ e ∧ 128 ≤ e ∧ e ≤ 4128 ∧ 0 ≤ 128 + 4000 * ((n.fdiv 2).fmod 2) ∧ 128 + 4000 * ((n.fdiv 2).fmod 2) ≤ 4128 := by
  have h0 := Int.fmod_nonneg_of_pos (n.fdiv 2) (b := 2) (by decide)
  have h1 := Int.fmod_lt_of_pos (n.fdiv 2) (b := 2) (by decide)
  have g0 := Int.fmod_nonneg_of_pos n (b := 2) (by decide)
  have g1 := Int.fmod_lt_of_pos n (b := 2) (by decide)
  generalize (n.fdiv 2).fmod 2 = a at *
  generalize n.fmod 2 = b at *
  refine ⟨(128 + 4000 * a).toNat, _, rfl, ?_, by (first | lia | omega), by (first | lia | omega), by (first | lia | omega), by (first | lia | omega)⟩
  rw [Int.natAbs_mul, Int.natAbs_pow, show (1 - 2 * b).natAbs = 1 by (first | lia | omega), Nat.mul_one]
  rfl
end Mine
-- part TM
namespace Mine
theorem cl_quote {ns : List Int} (h : ns.length ≤ 4) : (Str.ofString "\"").length + (bodyF ns).length ≤ 100000 := by
  have := body_len ns
  have e : (Str.ofString "\"").length = 1 := by decide +kernel
  (first | lia | omega)
theorem repl_len {ns : List Int} (h : ns.length ≤ 4) : (Txt.replace (formS ns) (Str.ofString "\"") (Str.ofString "\"\"")).length ≤ 100 := by
  have h2 := name_len ns
  unfold nameX at h2
  rw [len_app, len_app] at h2
  (first | lia | omega)
theorem cl_name1 {ns : List Int} (h : ns.length ≤ 4) : (Str.ofString "257 \"").length + (Txt.replace (formS ns) (Str.ofString "\"") (Str.ofString "\"\"")).length ≤ 100000 := by
  have := repl_len h
  have e : (Str.ofString "257 \"").length = 5 := by decide +kernel
  (first | lia | omega)
theorem cl_name2 {ns : List Int} (h : ns.length ≤ 4) : (Str.ofString "257 \"" ++ Txt.replace (formS ns) (Str.ofString "\"") (Str.ofString "\"\"")).length + (Str.ofString "\" is the formula").length ≤ 100000 := by
  have := repl_len h
  have e : (Str.ofString "257 \"").length = 5 := by decide +kernel
  have e2 : (Str.ofString "\" is the formula").length = 16 := by decide +kernel
  rw [len_app]
  (first | lia | omega)
theorem cl_r1 {k : Nat} (hk : k < 6) : (Str.ofString "229 at (").length + (Txt.mul (markS k) 3).length ≤ 100000 := by
  have e : (Str.ofString "229 at (").length = 8 := by decide +kernel
  rw [mul_len hk]
  (first | lia | omega)
theorem cl_r2 {k : Nat} {p : Int} (hk : k < 6) (h : -16 ≤ p ∧ p < 20) : (Str.ofString "229 at (" ++ Txt.mul (markS k) 3).length + (Str.ofString (toString p)).length ≤ 100000 := by
  have e : (Str.ofString "229 at (").length = 8 := by decide +kernel
  have := port_len h.1 h.2
  rw [len_app, mul_len hk]
  (first | lia | omega)
theorem cl_r3 {k : Nat} {p : Int} (hk : k < 6) (h : -16 ≤ p ∧ p < 20) : (Str.ofString "229 at (" ++ Txt.mul (markS k) 3 ++ Str.ofString (toString p)).length + (markS k).length ≤ 100000 := by
  have e : (Str.ofString "229 at (").length = 8 := by decide +kernel
  have := port_len h.1 h.2
  rw [len_app, len_app, mul_len hk, mark_len hk]
  (first | lia | omega)
theorem cl_r4 {k : Nat} {p : Int} (hk : k < 6) (h : -16 ≤ p ∧ p < 20) : (Str.ofString "229 at (" ++ Txt.mul (markS k) 3 ++ Str.ofString (toString p) ++ markS k).length + (Str.ofString ")").length ≤ 100000 := by
  have e : (Str.ofString "229 at (").length = 8 := by decide +kernel
  have e2 : (Str.ofString ")").length = 1 := by decide +kernel
  have := port_len h.1 h.2
  rw [len_app, len_app, len_app, mul_len hk, mark_len hk]
  (first | lia | omega)
theorem mark_k (n : Int) : ((n.fdiv 4).fmod 6).toNat < 6 := by
  have h := mark_item n
  omega
theorem step_len (n : Int) : (stepS n).length ≤ 3 := by
  rw [len_cps, stepS_cps]
  exact (toksN_len n).2
theorem far_mul (n : Int) : IntMulOk ((2 : Int) ^ (128 + 4000 * ((n.fdiv 2).fmod 2)).toNat) (1 - 2 * (n.fmod 2)) := by
  obtain ⟨e, f, _, _, _, _, h0, h1⟩ := far_facts n
  have g0 := Int.fmod_nonneg_of_pos n (b := 2) (by decide)
  have g1 := Int.fmod_lt_of_pos n (b := 2) (by decide)
  exact mulOk (Bd.pow _) (k := 4) (by unfold Bd; (first | lia | omega)) (by (first | lia | omega))
theorem far_lo (n : Int) : 0 ≤ 128 + 4000 * ((n.fdiv 2).fmod 2) := (far_facts n).choose_spec.choose_spec.2.2.2.2.1
theorem far_hi (n : Int) : 128 + 4000 * ((n.fdiv 2).fmod 2) ≤ 1000000 := by
  obtain ⟨e, f, _, _, _, _, h0, h1⟩ := far_facts n
  (first | lia | omega)
section
open PySem.Calls PySem.Spec
variable {prog : Program} {w : World} {A : Around} {E : Value → Shared → Prop} {s : Shared} {h₀ : Heap} {L l : Addr} {m : Str → Option Value} {news : List (Addr × Obj)} {n : Nat}
theorem my_join4 {Q : Value → Shared → Prop} {n0 n1 n2 n3 : Int} {t t0 t1 t2 t3 : Tok} (N : News h₀ L s.heap news) (hm : (l, listOf #[.str (stepS n0) t0, .str (stepS n1) t1, .str (stepS n2) t2, .str (stepS n3) t3] n) ∈ news)
    (h : ∀ t' k, Q (.str (bodyF [n0, n1, n2, n3]) t') { s with toks := k }) : wpAny (model prog w) A (call (.builtin "str.join") [.str (Str.ofString "") t, .ref l]) Q E s := by
  refine join_listW (ys := [stepS n0, stepS n1, stepS n2, stepS n3]) ⟨_, (N _ hm).1, rfl, _, rfl⟩ (.cons _ _ (.cons _ _ (.cons _ _ (.cons _ _ .nil)))) (by decide +kernel) ?_ fun t' k => by rw [join_steps]; exact h t' k
  have := step_len n0
  have := step_len n1
  have := step_len n2
  have := step_len n3
  simp only [List.map_cons, List.map_nil, List.sum_cons, List.sum_nil, List.length_cons, List.length_nil]
  (first | lia | omega)
theorem tx_mul3 {Q : Value → Shared → Prop} {k : Nat} {t u : Tok} (hk : k < 6) (h : ∀ t' k', Q (.str (Txt.mul (markS k) 3) t') { s with toks := k' }) : wpAny (model prog w) A (binaryOp .Mult (.int 3 u) (.str (markS k) t)) Q E s := by
  have hl := mark_len hk
  have hb : ¬ (3 : Int) < 1 → ((3 : Int) == 1 || (markS k).length == 0) = false → ¬ (((markS k).length : Int) > (2 ^ 63 - 1) / 3) := fun _ _ => by rw [hl]; decide
  have hlong : ¬ (3 : Int) < 1 → ((3 : Int) == 1 || (markS k).length == 0) = false → Builtin.Str.tooLong ((markS k).length * (3 : Int).toNat) = false := fun _ _ => by
    rw [hl]
    unfold Builtin.Str.tooLong
    rw [sizeLine_eq]
    decide
  refine lm_binaryOp_repeat_right (T := "str") (U := "int") (by decide) (fun s' => typeIs_int s' 3 u) (typeIs_str s _ t) F.fills_int_mul noFill_str_mul F.slot_int_mul lm_noRepeat_int repeat_str F.slot_int_index.lookup
    (call_gives F.slot_int_mul (typeIs_int s 3 u) F.entry_int_mul (F.args_int_mul_2 _ _) (AutoIntG3.int___mul___int_str_0 3 u _ t) ⟨rfl, typeIs_str _ _ _, call_gives F.slot_str_mul (typeIs_str s _ t) F.entry_str_mul (F.args_str_mul_2 _ _) (gives_str_mul _ 3 t u (by decide) hb hlong) ?_⟩)
  have h1 : ¬ (3 : Int) < 1 := by decide
  unfold Txt.mul at h
  rw [if_neg h1] at h ⊢
  exact post_val_or_made (fun hc => fits_reps (hlong h1 (by simpa using hc))) fun t' k' => h t' k'
theorem tx_mark {value slice : PySem.Expr} {Q : Value → Shared → Prop} {c : Int} {t u : Tok} (h : ∀ k, k < 6 → Q (.str (markS k) s.toks) { s with toks := s.toks + 1 })
    (hs : subscripted slice false (.str (Str.ofString "|!*~/:") t) (.int ((c.fdiv 4).fmod 6) u) = operate [.str (Str.ofString "|!*~/:") t, .int ((c.fdiv 4).fmod 6) u] (getItem (.str (Str.ofString "|!*~/:") t) (.int ((c.fdiv 4).fmod 6) u)) := by with_unfolding_all rfl)
    (ht : ∀ r, letTemporaryGo value (.str (Str.ofString "|!*~/:") t) r = pure () := by intro _; with_unfolding_all rfl) :
    wpAny (model prog w) A (subscriptTail value slice (.str (Str.ofString "|!*~/:") t) (.int ((c.fdiv 4).fmod 6) u)) Q E s := by
  obtain ⟨e, h0, h1⟩ := mark_item c
  have el : (Str.ofString "|!*~/:").length = 6 := by decide +kernel
  exact tx_item h0 (by rw [el]; exact h1) (by rw [el]; decide) e (h _ (mark_k c)) hs ht
theorem tx_far {Q : Value → Shared → Prop} {c : Int} {t u : Tok} (h : ∀ (e : Nat) (f : Int), f.natAbs = 2 ^ e → 128 ≤ e → e ≤ 4128 → Q (.int f s.toks) { s with toks := s.toks + 1 }) :
    wpAny (model prog w) A (binaryOp .Mult (.int ((2 : Int) ^ (128 + 4000 * ((c.fdiv 2).fmod 2)).toNat) t) (.int (1 - 2 * (c.fmod 2)) u)) Q E s := by
  obtain ⟨e, f, hf, h1, h2, h3, _, _⟩ := far_facts c
  refine mul_int ?_ (far_mul c)
  rw [hf]
  exact h e f h1 h2 h3
theorem tx_pow {Q : Value → Shared → Prop} {c : Int} {t u : Tok} (h : Q (.int ((2 : Int) ^ (128 + 4000 * ((c.fdiv 2).fmod 2)).toNat) s.toks) { s with toks := s.toks + 1 }) :
    wpAny (model prog w) A (binaryOp .Pow (.int 2 t) (.int (128 + 4000 * ((c.fdiv 2).fmod 2)) u)) Q E s :=
  pow_int_small (far_lo c) (far_hi c) (by decide) h
theorem off1_ne {D a : Addr} {o : Obj} : ∀ {l : List (Addr × Obj)}, LCg.Off1 D l → (a, o) ∈ l → @Ne Nat a D
  | _ :: _, h, hm => by
    rcases List.mem_cons.mp hm with e | hm
    · cases e; exact h.1
    · exact off1_ne h.2 hm
end
end Mine
-- part TN
namespace Mine
section
open PySem.Calls PySem.Spec
variable {prog : Program} {w : World} {A : Around} {E : Value → Shared → Prop} {s : Shared}
theorem tx_repl {Q : Value → Shared → Prop} {ns : List Int} {t u v : Tok} (h : ns.length ≤ 4) (hu : u ≠ 0) (hv : v ≠ 0) (huv : u ≠ v)
    (hq : ∀ t' k, Q (.str (Txt.replace (formS ns) (Str.ofString "\"") (Str.ofString "\"\"")) t') { s with toks := k }) : wpAny (model prog w) A (call (.builtin "str.replace") [.str (formS ns) t, .str (Str.ofString "\"") u, .str (Str.ofString "\"\"") v]) Q E s := by
  refine SC.replace hu hv huv (by decide +kernel) ?_ hq
  have := form_len ns
  rw [show (Str.ofString "\"\"").length = 2 by decide +kernel]
  (first | lia | omega)
end
theorem name_eq (ns : List Int) : Str.ofString "257 \"" ++ Txt.replace (formS ns) (Str.ofString "\"") (Str.ofString "\"\"") ++ Str.ofString "\" is the formula" = nameX ns := rfl
theorem reply_eq (k : Nat) (p : Int) : Str.ofString "229 at (" ++ Txt.mul (markS k) 3 ++ Str.ofString (toString p) ++ markS k ++ Str.ofString ")" = replyS k p := rfl
theorem bd_port {p : Int} (h : -16 ≤ p ∧ p < 20) : Bd 4200 p := Bd.mono (j := 5) (by unfold Bd; omega) (by decide)
theorem bd_far {f : Int} {e : Nat} (h : f.natAbs = 2 ^ e) (he : e ≤ 4128) : Bd 4200 f := by
  unfold Bd
  rw [h]
  exact Nat.pow_lt_pow_right (by decide) (by (first | lia | omega))
theorem d145n (w : World) (lS : Addr) (ep e : Nat) (vs : List Value) (ns : List Int) (g : Int) (tg : Tok) (rest : List (Addr × Obj)) (hS : (lS, listOf vs.toArray ep) ∈ rest) (hi : IntsAre vs ((toksOf ns).map (·.2))) (hn : ns.length = 4) (hf : g.natAbs = 2 ^ e) (he : e ≤ 4128) :
    Ctr w 145 [.ref lS, .int g tg] 8 100 rest (fun r led' => ∃ t, r = .int (drawn ns g) t ∧ led' = rest) := by
  have h := work_all ns (bd_far hf he) (by decide) (by rw [hn]; decide)
  have c := d145 w lS ep vs _ g tg rest hS hi h.2
  rw [h.1] at c
  exact c
theorem d131n (w : World) (lN : Addr) (ep : Nat) (n0 n1 n2 n3 g : Int) (t0 t1 t2 t3 tg : Tok) (rest : List (Addr × Obj)) (hN : (lN, listOf #[.int n0 t0, .int n1 t1, .int n2 t2, .int n3 t3] ep) ∈ rest) (hB : Bd 4200 g) :
    Ctr w 131 [.ref lN, .int g tg] 5 60 rest (fun r led' => ∃ t, r = .int (drawn [n0, n1, n2, n3] g) t ∧ led' = rest) :=
  d131 w lN ep [.int n0 t0, .int n1 t1, .int n2 t2, .int n3 t3] [n0, n1, n2, n3] g 4200 tg rest hN (.cons _ _ (.cons _ _ (.cons _ _ (.cons _ _ .nil)))) (Nat.le_of_ble_eq_true rfl) hB (by decide) (by decide)
end Mine
-- part EG
namespace Mine
open PySem.Spec PySem.Calls PyProof.Rows.LCg
section
variable {prog : Program} {w : World} {A : Around} {E : Value → Shared → Prop} {s : Shared} {h₀ : Heap} {L : Addr} {m : Str → Option Value} {env : Env}
theorem comp_steps  {elt : Expr} {x : Str} {scope : Scope} {cl : List (Str × Addr)} {S : List (Addr × Obj) → Prop} {Fin : List Value → List (Addr × Obj) → Prop} {news : List (Addr × Obj)} {c0 c1 c2 c3 : Int} {u0 u1 u2 u3 : Tok} (hS : S news)
    (turn : ∀ (c : Int) (u : Tok) ys I oI C oC D m₂ h tk (E' : Value → Shared → Prop) (K : Value → Prop), NsObj oC m₂ → m₂ x = some (.int c u) → Fr h₀ L h m → News h₀ L h ((I, oI) :: (C, oC) :: (D, lst ys) :: news) → Off3 I C D news → ((@Ne Nat I C) ∧ (@Ne Nat I D) ∧ (@Ne Nat C D)) → (∀ t, K (.str (stepS c) t)) →
      wpAny (model prog w) A (eval elt (compEnvC scope cl C env)) (EnEnd h₀ L m { s with heap := h, toks := tk } ((I, oI) :: (C, oC) :: (D, lst ys) :: news) K) E' { s with heap := h, toks := tk })
     (fin : ∀ t0 t1 t2 t3, Fin [.str (stepS c0) t0, .str (stepS c1) t1, .str (stepS c2) t2, .str (stepS c3) t3] news) :
    CompRest prog w A h₀ L m env elt x scope cl s S (fun i v => #[.int c0 u0, .int c1 u1, .int c2 u2, .int c3 u3][i]? = some v) Fin 4 0 [] news :=
  comp4 (s := s) (fun c u => .int c u) (fun c t => .str (stepS c) t) (fun c => True) hS (fun c u ys I oI C oC D m₂ h tk E' K a => turn c u ys I oI C oC D m₂ h tk E' K) True.intro True.intro True.intro True.intro fin
theorem comp_reply (k : Nat) {elt : Expr} {x : Str} {scope : Scope} {cl : List (Str × Addr)} {S : List (Addr × Obj) → Prop} {Fin : List Value → List (Addr × Obj) → Prop} {news : List (Addr × Obj)} {c0 c1 c2 c3 : Int} {u0 u1 u2 u3 : Tok} (hS : S news)
    (turn : ∀ (c : Int) (u : Tok) ys I oI C oC D m₂ h tk (E' : Value → Shared → Prop) (K : Value → Prop), -16 ≤ c ∧ c < 20 → NsObj oC m₂ → m₂ x = some (.int c u) → Fr h₀ L h m → News h₀ L h ((I, oI) :: (C, oC) :: (D, lst ys) :: news) → Off3 I C D news → ((@Ne Nat I C) ∧ (@Ne Nat I D) ∧ (@Ne Nat C D)) → (∀ t, K (.str (replyS k c) t)) →
      wpAny (model prog w) A (eval elt (compEnvC scope cl C env)) (EnEnd h₀ L m { s with heap := h, toks := tk } ((I, oI) :: (C, oC) :: (D, lst ys) :: news) K) E' { s with heap := h, toks := tk })
    (p0 : -16 ≤ c0 ∧ c0 < 20) (p1 : -16 ≤ c1 ∧ c1 < 20) (p2 : -16 ≤ c2 ∧ c2 < 20) (p3 : -16 ≤ c3 ∧ c3 < 20) (fin : ∀ t0 t1 t2 t3, Fin [.str (replyS k c0) t0, .str (replyS k c1) t1, .str (replyS k c2) t2, .str (replyS k c3) t3] news) :
    CompRest prog w A h₀ L m env elt x scope cl s S (fun i v => #[.int c0 u0, .int c1 u1, .int c2 u2, .int c3 u3][i]? = some v) Fin 4 0 [] news :=
  comp4 (s := s) (fun c u => .int c u) (fun c t => .str (replyS k c) t) (fun c => -16 ≤ c ∧ c < 20) hS (fun c u ys I oI C oC D m₂ h tk E' K a => turn c u ys I oI C oC D m₂ h tk E' K a) p0 p1 p2 p3 fin
theorem comp_dist (k : Nat) (f : Int) {elt : Expr} {x : Str} {scope : Scope} {cl : List (Str × Addr)} {S : List (Addr × Obj) → Prop} {Fin : List Value → List (Addr × Obj) → Prop} {news : List (Addr × Obj)} {c0 c1 c2 c3 : Int} {u0 u1 u2 u3 : Tok} (hS : S news)
    (turn : ∀ (c : Int) (u : Tok) ys I oI C oC D m₂ h tk (E' : Value → Shared → Prop) (K : Value → Prop), -16 ≤ c ∧ c < 20 → NsObj oC m₂ → m₂ x = some (.str (replyS k c) u) → Fr h₀ L h m → News h₀ L h ((I, oI) :: (C, oC) :: (D, lst ys) :: news) → Off3 I C D news → ((@Ne Nat I C) ∧ (@Ne Nat I D) ∧ (@Ne Nat C D)) → (∀ t, K (.int (f - c) t)) →
      wpAny (model prog w) A (eval elt (compEnvC scope cl C env)) (EnEnd h₀ L m { s with heap := h, toks := tk } ((I, oI) :: (C, oC) :: (D, lst ys) :: news) K) E' { s with heap := h, toks := tk })
    (p0 : -16 ≤ c0 ∧ c0 < 20) (p1 : -16 ≤ c1 ∧ c1 < 20) (p2 : -16 ≤ c2 ∧ c2 < 20) (p3 : -16 ≤ c3 ∧ c3 < 20) (fin : ∀ t0 t1 t2 t3, Fin [.int (f - c0) t0, .int (f - c1) t1, .int (f - c2) t2, .int (f - c3) t3] news) :
    CompRest prog w A h₀ L m env elt x scope cl s S (fun i v => #[.str (replyS k c0) u0, .str (replyS k c1) u1, .str (replyS k c2) u2, .str (replyS k c3) u3][i]? = some v) Fin 4 0 [] news :=
  comp4 (s := s) (fun c u => .str (replyS k c) u) (fun c t => .int (f - c) t) (fun c => -16 ≤ c ∧ c < 20) hS (fun c u ys I oI C oC D m₂ h tk E' K a => turn c u ys I oI C oC D m₂ h tk E' K a) p0 p1 p2 p3 fin
theorem comp_vals (n0 n1 n2 n3 : Int) {elt : Expr} {x : Str} {scope : Scope} {cl : List (Str × Addr)} {S : List (Addr × Obj) → Prop} {Fin : List Value → List (Addr × Obj) → Prop} {news : List (Addr × Obj)} {c0 c1 c2 c3 c4 : Int} {u0 u1 u2 u3 u4 : Tok} (hS : S news)
    (turn : ∀ (c : Int) (u : Tok) ys I oI C oC D m₂ h tk (E' : Value → Shared → Prop) (K : Value → Prop), Bd 4200 c → NsObj oC m₂ → m₂ x = some (.int c u) → Fr h₀ L h m → News h₀ L h ((I, oI) :: (C, oC) :: (D, lst ys) :: news) → Off3 I C D news → ((@Ne Nat I C) ∧ (@Ne Nat I D) ∧ (@Ne Nat C D)) → (∀ t, K (.int (drawn [n0, n1, n2, n3] c) t)) →
      wpAny (model prog w) A (eval elt (compEnvC scope cl C env)) (EnEnd h₀ L m { s with heap := h, toks := tk } ((I, oI) :: (C, oC) :: (D, lst ys) :: news) K) E' { s with heap := h, toks := tk })
    (p0 : Bd 4200 c0) (p1 : Bd 4200 c1) (p2 : Bd 4200 c2) (p3 : Bd 4200 c3) (p4 : Bd 4200 c4) (fin : ∀ t0 t1 t2 t3 t4, Fin [.int (drawn [n0, n1, n2, n3] c0) t0, .int (drawn [n0, n1, n2, n3] c1) t1, .int (drawn [n0, n1, n2, n3] c2) t2, .int (drawn [n0, n1, n2, n3] c3) t3, .int (drawn [n0, n1, n2, n3] c4) t4] news) :
    CompRest prog w A h₀ L m env elt x scope cl s S (fun i v => #[.int c0 u0, .int c1 u1, .int c2 u2, .int c3 u3, .int c4 u4][i]? = some v) Fin 5 0 [] news :=
  comp5 (s := s) (fun c u => .int c u) (fun c t => .int (drawn [n0, n1, n2, n3] c) t) (fun c => Bd 4200 c) hS (fun c u ys I oI C oC D m₂ h tk E' K a => turn c u ys I oI C oC D m₂ h tk E' K a) p0 p1 p2 p3 p4 fin
theorem enum_ports {elt : Expr} {x x₂ : Str} {scope : Scope} {cl : List (Str × Addr)} {Fin : List Value → Prop} {news : List (Addr × Obj)} {c0 c1 c2 c3 : Int} {u0 u1 u2 u3 : Tok}
    (turn : ∀ (i : Nat) (c : Int) (u t : Tok) ys I oI J oJ C oC D m₂ h tk (E' : Value → Shared → Prop) (K : Value → Prop), NsObj oC m₂ → m₂ x = some (.int (i : Int) t) → m₂ x₂ = some (.int c u) → Fr h₀ L h m → News h₀ L h ((I, oI) :: (J, oJ) :: (C, oC) :: (D, lst ys) :: news) → Off4 I J C D news → Ne4 I J C D → (∀ d t, 4 * (Int.fmod c 9 - 4) + ((i : Nat) : Int) = d → K (.int d t)) →
      wpAny (model prog w) A (eval elt (compEnvC scope cl C env)) (EnEnd h₀ L m { s with heap := h, toks := tk } ((I, oI) :: (J, oJ) :: (C, oC) :: (D, lst ys) :: news) K) E' { s with heap := h, toks := tk })
    (fin : ∀ (d0 : Int) t0, 4 * (Int.fmod c0 9 - 4) + ((0 : Nat) : Int) = d0 → ∀ (d1 : Int) t1, 4 * (Int.fmod c1 9 - 4) + ((1 : Nat) : Int) = d1 → ∀ (d2 : Int) t2, 4 * (Int.fmod c2 9 - 4) + ((2 : Nat) : Int) = d2 → ∀ (d3 : Int) t3, 4 * (Int.fmod c3 9 - 4) + ((3 : Nat) : Int) = d3 → Fin [.int d0 t0, .int d1 t1, .int d2 t2, .int d3 t3]) :
    EnRest prog w A h₀ L m env elt x x₂ scope cl s news Fin 0 [.int c0 u0, .int c1 u1, .int c2 u2, .int c3 u3] [] :=
  enum4 (s := s) Value.int Value.int (fun i c d => 4 * (Int.fmod c 9 - 4) + ((i : Nat) : Int) = d) turn fin
theorem enum_drawn {elt : Expr} {x x₂ : Str} {scope : Scope} {cl : List (Str × Addr)} {Fin : List Value → Prop} {news : List (Addr × Obj)} {c0 c1 c2 c3 c4 c5 c6 c7 c8 : Int} {u0 u1 u2 u3 u4 u5 u6 u7 u8 : Tok}
    (turn : ∀ (i : Nat) (c : Int) (u t : Tok) ys I oI J oJ C oC D m₂ h tk (E' : Value → Shared → Prop) (K : Value → Prop), NsObj oC m₂ → m₂ x = some (.int (i : Int) t) → m₂ x₂ = some (.int c u) → Fr h₀ L h m → News h₀ L h ((I, oI) :: (J, oJ) :: (C, oC) :: (D, lst ys) :: news) → Off4 I J C D news → Ne4 I J C D → (∀ (d : Int) t, K (.int d t)) →
      wpAny (model prog w) A (eval elt (compEnvC scope cl C env)) (EnEnd h₀ L m { s with heap := h, toks := tk } ((I, oI) :: (J, oJ) :: (C, oC) :: (D, lst ys) :: news) K) E' { s with heap := h, toks := tk })
    (fin : ∀ (d0 : Int) t0 (d1 : Int) t1 (d2 : Int) t2 (d3 : Int) t3 (d4 : Int) t4 (d5 : Int) t5 (d6 : Int) t6 (d7 : Int) t7 (d8 : Int) t8, Fin [.int d0 t0, .int d1 t1, .int d2 t2, .int d3 t3, .int d4 t4, .int d5 t5, .int d6 t6, .int d7 t7, .int d8 t8]) :
    EnRest prog w A h₀ L m env elt x x₂ scope cl s news Fin 0 [.int c0 u0, .int c1 u1, .int c2 u2, .int c3 u3, .int c4 u4, .int c5 u5, .int c6 u6, .int c7 u7, .int c8 u8] [] :=
  enum9 (s := s) Value.int Value.int turn fin
end
end Mine
-- part TO
namespace Mine
/-- one divided difference -/
noncomputable def nq (a b x y : Int) : Int := (b - a).fdiv (y - x)
noncomputable def hd1 (v0 v1 p0 p1 : Int) : Int := nq v0 v1 p0 p1
noncomputable def hd2 (v0 v1 v2 p0 p1 p2 : Int) : Int := nq (hd1 v0 v1 p0 p1) (hd1 v1 v2 p1 p2) p0 p2
noncomputable def hd3 (v0 v1 v2 v3 p0 p1 p2 p3 : Int) : Int := nq (hd2 v0 v1 v2 p0 p1 p2) (hd2 v1 v2 v3 p1 p2 p3) p0 p3
noncomputable def hd4 (v0 v1 v2 v3 v4 p0 p1 p2 p3 p4 : Int) : Int := nq (hd3 v0 v1 v2 v3 p0 p1 p2 p3) (hd3 v1 v2 v3 v4 p1 p2 p3 p4) p0 p4
theorem drawn_bd {x : Int} {B : Nat} (hx : Bd B x) (hB : 4 ≤ B) : ∀ (ns : List Int) (v : Int) (C : Nat), Bd C v → B ≤ C → Bd (C * 2 ^ ns.length) (ns.foldl (fun v n => stepV x v n) v)
  | [], v, C, hv, _ => by rw [List.length_nil, Nat.pow_zero, Nat.mul_one]; exact hv
  | n :: r, v, C, hv, hC => by
    have h := drawn_bd hx hB r _ (C * 2) (stepV_bd (n := n) (hx.mono hC) hv (by (first | lia | omega))) (by (first | lia | omega))
    rw [List.length_cons, Nat.pow_succ, Nat.mul_comm _ 2, ← Nat.mul_assoc]
    exact h
theorem dist_k {f p : Int} {e : Nat} (hf : f.natAbs = 2 ^ e) (he : 128 ≤ e) (hp : -16 ≤ p ∧ p < 20) : ∃ k, e - 1 ≤ k ∧ k ≤ e ∧ 2 ^ k ≤ (f - p).natAbs ∧ (f - p).natAbs < 2 ^ (k + 1) := by
  obtain ⟨j, rfl⟩ : ∃ j, e = j + 1 := ⟨e - 1, by omega⟩
  have h1 : 2 ^ (j + 1) = 2 ^ j * 2 := Nat.pow_succ ..
  have h2 : 2 ^ (j + 1 + 1) = 2 ^ (j + 1) * 2 := Nat.pow_succ ..
  have h3 : 2 ^ 6 ≤ 2 ^ j := Nat.pow_le_pow_right (by decide) (by omega)
  by_cases h : 2 ^ (j + 1) ≤ (f - p).natAbs
  · exact ⟨j + 1, by omega, by omega, h, by rw [h2]; omega⟩
  · exact ⟨j, by omega, by omega, by omega, by omega⟩
theorem nat_pow_mono {e : Nat} (he : 128 ≤ e) : 2 ^ 128 ≤ 2 ^ e := Nat.pow_le_pow_right (by decide) he
theorem five_ints {vs : List Value} {a b c d e : Int} {G : Prop} (h : IntsAre vs [a, b, c, d, e]) (k : ∀ t0 t1 t2 t3 t4, vs = [.int a t0, .int b t1, .int c t2, .int d t3, .int e t4] → G) : G := by
  cases h with | cons _ t0 h =>
  cases h with | cons _ t1 h =>
  cases h with | cons _ t2 h =>
  cases h with | cons _ t3 h =>
  cases h with | cons _ t4 h =>
  cases h
  exact k _ _ _ _ _ rfl
theorem d152n (w : World) (n0 n1 n2 n3 f p0 p1 p2 p3 : Int) (e : Nat) (tv t0 t1 t2 t3 : Tok) (lD : Addr) (ep : Nat) (rest : List (Addr × Obj)) (hf : f.natAbs = 2 ^ e) (he : 128 ≤ e) (he2 : e ≤ 4128)
    (h0 : -16 ≤ p0 ∧ p0 < 20) (h1 : -16 ≤ p1 ∧ p1 < 20) (h2 : -16 ≤ p2 ∧ p2 < 20) (h3 : -16 ≤ p3 ∧ p3 < 20) (g0 : p0 % 4 = 0) (g1 : p1 % 4 = 1) (g2 : p2 % 4 = 2) (g3 : p3 % 4 = 3)
    (hD : (lD, listOf #[.int (f - p0) t0, .int (f - p1) t1, .int (f - p2) t2, .int (f - p3) t3] ep) ∈ rest) (hA1 : Apart [(30, tabObj #[])] rest) (hA2 : Apart [(37, tabObj #[])] rest) :
    Ctr w 152 [.int (drawn [n0, n1, n2, n3] f) tv, .ref lD] 350 4000 ([(30, tabObj #[])] ++ ([(37, tabObj #[])] ++ rest)) (fun r led' => ∃ D n s0 s1 s2 s3 s4 tl1 tl2, r = .ref D ∧ TabSt 30 32 4 (Str.ofString "_int2digits.<locals>.inner") tl1 ∧ TabSt 37 47 4 (Str.ofString "_digits2int.<locals>.inner") tl2 ∧
      led' = (D, listOf #[.int (drawn [n0, n1, n2, n3] p0) s0, .int (hd1 (drawn [n0, n1, n2, n3] p0) (drawn [n0, n1, n2, n3] p1) p0 p1) s1, .int (hd2 (drawn [n0, n1, n2, n3] p0) (drawn [n0, n1, n2, n3] p1) (drawn [n0, n1, n2, n3] p2) p0 p1 p2) s2,
        .int (hd3 (drawn [n0, n1, n2, n3] p0) (drawn [n0, n1, n2, n3] p1) (drawn [n0, n1, n2, n3] p2) (drawn [n0, n1, n2, n3] p3) p0 p1 p2 p3) s3,
        .int (hd4 (drawn [n0, n1, n2, n3] p0) (drawn [n0, n1, n2, n3] p1) (drawn [n0, n1, n2, n3] p2) (drawn [n0, n1, n2, n3] p3) (drawn [n0, n1, n2, n3] f) p0 p1 p2 p3 f) s4] n) :: (tl1 ++ (tl2 ++ rest))) := by
  have hb : Bd (e + 1) f := by unfold Bd; rw [hf]; exact Nat.pow_lt_pow_right (by decide) (by (first | lia | omega))
  have hv := drawn_bd hb (by (first | lia | omega)) [n0, n1, n2, n3] f (e + 1) hb (Nat.le_refl _)
  have hv' : Bd ((e + 1) * 16) (drawn [n0, n1, n2, n3] f) := hv
  have hk : ∀ p : Int, -16 ≤ p ∧ p < 20 → ∃ k, k < 6900 ∧ 2 ^ k ≤ (f - p).natAbs ∧ (f - p).natAbs < 2 ^ (k + 1) ∧ 3 ≤ k ∧ (e + 1) * 16 ≤ 200 * (k + 1) := fun p hp => by
    obtain ⟨k, k1, k2, k3, k4⟩ := dist_k hf he hp
    exact ⟨k, by (first | lia | omega), k3, k4, by (first | lia | omega), by (first | lia | omega)⟩
  have c := d152 w (drawn [n0, n1, n2, n3] f) tv lD ep ((e + 1) * 16) [.int (f - p0) t0, .int (f - p1) t1, .int (f - p2) t2, .int (f - p3) t3] [f - p0, f - p1, f - p2, f - p3] [(30, tabObj #[])] [(37, tabObj #[])] rest .new .new hA1 hA2 hD
    (.cons _ _ (.cons _ _ (.cons _ _ (.cons _ _ .nil)))) (Nat.le_of_ble_eq_true rfl) (fun d hd => by
      simp only [List.mem_cons, List.not_mem_nil, or_false] at hd
      rcases hd with rfl | rfl | rfl | rfl
      · exact hk p0 h0
      · exact hk p1 h1
      · exact hk p2 h2
      · exact hk p3 h3) hv' (by (first | lia | omega))
  have hfar : 2 ^ 128 ≤ f.natAbs := by rw [hf]; exact nat_pow_mono he
  obtain ⟨c0, c1, c2, c3, c4, d12, d23, d34, d13, d24, d14, q0, q1, q2, q3, q4, q5, q6, q7, q8, q9, q10, q11⟩ := told_eq n0 n1 n2 n3 (x0 := p0) (x1 := p1) (x2 := p2) (x3 := p3) (x4 := f) (by (first | lia | omega)) (by (first | lia | omega)) (by (first | lia | omega)) (by (first | lia | omega)) hfar (by (first | lia | omega)) (by (first | lia | omega)) (by (first | lia | omega)) (by (first | lia | omega)) (by (first | lia | omega)) (by (first | lia | omega))
  rw [q0] at c
  subst q1 q2 q3 q4 q5 q6 q7 q8 q9 q10 q11
  intro dp un gd cn cs a ccd cl outer A₀ base hh L m s Q E loose mean mg mb B F X N T C1 C2 hk' hd hu hret
  refine c dp un gd cn cs a ccd cl outer A₀ base hh L m s Q E loose mean mg mb B F X N T C1 C2 hk' hd hu ?_
  intro r led' h' tk' F' N' hO
  obtain ⟨D, vr, n, tl1, tl2, e1, hi, u1, u2, _, _, e2⟩ := hO
  refine five_ints hi fun s0 s1 s2 s3 s4 ev => ?_
  subst ev
  exact hret r led' h' tk' F' N' ⟨D, n, s0, s1, s2, s3, s4, tl1, tl2, e1, u1, u2, e2⟩
theorem d157n (w : World) (lP lV : Addr) (nP nV : Nat) (p0 p1 p2 p3 f v0 v1 v2 v3 v4 : Int) (e : Nat) (tp0 tp1 tp2 tp3 tp4 tv0 tv1 tv2 tv3 tv4 : Tok) (rest : List (Addr × Obj)) (hf : f.natAbs = 2 ^ e) (he : 128 ≤ e) (he2 : e ≤ 4128)
    (h0 : -16 ≤ p0 ∧ p0 < 20) (h1 : -16 ≤ p1 ∧ p1 < 20) (h2 : -16 ≤ p2 ∧ p2 < 20) (h3 : -16 ≤ p3 ∧ p3 < 20) (g0 : p0 % 4 = 0) (g1 : p1 % 4 = 1) (g2 : p2 % 4 = 2) (g3 : p3 % 4 = 3)
    (hP : (lP, listOf #[.int p0 tp0, .int p1 tp1, .int p2 tp2, .int p3 tp3, .int f tp4] nP) ∈ rest) (hV : (lV, listOf #[.int v0 tv0, .int v1 tv1, .int v2 tv2, .int v3 tv3, .int v4 tv4] nV) ∈ rest) :
    Ctr w 157 [.ref lP, .ref lV] 8 200 rest (fun r led' => ∃ D n t0 t1 t2 t3 t4, r = .ref D ∧ led' = (D, listOf #[.int v0 t0, .int (hd1 v0 v1 p0 p1) t1, .int (hd2 v0 v1 v2 p0 p1 p2) t2, .int (hd3 v0 v1 v2 v3 p0 p1 p2 p3) t3, .int (hd4 v0 v1 v2 v3 v4 p0 p1 p2 p3 f) t4] n) :: rest) := by
  have hfar : 2 ^ 128 ≤ f.natAbs := by rw [hf]; exact nat_pow_mono he
  have hbig : 100 ≤ (2 : Nat) ^ 128 := by decide
  have hup : (2 : Nat) ^ e + 2 ^ e ≤ 2 ^ 7999 := by
    have : 2 ^ e ≤ 2 ^ 7998 := Nat.pow_le_pow_right (by decide) (by (first | lia | omega))
    have h8 : (2 : Nat) ^ (7998 + 1) = 2 ^ 7998 * 2 := Nat.pow_succ ..
    have h9 : (2 : Nat) ^ 7999 = 2 ^ 7998 * 2 := h8
    rw [h9]
    generalize (2 : Nat) ^ 7998 = Z at *
    (first | lia | omega)
  have h79 : (2 : Nat) ^ 7999 < 2 ^ 8000 := Nat.pow_lt_pow_right (by decide) (by decide)
  generalize (2 : Nat) ^ 7999 = Y at *
  have near : ∀ d : Int, d.natAbs < 2 ^ 8000 → Near d := fun d h => near_of h
  generalize (2 : Nat) ^ 8000 = Y8 at *
  generalize (2 : Nat) ^ 128 = F1 at *
  generalize (2 : Nat) ^ e = Fe at *
  have sm : ∀ x y : Int, (-16 ≤ x ∧ x < 20) → (-16 ≤ y ∧ y < 20) → x % 4 ≠ y % 4 → y - x ≠ 0 ∧ Near (y - x) := fun x y hx hy hxy => ⟨fun e => hxy (by rw [show y = x by (first | lia | omega)]), near _ (by (first | lia | omega))⟩
  have bg : ∀ x : Int, (-16 ≤ x ∧ x < 20) → f - x ≠ 0 ∧ Near (f - x) := fun x hx => ⟨by (first | lia | omega), near _ (by (first | lia | omega))⟩
  have c := d157 w lP lV nP nV [.int p0 tp0, .int p1 tp1, .int p2 tp2, .int p3 tp3, .int f tp4] [.int v0 tv0, .int v1 tv1, .int v2 tv2, .int v3 tv3, .int v4 tv4] [p0, p1, p2, p3, f] [v0, v1, v2, v3, v4] rest hP
    (.cons _ _ (.cons _ _ (.cons _ _ (.cons _ _ (.cons _ _ .nil))))) rfl hV (.cons _ _ (.cons _ _ (.cons _ _ (.cons _ _ (.cons _ _ .nil))))) rfl (fun i g hg hi => by
      obtain ⟨rfl, rfl⟩ | ⟨rfl, rfl⟩ | ⟨rfl, rfl⟩ | ⟨rfl, rfl⟩ | ⟨rfl, rfl⟩ | ⟨rfl, rfl⟩ | ⟨rfl, rfl⟩ | ⟨rfl, rfl⟩ | ⟨rfl, rfl⟩ | ⟨rfl, rfl⟩ : (i = 0 ∧ g = 1) ∨ (i = 0 ∧ g = 2) ∨ (i = 0 ∧ g = 3) ∨ (i = 0 ∧ g = 4) ∨ (i = 1 ∧ g = 1) ∨ (i = 1 ∧ g = 2) ∨ (i = 1 ∧ g = 3) ∨ (i = 2 ∧ g = 1) ∨ (i = 2 ∧ g = 2) ∨ (i = 3 ∧ g = 1) := by (first | lia | omega)
      · exact sm p0 p1 h0 h1 (by rw [g0, g1]; decide)
      · exact sm p0 p2 h0 h2 (by rw [g0, g2]; decide)
      · exact sm p0 p3 h0 h3 (by rw [g0, g3]; decide)
      · exact bg p0 h0
      · exact sm p1 p2 h1 h2 (by rw [g1, g2]; decide)
      · exact sm p1 p3 h1 h3 (by rw [g1, g3]; decide)
      · exact bg p1 h1
      · exact sm p2 p3 h2 h3 (by rw [g2, g3]; decide)
      · exact bg p2 h2
      · exact bg p3 h3)
  intro dp un gd cn cs a ccd cl outer A₀ base hh L m s Q E loose mean mg mb B F X N T C1 C2 hk' hd hu hret
  refine c dp un gd cn cs a ccd cl outer A₀ base hh L m s Q E loose mean mg mb B F X N T C1 C2 hk' hd hu ?_
  intro r led' h' tk' F' N' hO
  obtain ⟨D, vh, n, e1, hi, e2⟩ := hO
  have eh : headsF [p0, p1, p2, p3, f] 5 0 [v0, v1, v2, v3, v4] = [v0, hd1 v0 v1 p0 p1, hd2 v0 v1 v2 p0 p1 p2, hd3 v0 v1 v2 v3 p0 p1 p2 p3, hd4 v0 v1 v2 v3 v4 p0 p1 p2 p3 f] := rfl
  rw [eh] at hi
  refine five_ints hi fun t0 t1 t2 t3 t4 ev => ?_
  subst ev
  exact hret r led' h' tk' F' N' ⟨D, n, t0, t1, t2, t3, t4, e1, e2⟩
theorem keep_tabs {h₀ : Heap} {L : Addr} {h : Heap} {d : Addr × Obj} {a b R : List (Addr × Obj)} (N : News h₀ L h (d :: (a ++ (b ++ R)))) (u1 : TabSt 30 32 4 (Str.ofString "_int2digits.<locals>.inner") a) (u2 : TabSt 37 47 4 (Str.ofString "_digits2int.<locals>.inner") b) :
    ∃ p1 p2, News h₀ L h (d :: (R ++ [(37, tabObj p2), (30, tabObj p1)])) := by
  have h1 : ∃ p1, (30, tabObj p1) ∈ a := by cases u1 <;> exact ⟨_, .head _⟩
  have h2 : ∃ p2, (37, tabObj p2) ∈ b := by cases u2 <;> exact ⟨_, .head _⟩
  obtain ⟨p1, h1⟩ := h1
  obtain ⟨p2, h2⟩ := h2
  refine ⟨p1, p2, fun p hp => ?_⟩
  rcases List.mem_cons.mp hp with rfl | hp
  · exact N _ (.head _)
  apply N
  refine .tail _ ?_
  rcases List.mem_append.mp hp with hp | hp
  · exact List.mem_append_right _ (List.mem_append_right _ hp)
  · simp only [List.mem_cons, List.not_mem_nil, or_false] at hp
    rcases hp with rfl | rfl
    · exact List.mem_append_right _ (List.mem_append_left _ h2)
    · exact List.mem_append_left _ h1
theorem off1_of {D : Addr} : ∀ {l : List (Addr × Obj)}, (∀ p ∈ l, p.1 ≠ D) → LCg.Off1 D l
  | [], _ => trivial
  | p :: _, h => ⟨h p (.head _), off1_of fun q hq => h q (.tail _ hq)⟩
end Mine
-- part TP
namespace Mine
section
open PySem.Calls PySem.Spec
variable {prog : Program} {w : World} {A : Around} {E : Value → Shared → Prop} {s : Shared} {h₀ : Heap} {L l l2 : Addr} {m : Str → Option Value} {news : List (Addr × Obj)} {n n2 : Nat}
theorem my_eq5 {Q : Value → Shared → Prop} {a0 a1 a2 a3 a4 : Int} {s0 s1 s2 s3 s4 t0 t1 t2 t3 t4 : Tok} (N : News h₀ L s.heap news) (hm : (l, listOf #[.int a0 s0, .int a1 s1, .int a2 s2, .int a3 s3, .int a4 s4] n) ∈ news)
    (hm2 : (l2, listOf #[.int a0 t0, .int a1 t1, .int a2 t2, .int a3 t3, .int a4 t4] n2) ∈ news) (hu : A.units + 64 < cLine) (h : Q (.bool true) s) : wpAny (model prog w) A (compareOp .Eq (.ref l) (.ref l2)) Q E s := by
  have e : decide ([a0, a1, a2, a3, a4] = [a0, a1, a2, a3, a4]) = true := by simp
  have i1 : IntsAre [.int a0 s0, .int a1 s1, .int a2 s2, .int a3 s3, .int a4 s4] [a0, a1, a2, a3, a4] := .cons _ _ (.cons _ _ (.cons _ _ (.cons _ _ (.cons _ _ .nil))))
  have i2 : IntsAre [.int a0 t0, .int a1 t1, .int a2 t2, .int a3 t3, .int a4 t4] [a0, a1, a2, a3, a4] := .cons _ _ (.cons _ _ (.cons _ _ (.cons _ _ (.cons _ _ .nil))))
  refine eq_intsK (vs := [.int a0 s0, .int a1 s1, .int a2 s2, .int a3 s3, .int a4 s4]) (us := [.int a0 t0, .int a1 t1, .int a2 t2, .int a3 t3, .int a4 t4]) ⟨_, (N _ hm).1, rfl, _, rfl⟩ i1 ⟨_, (N _ hm2).1, rfl, _, rfl⟩ i2 hu ?_
  rw [e]
  exact h
end
theorem end_raises (l : List Int) : ∀ cls, PySem.Challenge.rw_we0027_01.row.claim.raises [ofPy (PyData.list (List.map PyData.int l))] cls = false := raisesW_false (by first | rfl | wrow_none_raised)
theorem end_post (l : List Int) : PySem.Challenge.rw_we0027_01.row.claim.post [ofPy (PyData.list (List.map PyData.int l))] (.bool true) [ofPy (PyData.list (List.map PyData.int l))] = true := by
  first | rfl | wrow_post
end Mine
-- part LF
namespace Mine

open PyProof.Rows in
theorem EnRest.cons {prog : Program} {w : World} {A : Around} {h₀ : Heap} {L : Addr} {m : Str → Option Value} {env : Env} {elt : PySem.Expr} {x x₂ : Str} {scope : Scope} {cl : List (Str × Addr)} {s : Shared} {news : List (Addr × Obj)} {Fin : List Value → Prop} {i : Nat} {v : Value} {r ys : List Value}
    (h : ∀ (t : Tok) I oI J oJ C oC D m₂ h tk (E' : Value → Shared → Prop), LCg.NsObj oC m₂ → m₂ x = some (.int (i : Int) t) → m₂ x₂ = some v → Fr h₀ L h m → News h₀ L h ((I, oI) :: (J, oJ) :: (C, oC) :: (D, LCg.lst ys) :: news) → Off4 I J C D news → Ne4 I J C D →
      wpAny (model prog w) A (eval elt (compEnvC scope cl C env)) (EnEnd h₀ L m { s with heap := h, toks := tk } ((I, oI) :: (J, oJ) :: (C, oC) :: (D, LCg.lst ys) :: news) (fun y => EnRest prog w A h₀ L m env elt x x₂ scope cl s news Fin (i + 1) r (ys ++ [y]))) E' { s with heap := h, toks := tk }) :
    EnRest prog w A h₀ L m env elt x x₂ scope cl s news Fin i (v :: r) ys := h
theorem EnRest.nil {prog : Program} {w : World} {A : Around} {h₀ : Heap} {L : Addr} {m : Str → Option Value} {env : Env} {elt : PySem.Expr} {x x₂ : Str} {scope : Scope} {cl : List (Str × Addr)} {s : Shared} {news : List (Addr × Obj)} {Fin : List Value → Prop} {i : Nat} {ys : List Value}
    (h : Fin ys) : EnRest prog w A h₀ L m env elt x x₂ scope cl s news Fin i [] ys := h
section
open PySem.Calls PySem.Spec
variable {prog : Program} {w : World} {A : Around} {E : Value → Shared → Prop} {s : Shared} {h₀ : Heap} {L l : Addr} {m : Str → Option Value} {news : List (Addr × Obj)} {vs : List Value} {ns : List Int} {n : Nat}
theorem my_slice3 {value slice : PySem.Expr} {vl vu vk : Value} {lo hi st : Option Int} {ops : List Value} {Q : Value → Shared → Prop} (F : Fr h₀ L s.heap m) (N : News h₀ L s.heap news) (hm : (l, listOf vs.toArray n) ∈ news) (pl : IsPart vl lo) (pu : IsPart vu hi) (pk : IsPart vk st) (h0 : st ≠ some 0) (hi' : IntsAre vs ns)
    (h : ∀ D ws ms h', Fr h₀ L h' m → News h₀ L h' ((D, listOf (List.toArray ws) 0) :: news) → (∀ p ∈ news, p.1 < D) → IntsAre ws ms → Q (.ref D) { s with heap := h' })
    (hs : subscripted slice false (.ref l) (.ref s.heap.objs.size) = operate ops (getItem (.ref l) (.ref s.heap.objs.size))) (ht : ∀ r, letTemporaryGo value (.ref l) r = pure ()) (hz : ns.length ≤ 1000000) :
    wpAny (model prog w) A (subscriptTail value slice (.ref l) (.ref s.heap.objs.size)) Q E { s with heap := s.heap.push { cls := .type "slice", data := .fields #[vl, vu, vk] } } := by
  refine slice_list3 F N ⟨_, (N _ hm).1, rfl, _, rfl⟩ pl pu pk h0 (fun h' F' N' => h _ (slicePick vs.toArray lo hi st).toList _ h' F' ?_ (fun p hp => Nat.lt_succ_of_lt (Heap.lt_size (N p hp).1)) (hi'.pick lo hi st)) hs ht ?_
  · rw [Array.toArray_toList]
    exact N'
  · show vs.toArray.size ≤ _
    rw [List.size_toArray, hi'.length, sizeLine_eq]
    (first | lia | omega)
theorem my_sum {Q : Value → Shared → Prop} (hh : A.handled = none) (F : Fr h₀ L s.heap m) (N : News h₀ L s.heap news) (hm : (l, listOf vs.toArray n) ∈ news) (hi : IntsAre vs ns)
    (h : ∀ k h' tk t', Fr h₀ L h' m → News h₀ L h' news → Q (.int k t') { s with heap := h', toks := tk }) :
    wpAny (model prog w) A (call (.builtin "sum") [.ref l]) Q E s := sumK hh F N ⟨_, (N _ hm).1, rfl, _, rfl⟩ hi (h _)
end
section
theorem rng_lo {p : Int} (h : -16 ≤ p ∧ p < 20) : -16 ≤ p := h.1
theorem rng_hi {p : Int} (h : -16 ≤ p ∧ p < 20) : p < 20 := h.2
theorem port_rng {n c : Int} {i : Nat} (h : 4 * (n.fmod 9 - 4) + (i : Int) = c) (hi : i < 4) : -16 ≤ c ∧ c < 20 := ⟨(port_facts hi h).1, (port_facts hi h).2.1⟩
theorem port_mod {n c : Int} {i : Nat} {j : Int} (h : 4 * (n.fmod 9 - 4) + (i : Int) = c) (hi : i < 4) (hj : (i : Int) = j) : c % 4 = j := by rw [← hj]; exact (port_facts hi h).2.2
/-- entries that are no table -/
noncomputable def TabOff (P : Addr) : List (Addr × Obj) → Prop
  | [] => True
  | p :: r => (p.2.cls ≠ (tabObj #[]).cls ∨ @Ne Nat p.1 P) ∧ TabOff P r
theorem TabOff.mem {P : Addr} : ∀ {l : List (Addr × Obj)}, TabOff P l → ∀ p ∈ l, p.2.cls ≠ (tabObj #[]).cls ∨ @Ne Nat p.1 P
  | [], _, _, hp => nomatch hp
  | _ :: _, h, p, hp => by
    rcases List.mem_cons.mp hp with rfl | hp
    · exact h.1
    · exact h.2.mem p hp
theorem apart_tab {h₀ h : Heap} {L P : Addr} {all rest : List (Addr × Obj)} (N : News h₀ L h all) (hP : (P, tabObj #[]) ∈ all) (hs : ∀ p ∈ rest, p ∈ all) (hd : TabOff P rest) : Apart [(P, tabObj #[])] rest := fun q hq p hp e => by
  rw [List.mem_singleton.mp hq] at e
  rcases hd.mem p hp with x | x
  · have a := (N p (hs p hp)).1
    have b := (N _ hP).1
    rw [e] at a
    exact x (congrArg Obj.cls (Option.some.inj (a.symm.trans b)))
  · exact x e
theorem apart30 {h₀ h : Heap} {L : Addr} {rest : List (Addr × Obj)} (N : News h₀ L h (rest ++ [(37, tabObj #[]), (30, tabObj #[])])) (hd : TabOff 30 rest) : Apart [(30, tabObj #[])] rest :=
  apart_tab N (List.mem_append_right _ (.tail _ (.head _))) (fun _ hp => List.mem_append_left _ hp) hd
theorem apart37 {h₀ h : Heap} {L : Addr} {rest : List (Addr × Obj)} (N : News h₀ L h (rest ++ [(37, tabObj #[]), (30, tabObj #[])])) (hd : TabOff 37 rest) : Apart [(37, tabObj #[])] rest :=
  apart_tab N (List.mem_append_right _ (.head _)) (fun _ hp => List.mem_append_left _ hp) hd
theorem off_list {P a : Addr} {o : Obj} {r : List (Addr × Obj)} (h : o.cls = .type "list") (hr : TabOff P r) : TabOff P ((a, o) :: r) := ⟨.inl (by show o.cls ≠ _; rw [h]; intro e; cases e), hr⟩
theorem off_far30 {n a : Nat} {o : Obj} {r : List (Addr × Obj)} (h : 37 < n ∧ 30 < n) (ha : n ≤ a) (hr : TabOff 30 r) : TabOff 30 ((a, o) :: r) := ⟨.inr (by show a ≠ 30; omega), hr⟩
theorem off_far37 {n a : Nat} {o : Obj} {r : List (Addr × Obj)} (h : 37 < n ∧ 30 < n) (ha : n ≤ a) (hr : TabOff 37 r) : TabOff 37 ((a, o) :: r) := ⟨.inr (by show a ≠ 37; omega), hr⟩
theorem le4 (n : Nat) : n ≤ n + 1 + 1 + 1 + 1 := by (first | lia | omega)
theorem le3 (n : Nat) : n ≤ n + 1 + 1 + 1 := by (first | lia | omega)
theorem le2 (n : Nat) : n ≤ n + 1 + 1 := by (first | lia | omega)
theorem le1 (n : Nat) : n ≤ n + 1 := by (first | lia | omega)
theorem apart_of {P : Addr} {o : Obj} {rest : List (Addr × Obj)} (h : ∀ p ∈ rest, p.1 ≠ P) : Apart [(P, o)] rest := fun q hq p hp => by
  rw [List.mem_singleton.mp hq]
  exact h p hp
theorem drop_tabs {h₀ : Heap} {L : Addr} {h : Heap} {d : Addr × Obj} {a b R : List (Addr × Obj)} (N : News h₀ L h (d :: (a ++ (b ++ R)))) : News h₀ L h (d :: R) := fun p hp => by
  rcases List.mem_cons.mp hp with rfl | hp
  · exact N _ (.head _)
  · exact N p (.tail _ (List.mem_append_right _ (List.mem_append_right _ hp)))
theorem tabs_first {h₀ : Heap} {L : Addr} {h : Heap} {a b : Addr × Obj} (R : List (Addr × Obj)) (N : News h₀ L h (R ++ [a, b])) : News h₀ L h ([b] ++ ([a] ++ R)) := fun p hp => by
  apply N
  simp only [List.mem_append, List.mem_cons, List.not_mem_nil, or_false] at hp ⊢
  rcases hp with h | h | h
  · exact .inr (.inr h)
  · exact .inr (.inl h)
  · exact .inl h
local macro_rules | `(tactic| k_ne) => `(tactic| (refine neN ?_; (try dsimp only); first | exact off1_ne (by assumption) (by repeat' (first | exact List.Mem.head _ | refine List.Mem.tail _ ?_)) | exact Ne.symm (off1_ne (by assumption) (by repeat' (first | exact List.Mem.head _ | refine List.Mem.tail _ ?_))) | omega))
theorem cwx : PySem.Challenge.rw_we0027_01.Holds := Mine.hd (by
  k_with_none
  k_with "my binaryOp RShift int int" => (k_here; (with_reducible refine g_rsh ?zqkb1 ?_); (case zqkb1 => first | assumption | (first | lia | omega)); intro tz9' kz9')
  k_with "my inplaceOp RShift int int" => (k_here; (with_reducible refine g_irsh ?zqkb1 ?_); (case zqkb1 => first | assumption | (first | lia | omega)); intro tz9' kz9')
  k_with "my binaryOp LShift int int" => (k_here; (with_reducible refine g_lsh ?zqkb1 ?zqkb2 ?_); (case zqkb1 => first | assumption | (first | lia | omega)); (case zqkb2 => first | exact shlOk (by assumption) (by (first | lia | omega)) (by first | assumption | (first | lia | omega)) | assumption); intro tz9' kz9')
  k_with "my inplaceOp LShift int int" => (k_here; (with_reducible refine g_ilsh ?zqkb1 ?zqkb2 ?_); (case zqkb1 => first | assumption | (first | lia | omega)); (case zqkb2 => first | exact shlOk (by assumption) (by (first | lia | omega)) (by first | assumption | (first | lia | omega)) | assumption); intro tz9' kz9')
  k_with "my binaryOp Mult int int" => (k_here; (with_reducible refine g_mul ?zqkb1 ?_); (case zqkb1 => assumption); intro tz9' kz9')
  k_with "my inplaceOp Mult int int" => (k_here; (with_reducible refine g_imul ?zqkb1 ?_); (case zqkb1 => assumption); intro tz9' kz9')
  k_with "my binaryOp Add int int" => (k_here; (with_reducible refine g_add ?_); intro tz9' kz9')
  k_with "my binaryOp Sub int int" => (k_here; (with_reducible refine g_sub ?_); intro tz9' kz9')
  k_with "my binaryOp BitAnd int int" => (k_here; (with_reducible refine g_and ?_); intro tz9' kz9')
  k_with "my binaryOp BitOr int int" => (k_here; (with_reducible refine g_or ?_); intro tz9' kz9')
  k_with "my inplaceOp Add int int" => (k_here; (with_reducible refine g_iadd ?_); intro tz9' kz9')
  k_with "my inplaceOp Sub int int" => (k_here; (with_reducible refine g_isub ?_); intro tz9' kz9')
  k_with "my binaryOp FloorDiv int int" => (k_here; (with_reducible refine floordiv_int ?zqkb1 ?_ ?zqkb2); (case zqkb1 => first | assumption | (first | lia | omega)); (case zqkb2 => exact .inl ((by assumption : Near _) _)))
  k_with "my call builtin:divmod" => (k_here; k_dflt (refine' my_divmod ?zqF ?zqN ?zqb ?zqp ?_; (case zqF => k_asm); (case zqN => k_asm); (case zqb => first | assumption | (first | lia | omega)); (case zqp => assumption); k_whole; intro D' h' t1' t2' tk' F' N' hlt'; (try k_sweep)))
  k_with "my subscriptTail Name Slice ref ref" => (k_here; (with_reducible show wpAny _ _ (subscriptTail _ (PySem.Expr.Slice (some _) none (some _) _) (Value.ref _) (Value.ref _)) _ _ _); k_dflt (refine' my_slice3 ?zqF ?zqN ?zqm ?zqp ?zqq ?zqk ?zqo ?zqi ?_ ?zqs ?zqt ?zqz; (case zqF => k_asm); (case zqN => k_asm); (case zqm => k_mem); (case zqp => kmk_part); (case zqq => kmk_part); (case zqk => kmk_part); (case zqo => decide); (case zqi => assumption); (case zqs => with_unfolding_all rfl); (case zqt => kmk_pure); (case zqz => (first | (first | lia | omega) | (simp only [List.length_map]; (first | lia | omega))))); intro D' ws' ms' h' F' N' l1 hI'; (try k_lt l1); (try k_sweep))
  k_with "my call builtin:sum" => (k_here; (with_reducible show wpAny _ _ (call (Value.builtin "sum") [Value.ref _]) _ _ _); k_dflt (refine' my_sum ?zqk0 ?zqk1 ?zqk2 ?zqk3 ?zqk4 ?_; (case zqk0 => with_unfolding_all rfl); (case zqk1 => k_asm); (case zqk2 => k_asm); (case zqk3 => k_mem); (case zqk4 => assumption); k_whole); intro k' h' tk' t' F' N'; (try k_sweep))
  k_with "my exec Assign cons ListComp" => (k_here; lcp_look; k_dflt (refine Assign_ListComp_E (by k_asm) (by rfl) (by with_unfolding_all rfl) (by with_unfolding_all rfl) (by decide) (by rfl) (by decide) (by rfl) (by rfl) (by decide) (by rfl) (by rfl) ?_))
  k_with "my call type:enumerate" => (k_here; k_dflt (refine' enum_src ?zqhh ?zqF ?zqN ?zqm ?zqz ?_; (case zqhh => rfl); (case zqF => k_asm); (case zqN => k_asm); (case zqm => k_mem); (case zqz => first | size_fits | exact Nat.le_of_ble_eq_true rfl); intro g'))
  k_with "my EnRest" => (k_dflt (first | (refine' enum_ports ?_ ?_ <;> first | (intro (i' : Nat) c' u' t' ys' I' oI' J' oJ' C' oC' D' m' h' tk' E' K' hC' hx' hy' F' N' off' ne' hK') | (intro po0 ps0 hpo0 po1 ps1 hpo1 po2 ps2 hpo2 po3 ps3 hpo3)) | (refine' enum_drawn ?_ ?_ <;> first | (intro (i' : Nat) c' u' t' ys' I' oI' J' oJ' C' oC' D' m' h' tk' E' K' hC' hx' hy' F' N' off' ne' hK') | (intro dr0 ds0 dr1 ds1 dr2 ds2 dr3 ds3 dr4 ds4 dr5 ds5 dr6 ds6 dr7 ds7 dr8 ds8))))
  k_with "my EnEnd" => (refine turn_end (by k_asm) (by assumption) (by intro p9 hp9; (repeat (first | exact hp9 | refine List.Mem.tail _ ?_))) ?_; first | exact hK' _ | exact hK' _ _ | exact hK' _ _ rfl)
  k_with "my CompSrc" => (k_here; k_dflt (refine LCg.CompSrc.ledger (by rfl) (by k_asm) (by k_asm) (by k_mem) (by first | size_fits | exact Nat.le_of_ble_eq_true rfl) ?_; intro g'; lcg_lit))
  k_with "my CompRest" => (k_dflt (first | (focus ((with_reducible show LCg.CompRest _ _ _ _ _ _ _ (Expr.Call (Expr.Name (Str.ofString "_law_step") _) _ _ _) _ _ _ _ _ _ _ _ _ _ _); refine' comp_steps ?zqhS ?_ ?_; (case zqhS => lcg_src); all_goals first | (intro (c' : Int) u' ys' I' oI' C' oC' D' m' h' tk' E' K' hC' hx' F' N' off' ne' hK'; clear ne') | (intro ct0 ct1 ct2 ct3))) | (focus ((with_reducible show LCg.CompRest _ _ _ _ _ _ _ (Expr.Call (Expr.Name (Str.ofString "_law_drawn") _) _ _ _) _ _ _ _ _ _ _ _ _ _ _); refine' comp_vals dr0 dr1 dr2 dr3 ?zqhS ?_ ?zqv0 ?zqv1 ?zqv2 ?zqv3 ?zqv4 ?_; (case zqhS => lcg_src); (case zqv0 => first | assumption | exact bd_port (port_rng (by assumption) (by decide)) | exact bd_far (by assumption) (by assumption)); (case zqv1 => first | assumption | exact bd_port (port_rng (by assumption) (by decide)) | exact bd_far (by assumption) (by assumption)); (case zqv2 => first | assumption | exact bd_port (port_rng (by assumption) (by decide)) | exact bd_far (by assumption) (by assumption)); (case zqv3 => first | assumption | exact bd_port (port_rng (by assumption) (by decide)) | exact bd_far (by assumption) (by assumption)); (case zqv4 => first | assumption | exact bd_port (port_rng (by assumption) (by decide)) | exact bd_far (by assumption) (by assumption)); all_goals first | (intro (c' : Int) u' ys' I' oI' C' oC' D' m' h' tk' E' K' hP' hC' hx' F' N' off' ne' hK'; clear ne') | (intro ct0 ct1 ct2 ct3 ct4))) | (focus ((with_reducible show LCg.CompRest _ _ _ _ _ _ _ (Expr.BinOp _ Operator.Add _ _) _ _ _ _ _ _ _ _ _ _ _); refine' comp_reply k9' ?zqhS ?_ ?zqv0 ?zqv1 ?zqv2 ?zqv3 ?_; (case zqhS => lcg_src); (case zqv0 => first | assumption | exact port_rng (by assumption) (by decide)); (case zqv1 => first | assumption | exact port_rng (by assumption) (by decide)); (case zqv2 => first | assumption | exact port_rng (by assumption) (by decide)); (case zqv3 => first | assumption | exact port_rng (by assumption) (by decide)); all_goals first | (intro (c' : Int) u' ys' I' oI' C' oC' D' m' h' tk' E' K' hP' hC' hx' F' N' off' ne' hK'; clear ne') | (intro ct0 ct1 ct2 ct3))) | (focus ((with_reducible show LCg.CompRest _ _ _ _ _ _ _ (Expr.BinOp _ Operator.Sub _ _) _ _ _ _ _ _ _ _ _ _ _); refine' comp_dist k9' f9' ?zqhS ?_ ?zqv0 ?zqv1 ?zqv2 ?zqv3 ?_; (case zqhS => lcg_src); (case zqv0 => first | assumption | exact port_rng (by assumption) (by decide)); (case zqv1 => first | assumption | exact port_rng (by assumption) (by decide)); (case zqv2 => first | assumption | exact port_rng (by assumption) (by decide)); (case zqv3 => first | assumption | exact port_rng (by assumption) (by decide)); all_goals first | (intro (c' : Int) u' ys' I' oI' C' oC' D' m' h' tk' E' K' hP' hC' hx' F' N' off' ne' hK'; clear ne') | (intro ct0 ct1 ct2 ct3)))))
  k_with "my call builtin:str.join" => (k_here; k_dflt (refine' my_join4 ?zqN ?zqm ?_; (case zqN => k_asm); (case zqm => k_mem); k_whole; intro _ _))
  k_with "my binaryOp Add str str" => (k_here; k_dflt (refine' tx_cat ?zql ?zqe ?_; (case zql => first | ((with_reducible refine cl_quote ?_); exact Nat.le_of_ble_eq_true rfl) | ((with_reducible refine cl_r1 ?_); assumption) | ((with_reducible refine cl_r2 ?_ ?_); assumption; first | assumption | exact port_rng (by assumption) (by decide)) | ((with_reducible refine cl_r3 ?_ ?_); assumption; first | assumption | exact port_rng (by assumption) (by decide)) | ((with_reducible refine cl_r4 ?_ ?_); assumption; first | assumption | exact port_rng (by assumption) (by decide)) | ((with_reducible refine cl_name1 ?_); exact Nat.le_of_ble_eq_true rfl) | ((with_reducible refine cl_name2 ?_); exact Nat.le_of_ble_eq_true rfl)); (case zqe => first | with_reducible exact quote_body _ | with_reducible exact name_eq _ | with_reducible exact reply_eq _ _ | exact rfl); k_whole; intro _ _))
  k_with "my FinE" => ((unfold LCg.FinE); intro D' h' tk' F' N' o1'; (try simp only [List.nil_append, List.cons_append] at N' o1'); (try dsimp only))
  k_with "my FinA" => ((unfold LCg.FinA); intro D' h' tk' F' N' o1'; (try simp only [List.nil_append, List.cons_append] at N' o1'); (try dsimp only))
  k_with "my subscriptTail Constant str BinOp str int" => (k_here; k_dflt (refine' tx_mark ?_ ?zqz3 ?zqz4; (case zqz3 => with_unfolding_all rfl); (case zqz4 => (intro _; with_unfolding_all rfl)); k_whole; intro k9' hk9'))
  k_with "my subscriptTail" => (k_here; (with_reducible show wpAny _ _ (subscriptTail _ _ (Value.str (Str.ofString "|!*~/:") _) _) _ _ _); k_dflt (refine' tx_mark ?_ ?zqz3 ?zqz4; (case zqz3 => with_unfolding_all rfl); (case zqz4 => (intro _; with_unfolding_all rfl)); k_whole; intro k9' hk9'))
  k_with "my binaryOp Mult int str" => (k_here; k_dflt (refine' tx_mul3 ?zqhk ?_; (case zqhk => assumption); k_whole; intro _ _))
  k_with "my binaryOp Mult int int" => (k_here; (with_reducible show wpAny _ _ (binaryOp _ (Value.int (2 ^ _) _) (Value.int (1 - _) _)) _ _ _); k_dflt (refine' tx_far ?_; k_whole; intro e9' f9' hf1' hf2' hf3'))
  k_with "my binaryOp Pow int int" => (k_here; (with_reducible show wpAny _ _ (binaryOp _ (Value.int 2 _) (Value.int (128 + _) _)) _ _ _); k_dflt (refine' tx_pow ?_; k_whole))
  k_with "my call builtin:str.replace" => (k_here; k_dflt (refine' tx_repl ?zqn ?zqu ?zqv ?zqz ?_; (case zqn => exact Nat.le_of_ble_eq_true rfl); (case zqu => (refine neN ?_; (first | lia | omega))); (case zqv => (refine neN ?_; (first | lia | omega))); (case zqz => (refine neN ?_; (first | lia | omega))); k_whole; intro _ _))
  k_with "my compareOp Eq ref ref" => (k_here; (with_reducible show wpAny _ _ (compareOp CmpOp.Eq (Value.ref _) (Value.ref _)) _ _ _); k_dflt (refine' my_eq5 ?zqN ?zqm1 ?zqm2 ?zqu ?_; (case zqN => k_asm); (case zqm1 => k_mem); (case zqm2 => k_mem); (case zqu => units_room); (refine Hold.out ?_)))
  k_with "call ref" => (k_here; k_dflt (refine' Ctr.w1 (d124 _ _ _ _) ?cB ?cF ?cX ?cN ?cT ?cC1 ?cC2 ?ck ?cd ?cu ?_; (case cB => k_asm); (case cF => k_asm); (case cX => k_asm); (case cN => first | k_asm | (simp only [List.append_assoc, List.nil_append, List.append_nil]; k_asm)); (case cT => k_asm); (case cC1 => k_asm); (case cC2 => k_asm); (case ck => first | exact rfl | assumption); (case cd => ktr_room); (case cu => ktr_units); intro t9 h9 tk9 F9 N9; (try dsimp only); (try k_sweep); (try k_fold)))
  k_with "call ref" => (k_here; k_dflt (refine' Ctr.u1_0 (d107n _ _ _ _ ?p1) ?cB ?cF ?cX ?cN ?cT ?cC1 ?cC2 ?ck ?cd ?cu ?_; (case cB => k_asm); (case cF => k_asm); (case cX => k_asm); (case cN => first | k_asm | (simp only [List.append_assoc, List.nil_append, List.append_nil]; k_asm)); (case cT => k_asm); (case cC1 => k_asm); (case cC2 => k_asm); (case ck => first | exact rfl | assumption); (case cd => ktr_room); (case cu => ktr_units); (case p1 => exact Nat.le_of_ble_eq_true rfl); intro t9 h9 tk9 F9 N9; (try dsimp only); (try k_sweep); (try k_fold)))
  k_with "call ref" => (k_here; k_dflt (refine' Ctr.u3_2 (d138n _ _ _ _ ?p1) ?cB ?cF ?cX ?cN ?cT ?cC1 ?cC2 ?ck ?cd ?cu ?_; (case cB => k_asm); (case cF => k_asm); (case cX => k_asm); (case cN => first | k_asm | (simp only [List.append_assoc, List.nil_append, List.append_nil]; k_asm)); (case cT => k_asm); (case cC1 => k_asm); (case cC2 => k_asm); (case ck => first | exact rfl | assumption); (case cd => ktr_room); (case cu => ktr_units); (case p1 => exact Nat.le_of_ble_eq_true rfl); intro D9 vs9 n9 hi9 hn9 h9 tk9 F9 N9; have hof9 := off1_of hn9; clear hn9; (try dsimp only); (try k_sweep); (try k_fold)))
  k_with "call ref" => (k_here; k_dflt (refine' Ctr.u1_0 (d145n _ _ _ _ _ _ _ _ _ ?p1 ?p2 ?p3 ?p4 ?p5) ?cB ?cF ?cX ?cN ?cT ?cC1 ?cC2 ?ck ?cd ?cu ?_; (case cB => k_asm); (case cF => k_asm); (case cX => k_asm); (case cN => first | k_asm | (simp only [List.append_assoc, List.nil_append, List.append_nil]; k_asm)); (case cT => k_asm); (case cC1 => k_asm); (case cC2 => k_asm); (case ck => first | exact rfl | assumption); (case cd => ktr_room); (case cu => ktr_units); (case p1 => k_mem); (case p2 => assumption); (case p3 => exact rfl); (case p4 => assumption); (case p5 => assumption); intro t9 h9 tk9 F9 N9; (try dsimp only); (try k_sweep); (try k_fold)))
  k_with "call ref" => (k_here; k_dflt (refine' Ctr.u1_0 (d131n _ _ _ _ _ _ _ _ _ _ _ _ _ _ ?p1 ?p2) ?cB ?cF ?cX ?cN ?cT ?cC1 ?cC2 ?ck ?cd ?cu ?_; (case cB => k_asm); (case cF => k_asm); (case cX => k_asm); (case cN => first | k_asm | (simp only [List.append_assoc, List.nil_append, List.append_nil]; k_asm)); (case cT => k_asm); (case cC1 => k_asm); (case cC2 => k_asm); (case ck => first | exact rfl | assumption); (case cd => ktr_room); (case cu => ktr_units); (case p1 => k_mem); (case p2 => first | assumption | exact bd_port (port_rng (by assumption) (by decide)) | exact bd_far (by assumption) (by assumption)); intro t9 h9 tk9 F9 N9; (try dsimp only); (try k_sweep); (try k_fold)))
  k_with "call ref" => (k_here; k_dflt (refine' Ctr.u3_0 (d100n _ _ _ _ _ _ _ _ _ _ ?p1 ?p2 ?p3 ?p4) ?cB ?cF ?cX ?cN ?cT ?cC1 ?cC2 ?ck ?cd ?cu ?_; (case cB => k_asm); (case cF => k_asm); (case cX => k_asm); (case cN => first | k_asm | (simp only [List.append_assoc, List.nil_append, List.append_nil]; k_asm)); (case cT => k_asm); (case cC1 => k_asm); (case cC2 => k_asm); (case ck => first | exact rfl | assumption); (case cd => ktr_room); (case cu => ktr_units); (case p1 => assumption); (case p2 => (refine rng_lo ?_; first | assumption | exact port_rng (by assumption) (by decide))); (case p3 => (refine rng_hi ?_; first | assumption | exact port_rng (by assumption) (by decide))); (case p4 => k_mem); intro D9 t09 t19 h9 tk9 F9 N9; (try dsimp only); (try k_sweep); (try k_fold)))
  k_with "call ref" => (k_here; (with_reducible show wpAny _ _ (call (Value.ref 152) _) _ _ _); (refine Hold.out ?_))
  k_with "call ref" => (k_here; k_dflt (refine' Ctr.u7_0 (d157n _ _ _ _ _ _ _ _ _ _ _ _ _ _ _ _ _ _ _ _ _ _ _ _ _ _ _ ?p1 ?p2 ?p3 ?p4 ?p5 ?p6 ?p7 ?q4 ?q5 ?q6 ?q7 ?pP ?pV) ?cB ?cF ?cX ?cN ?cT ?cC1 ?cC2 ?ck ?cd ?cu ?_; (case cB => k_asm); (case cF => k_asm); (case cX => k_asm); (case cN => first | k_asm | (simp only [List.append_assoc, List.nil_append, List.append_nil]; k_asm)); (case cT => k_asm); (case cC1 => k_asm); (case cC2 => k_asm); (case ck => first | exact rfl | assumption); (case cd => ktr_room); (case cu => ktr_units); (case pP => k_mem); (case pV => k_mem); (case p1 => assumption); (case p2 => assumption); (case p3 => assumption); (case p4 => first | assumption | exact port_rng (by assumption) (by decide)); (case p5 => first | assumption | exact port_rng (by assumption) (by decide)); (case p6 => first | assumption | exact port_rng (by assumption) (by decide)); (case p7 => first | assumption | exact port_rng (by assumption) (by decide)); (case q4 => exact port_mod (by assumption) (by decide) rfl); (case q5 => exact port_mod (by assumption) (by decide) rfl); (case q6 => exact port_mod (by assumption) (by decide) rfl); (case q7 => exact port_mod (by assumption) (by decide) rfl); intro D9 n9 t09 t19 t29 t39 t49 h9 tk9 F9 N9; (try dsimp only); (try k_sweep); (try k_fold)))
  k_go0
  (all_goals try k_fold)
  k_steps
  refine Hold.mk ?_
  refine' Ctr.u9_2 (d152n _ _ _ _ _ _ _ _ _ _ _ _ _ _ _ _ _ _ _ ?p1 ?p2 ?p3 ?p4 ?p5 ?p6 ?p7 ?q4 ?q5 ?q6 ?q7 ?pD ?pA ?pB) ?cB ?cF ?cX ?cN ?cT ?cC1 ?cC2 ?ck ?cd ?cu ?_
  case cN => first | exact tabs_first [_, _, _, _, _, _, _, _] (by assumption) | exact tabs_first [_, _, _, _, _, _, _, _, _] (by assumption) | exact tabs_first [_, _, _, _, _, _, _, _, _, _] (by assumption) | exact tabs_first [_, _, _, _, _, _, _, _, _, _, _] (by assumption) | exact tabs_first [_, _, _, _, _, _, _, _, _, _, _, _] (by assumption) | exact tabs_first [_, _, _, _, _, _, _, _, _, _, _, _, _] (by assumption) | exact tabs_first [_, _, _, _, _, _, _, _, _, _, _, _, _, _] (by assumption) | exact tabs_first [_, _, _, _, _, _, _, _, _, _, _, _, _, _, _] (by assumption) | exact tabs_first [_, _, _, _, _, _, _, _, _, _, _, _, _, _, _, _] (by assumption) | exact tabs_first [_, _, _, _, _, _, _, _, _, _, _, _, _, _, _, _, _] (by assumption) | exact tabs_first [_, _, _, _, _, _, _, _, _, _, _, _, _, _, _, _, _, _] (by assumption) | exact tabs_first [_, _, _, _, _, _, _, _, _, _, _, _, _, _, _, _, _, _, _] (by assumption) | exact tabs_first [_, _, _, _, _, _, _, _, _, _, _, _, _, _, _, _, _, _, _, _] (by assumption) | exact tabs_first [_, _, _, _, _, _, _, _, _, _, _, _, _, _, _, _, _, _, _, _, _] (by assumption) | exact tabs_first [_, _, _, _, _, _, _, _, _, _, _, _, _, _, _, _, _, _, _, _, _, _] (by assumption) | exact tabs_first [_, _, _, _, _, _, _, _, _, _, _, _, _, _, _, _, _, _, _, _, _, _, _] (by assumption) | exact tabs_first [_, _, _, _, _, _, _, _, _, _, _, _, _, _, _, _, _, _, _, _, _, _, _, _] (by assumption) | exact tabs_first [_, _, _, _, _, _, _, _, _, _, _, _, _, _, _, _, _, _, _, _, _, _, _, _, _] (by assumption) | exact tabs_first [_, _, _, _, _, _, _, _, _, _, _, _, _, _, _, _, _, _, _, _, _, _, _, _, _, _] (by assumption) | exact tabs_first [_, _, _, _, _, _, _, _, _, _, _, _, _, _, _, _, _, _, _, _, _, _, _, _, _, _, _] (by assumption) | exact tabs_first [_, _, _, _, _, _, _, _, _, _, _, _, _, _, _, _, _, _, _, _, _, _, _, _, _, _, _, _] (by assumption) | exact tabs_first [_, _, _, _, _, _, _, _, _, _, _, _, _, _, _, _, _, _, _, _, _, _, _, _, _, _, _, _, _] (by assumption) | exact tabs_first [_, _, _, _, _, _, _, _, _, _, _, _, _, _, _, _, _, _, _, _, _, _, _, _, _, _, _, _, _, _] (by assumption) | exact tabs_first [_, _, _, _, _, _, _, _, _, _, _, _, _, _, _, _, _, _, _, _, _, _, _, _, _, _, _, _, _, _, _] (by assumption) | exact tabs_first [_, _, _, _, _, _, _, _, _, _, _, _, _, _, _, _, _, _, _, _, _, _, _, _, _, _, _, _, _, _, _, _] (by assumption) | exact tabs_first [_, _, _, _, _, _, _, _, _, _, _, _, _, _, _, _, _, _, _, _, _, _, _, _, _, _, _, _, _, _, _, _, _] (by assumption) | exact tabs_first [_, _, _, _, _, _, _, _, _, _, _, _, _, _, _, _, _, _, _, _, _, _, _, _, _, _, _, _, _, _, _, _, _, _] (by assumption) | exact tabs_first [_, _, _, _, _, _, _, _, _, _, _, _, _, _, _, _, _, _, _, _, _, _, _, _, _, _, _, _, _, _, _, _, _, _, _] (by assumption) | exact tabs_first [_, _, _, _, _, _, _, _, _, _, _, _, _, _, _, _, _, _, _, _, _, _, _, _, _, _, _, _, _, _, _, _, _, _, _, _] (by assumption) | exact tabs_first [_, _, _, _, _, _, _, _, _, _, _, _, _, _, _, _, _, _, _, _, _, _, _, _, _, _, _, _, _, _, _, _, _, _, _, _, _] (by assumption) | exact tabs_first [_, _, _, _, _, _, _, _, _, _, _, _, _, _, _, _, _, _, _, _, _, _, _, _, _, _, _, _, _, _, _, _, _, _, _, _, _, _] (by assumption) | exact tabs_first [_, _, _, _, _, _, _, _, _, _, _, _, _, _, _, _, _, _, _, _, _, _, _, _, _, _, _, _, _, _, _, _, _, _, _, _, _, _, _] (by assumption)
  case pD => first | k_mem
  case cB => first | k_asm
  case cF => first | k_asm
  case cX => first | k_asm
  case cT => first | k_asm
  case cC1 => first | k_asm
  case cC2 => first | k_asm
  case ck => first | exact rfl | assumption
  case cd => first | ktr_room
  case cu => first | ktr_units
  case p1 => first | assumption
  case p2 => first | assumption
  case p3 => first | assumption
  case p4 => first | first | assumption | exact port_rng (by assumption) (by decide)
  case p5 => first | first | assumption | exact port_rng (by assumption) (by decide)
  case p6 => first | first | assumption | exact port_rng (by assumption) (by decide)
  case p7 => first | first | assumption | exact port_rng (by assumption) (by decide)
  case q4 => first | exact port_mod (by assumption) (by decide) rfl
  case q5 => first | exact port_mod (by assumption) (by decide) rfl
  case q6 => first | exact port_mod (by assumption) (by decide) rfl
  case q7 => first | exact port_mod (by assumption) (by decide) rfl
  case pA => (refine apart30 (by assumption) ?_; (repeat (first | exact True.intro | refine off_list rfl ?_ | refine off_far30 (by assumption) (le4 _) ?_ | refine off_far30 (by assumption) (le3 _) ?_ | refine off_far30 (by assumption) (le2 _) ?_ | refine off_far30 (by assumption) (le1 _) ?_)))
  case pB => (refine apart37 (by assumption) ?_; (repeat (first | exact True.intro | refine off_list rfl ?_ | refine off_far37 (by assumption) (le4 _) ?_ | refine off_far37 (by assumption) (le3 _) ?_ | refine off_far37 (by assumption) (le2 _) ?_ | refine off_far37 (by assumption) (le1 _) ?_)))
  intro D9 n9 s09 s19 s29 s39 s49 tl19 tl29 u19 u29 h9 tk9 F9 N9
  obtain ⟨p19, p29, N9'⟩ := keep_tabs N9 u19 u29
  clear N9
  simp only [List.cons_append, List.nil_append] at N9'
  (try dsimp only)
  (try k_sweep)
  (try k_fold)
  k_steps
  refine Hold.mk ?_
  (try k_unfold)
  (try dsimp only)
  refine And.intro ?_ ?_
  · exact goodW_bool (by assumption) (by assumption) (end_raises _) (end_post _)
  · exact ⟨GrownAt.of (by assumption) (by k_mem), GrownAt.of (by assumption) (by k_mem), trivial⟩)
end
end Mine
theorem PySem.Challenge.cw_we0027_01_holds : PySem.Challenge.rw_we0027_01.Holds :=
  Mine.cwx
