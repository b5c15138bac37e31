import PyProof.Rows.All
import Wide.All
import OpenK.AllK
import Wide.FinOn
import Lean
import PySem.Challenge.RW_xn0023_01
open PySem PySem.W PySem.Calls PyProof.Rows
set_option Elab.async false
set_option maxRecDepth 100000
set_option maxHeartbeats 8000000
set_option rowWalk.seconds 0
set_option linter.all false
set_option compiler.extract_closed false
namespace Mine
local macro_rules | `(tactic| walk_at $s:str) => `(tactic| k_extra $s)
local macro_rules | `(tactic| k_mem) => `(tactic| first | assumption | exact List.Mem.head _ | (refine' List.Mem.tail _ ?_; k_mem))
local macro_rules | `(tactic| is_list) => `(tactic| exact News.isList (by k_asm) (by k_mem))
local macro_rules | `(tactic| k_room) => `(tactic| ((try simp only [depth_under_make, depth_under_kw, depth_in1, depth_deeper, depth_caller] at *); (try dsimp only [topA] at *); omega))
local macro_rules | `(tactic| k_inst) => `(tactic| k_extra "inst")
local macro_rules | `(tactic| ktr_rel) => `(tactic| k_extra "rel")
local macro_rules | `(tactic| k_qdec) => `(tactic| decide +kernel)
section
abbrev pw : Program := PySem.Challenge.pw_xn0023_01
noncomputable def stB (st : Stmt) : List Stmt := match st with
  | .FunctionDef _ _ b _ _ _ _ _ _ _ => b
  | .ClassDef _ _ _ b _ _ _ _ _ _ _ => b
  | _ => []
noncomputable def stA (st : Stmt) : Arguments := match st with
  | .FunctionDef _ a _ _ _ _ _ _ _ _ => a
  | _ => ⟨[], [], none, [], [], none, []⟩
noncomputable def stC (st : Stmt) : Scope := match st with
  | .FunctionDef _ _ _ _ _ _ c _ _ _ => c
  | _ => ⟨.function, [], false, false, []⟩
noncomputable def stAt : List Stmt → Nat → Stmt
  | [], _ => .Pass default
  | s :: _, 0 => s
  | _ :: r, n + 1 => stAt r n
noncomputable def fnAt (p : Program) (i : Nat) : Stmt := stAt p.main.body i
noncomputable def mtAt (p : Program) (i j : Nat) : Stmt := stAt (stB (fnAt p i)) j
@[reducible] noncomputable def A600 : Arguments := by
  refine (fun (_ : stA (mtAt pw 5 0) = ?k) => ?k) ?h
  case h => conv => lhs; whnf
@[reducible] noncomputable def B600 : List Stmt := by
  refine (fun (_ : stB (mtAt pw 5 0) = ?k) => ?k) ?h
  case h => conv => lhs; whnf
@[reducible] noncomputable def C600 : Scope := by
  refine (fun (_ : stC (mtAt pw 5 0) = ?k) => ?k) ?h
  case h => conv => lhs; whnf
@[reducible] noncomputable def A601 : Arguments := by
  refine (fun (_ : stA (mtAt pw 5 1) = ?k) => ?k) ?h
  case h => conv => lhs; whnf
@[reducible] noncomputable def B601 : List Stmt := by
  refine (fun (_ : stB (mtAt pw 5 1) = ?k) => ?k) ?h
  case h => conv => lhs; whnf
@[reducible] noncomputable def C601 : Scope := by
  refine (fun (_ : stC (mtAt pw 5 1) = ?k) => ?k) ?h
  case h => conv => lhs; whnf
@[reducible] noncomputable def A603 : Arguments := by
  refine (fun (_ : stA (mtAt pw 5 3) = ?k) => ?k) ?h
  case h => conv => lhs; whnf
@[reducible] noncomputable def B603 : List Stmt := by
  refine (fun (_ : stB (mtAt pw 5 3) = ?k) => ?k) ?h
  case h => conv => lhs; whnf
@[reducible] noncomputable def C603 : Scope := by
  refine (fun (_ : stC (mtAt pw 5 3) = ?k) => ?k) ?h
  case h => conv => lhs; whnf
@[reducible] noncomputable def A604 : Arguments := by
  refine (fun (_ : stA (mtAt pw 5 4) = ?k) => ?k) ?h
  case h => conv => lhs; whnf
@[reducible] noncomputable def B604 : List Stmt := by
  refine (fun (_ : stB (mtAt pw 5 4) = ?k) => ?k) ?h
  case h => conv => lhs; whnf
@[reducible] noncomputable def C604 : Scope := by
  refine (fun (_ : stC (mtAt pw 5 4) = ?k) => ?k) ?h
  case h => conv => lhs; whnf
@[reducible] noncomputable def A608 : Arguments := by
  refine (fun (_ : stA (mtAt pw 5 8) = ?k) => ?k) ?h
  case h => conv => lhs; whnf
@[reducible] noncomputable def B608 : List Stmt := by
  refine (fun (_ : stB (mtAt pw 5 8) = ?k) => ?k) ?h
  case h => conv => lhs; whnf
@[reducible] noncomputable def C608 : Scope := by
  refine (fun (_ : stC (mtAt pw 5 8) = ?k) => ?k) ?h
  case h => conv => lhs; whnf
@[reducible] noncomputable def A611 : Arguments := by
  refine (fun (_ : stA (mtAt pw 5 11) = ?k) => ?k) ?h
  case h => conv => lhs; whnf
@[reducible] noncomputable def B611 : List Stmt := by
  refine (fun (_ : stB (mtAt pw 5 11) = ?k) => ?k) ?h
  case h => conv => lhs; whnf
@[reducible] noncomputable def C611 : Scope := by
  refine (fun (_ : stC (mtAt pw 5 11) = ?k) => ?k) ?h
  case h => conv => lhs; whnf
@[reducible] noncomputable def A900 : Arguments := by
  refine (fun (_ : stA (mtAt pw 8 0) = ?k) => ?k) ?h
  case h => conv => lhs; whnf
@[reducible] noncomputable def B900 : List Stmt := by
  refine (fun (_ : stB (mtAt pw 8 0) = ?k) => ?k) ?h
  case h => conv => lhs; whnf
@[reducible] noncomputable def C900 : Scope := by
  refine (fun (_ : stC (mtAt pw 8 0) = ?k) => ?k) ?h
  case h => conv => lhs; whnf
@[reducible] noncomputable def A901 : Arguments := by
  refine (fun (_ : stA (mtAt pw 8 1) = ?k) => ?k) ?h
  case h => conv => lhs; whnf
@[reducible] noncomputable def B901 : List Stmt := by
  refine (fun (_ : stB (mtAt pw 8 1) = ?k) => ?k) ?h
  case h => conv => lhs; whnf
@[reducible] noncomputable def C901 : Scope := by
  refine (fun (_ : stC (mtAt pw 8 1) = ?k) => ?k) ?h
  case h => conv => lhs; whnf
@[reducible] noncomputable def A903 : Arguments := by
  refine (fun (_ : stA (mtAt pw 8 3) = ?k) => ?k) ?h
  case h => conv => lhs; whnf
@[reducible] noncomputable def B903 : List Stmt := by
  refine (fun (_ : stB (mtAt pw 8 3) = ?k) => ?k) ?h
  case h => conv => lhs; whnf
@[reducible] noncomputable def C903 : Scope := by
  refine (fun (_ : stC (mtAt pw 8 3) = ?k) => ?k) ?h
  case h => conv => lhs; whnf
@[reducible] noncomputable def A908 : Arguments := by
  refine (fun (_ : stA (mtAt pw 8 8) = ?k) => ?k) ?h
  case h => conv => lhs; whnf
@[reducible] noncomputable def B908 : List Stmt := by
  refine (fun (_ : stB (mtAt pw 8 8) = ?k) => ?k) ?h
  case h => conv => lhs; whnf
@[reducible] noncomputable def C908 : Scope := by
  refine (fun (_ : stC (mtAt pw 8 8) = ?k) => ?k) ?h
  case h => conv => lhs; whnf
@[reducible] noncomputable def A13 : Arguments := by
  refine (fun (_ : stA (fnAt pw 13) = ?k) => ?k) ?h
  case h => conv => lhs; whnf
@[reducible] noncomputable def B13 : List Stmt := by
  refine (fun (_ : stB (fnAt pw 13) = ?k) => ?k) ?h
  case h => conv => lhs; whnf
@[reducible] noncomputable def C13 : Scope := by
  refine (fun (_ : stC (fnAt pw 13) = ?k) => ?k) ?h
  case h => conv => lhs; whnf
@[reducible] noncomputable def A14 : Arguments := by
  refine (fun (_ : stA (fnAt pw 14) = ?k) => ?k) ?h
  case h => conv => lhs; whnf
@[reducible] noncomputable def B14 : List Stmt := by
  refine (fun (_ : stB (fnAt pw 14) = ?k) => ?k) ?h
  case h => conv => lhs; whnf
@[reducible] noncomputable def C14 : Scope := by
  refine (fun (_ : stC (fnAt pw 14) = ?k) => ?k) ?h
  case h => conv => lhs; whnf
@[reducible] noncomputable def A16 : Arguments := by
  refine (fun (_ : stA (fnAt pw 16) = ?k) => ?k) ?h
  case h => conv => lhs; whnf
@[reducible] noncomputable def B16 : List Stmt := by
  refine (fun (_ : stB (fnAt pw 16) = ?k) => ?k) ?h
  case h => conv => lhs; whnf
@[reducible] noncomputable def C16 : Scope := by
  refine (fun (_ : stC (fnAt pw 16) = ?k) => ?k) ?h
  case h => conv => lhs; whnf
@[reducible] noncomputable def A17 : Arguments := by
  refine (fun (_ : stA (fnAt pw 17) = ?k) => ?k) ?h
  case h => conv => lhs; whnf
@[reducible] noncomputable def B17 : List Stmt := by
  refine (fun (_ : stB (fnAt pw 17) = ?k) => ?k) ?h
  case h => conv => lhs; whnf
@[reducible] noncomputable def C17 : Scope := by
  refine (fun (_ : stC (fnAt pw 17) = ?k) => ?k) ?h
  case h => conv => lhs; whnf
@[reducible] noncomputable def A18 : Arguments := by
  refine (fun (_ : stA (fnAt pw 18) = ?k) => ?k) ?h
  case h => conv => lhs; whnf
@[reducible] noncomputable def B18 : List Stmt := by
  refine (fun (_ : stB (fnAt pw 18) = ?k) => ?k) ?h
  case h => conv => lhs; whnf
@[reducible] noncomputable def C18 : Scope := by
  refine (fun (_ : stC (fnAt pw 18) = ?k) => ?k) ?h
  case h => conv => lhs; whnf
@[reducible] noncomputable def A19 : Arguments := by
  refine (fun (_ : stA (fnAt pw 19) = ?k) => ?k) ?h
  case h => conv => lhs; whnf
@[reducible] noncomputable def B19 : List Stmt := by
  refine (fun (_ : stB (fnAt pw 19) = ?k) => ?k) ?h
  case h => conv => lhs; whnf
@[reducible] noncomputable def C19 : Scope := by
  refine (fun (_ : stC (fnAt pw 19) = ?k) => ?k) ?h
  case h => conv => lhs; whnf
@[reducible] noncomputable def A20 : Arguments := by
  refine (fun (_ : stA (fnAt pw 20) = ?k) => ?k) ?h
  case h => conv => lhs; whnf
@[reducible] noncomputable def B20 : List Stmt := by
  refine (fun (_ : stB (fnAt pw 20) = ?k) => ?k) ?h
  case h => conv => lhs; whnf
@[reducible] noncomputable def C20 : Scope := by
  refine (fun (_ : stC (fnAt pw 20) = ?k) => ?k) ?h
  case h => conv => lhs; whnf
@[reducible] noncomputable def A21 : Arguments := by
  refine (fun (_ : stA (fnAt pw 21) = ?k) => ?k) ?h
  case h => conv => lhs; whnf
@[reducible] noncomputable def B21 : List Stmt := by
  refine (fun (_ : stB (fnAt pw 21) = ?k) => ?k) ?h
  case h => conv => lhs; whnf
@[reducible] noncomputable def C21 : Scope := by
  refine (fun (_ : stC (fnAt pw 21) = ?k) => ?k) ?h
  case h => conv => lhs; whnf
@[reducible] noncomputable def A22 : Arguments := by
  refine (fun (_ : stA (fnAt pw 22) = ?k) => ?k) ?h
  case h => conv => lhs; whnf
@[reducible] noncomputable def B22 : List Stmt := by
  refine (fun (_ : stB (fnAt pw 22) = ?k) => ?k) ?h
  case h => conv => lhs; whnf
@[reducible] noncomputable def C22 : Scope := by
  refine (fun (_ : stC (fnAt pw 22) = ?k) => ?k) ?h
  case h => conv => lhs; whnf
@[reducible] noncomputable def A23 : Arguments := by
  refine (fun (_ : stA (fnAt pw 23) = ?k) => ?k) ?h
  case h => conv => lhs; whnf
@[reducible] noncomputable def B23 : List Stmt := by
  refine (fun (_ : stB (fnAt pw 23) = ?k) => ?k) ?h
  case h => conv => lhs; whnf
@[reducible] noncomputable def C23 : Scope := by
  refine (fun (_ : stC (fnAt pw 23) = ?k) => ?k) ?h
  case h => conv => lhs; whnf
@[reducible] noncomputable def A24 : Arguments := by
  refine (fun (_ : stA (fnAt pw 24) = ?k) => ?k) ?h
  case h => conv => lhs; whnf
@[reducible] noncomputable def B24 : List Stmt := by
  refine (fun (_ : stB (fnAt pw 24) = ?k) => ?k) ?h
  case h => conv => lhs; whnf
@[reducible] noncomputable def C24 : Scope := by
  refine (fun (_ : stC (fnAt pw 24) = ?k) => ?k) ?h
  case h => conv => lhs; whnf
@[reducible] noncomputable def A25 : Arguments := by
  refine (fun (_ : stA (fnAt pw 25) = ?k) => ?k) ?h
  case h => conv => lhs; whnf
@[reducible] noncomputable def B25 : List Stmt := by
  refine (fun (_ : stB (fnAt pw 25) = ?k) => ?k) ?h
  case h => conv => lhs; whnf
@[reducible] noncomputable def C25 : Scope := by
  refine (fun (_ : stC (fnAt pw 25) = ?k) => ?k) ?h
  case h => conv => lhs; whnf
def nDec : Nat → Nat → List Nat
  | 0, _ => []
  | f + 1, n => match Nat.beq n 0 with
    | true => []
    | false => (n % 256) :: nDec f (n / 256)
def nS (n : Nat) : Str := ⟨⟨nDec 100 n⟩⟩
noncomputable def heapG (a600 a601 a603 a604 a608 a611 a900 a901 a903 a908 a13 a14 a16 a17 a18 a19 a20 a21 a22 a23 a24 a25 : Arguments) (b600 b601 b603 b604 b608 b611 b900 b901 b903 b908 b13 b14 b16 b17 b18 b19 b20 b21 b22 b23 b24 b25 : List Stmt) (c600 c601 c603 c604 c608 c611 c900 c901 c903 c908 c13 c14 c16 c17 c18 c19 c20 c21 c22 c23 c24 c25 : Scope) (t0 t1 t2 t3 t4 t5 t6 t7 t8 t9 t10 t11 t12 t13 t14 t15 t16 t17 t18 : String) (P : Params) : Frag :=
  (nat_lit 2, ⟨.none, none, (.dict #[⟨(PyData.keyHash P (nS 8837286424365433759635949326514467810340201)), (.str (nS 8837286424365433759635949326514467810340201) 183), (.bool true)⟩, ⟨(PyData.keyHash P (nS 3728470322240053049079576465832109055369234558038098315406804688336906972080806335947135347811)), (.str (nS 3728470322240053049079576465832109055369234558038098315406804688336906972080806335947135347811) 185), (.ref 14)⟩, ⟨(PyData.keyHash P (nS 2361826013302680067473494443843959)), (.str (nS 2361826013302680067473494443843959) 206), (.ref 18)⟩, ⟨(PyData.keyHash P (nS 2946380517030858713114653844204496399036174277475936840654751912383391683649301603)), (.str (nS 2946380517030858713114653844204496399036174277475936840654751912383391683649301603) 216), (.ref 22)⟩, ⟨(PyData.keyHash P (nS 2559596590456276870744892144784365972789414483997612013939)), (.str (nS 2559596590456276870744892144784365972789414483997612013939) 245), (.int (3) 0)⟩, ⟨(PyData.keyHash P (nS 37955856178034320852043699157666765751758262350409065)), (.str (nS 37955856178034320852043699157666765751758262350409065) 270), (.bool true)⟩, ⟨(PyData.keyHash P (nS 630587835109558011148807705806004599)), (.str (nS 630587835109558011148807705806004599) 272), (.ref 27)⟩, ⟨(PyData.keyHash P (nS 11058357720238372101960424421555532572879895914658161015)), (.str (nS 11058357720238372101960424421555532572879895914658161015) 0), (.str (nS 12) 0)⟩, ⟨(PyData.keyHash P (nS 636793597563884675380037195558914344438969838603629105537399)), (.str (nS 636793597563884675380037195558914344438969838603629105537399) 273), (.str ⟨#[4, 0, 0, 11, 4, 0, 0, 11, 4, 0, 0, 3, 4, 0, 0, 11, 8, 4, 100, 105, 99, 116, 2]⟩ 0)⟩, ⟨(PyData.keyHash P (nS 85129116768494180498695589069698160004955354133340253633475733047347280244)), (.str (nS 85129116768494180498695589069698160004955354133340253633475733047347280244) 624), (.int (269) 0)⟩, ⟨(PyData.keyHash P (nS 194673634784754008932860034115759107986259355739628629037015317527489706356)), (.str (nS 194673634784754008932860034115759107986259355739628629037015317527489706356) 625), (.int (1) 0)⟩] 11), #[]⟩) ::
  (nat_lit 3, ⟨(.type t0), none, (.dict #[⟨(PyData.keyHash P (nS 6872323076851130207)), (.str (nS 6872323076851130207) 165), (.str (nS 3897150333389740721967403065708) 684)⟩, ⟨(PyData.keyHash P (nS 26845003462762335)), (.str (nS 26845003462762335) 166), .none⟩, ⟨(PyData.keyHash P (nS 115298448249767165785300831)), (.str (nS 115298448249767165785300831) 167), .none⟩, ⟨(PyData.keyHash P (nS 450385499664681318244191)), (.str (nS 450385499664681318244191) 168), (.builtin t1)⟩, ⟨(PyData.keyHash P (nS 6872320843720122207)), (.str (nS 6872320843720122207) 169), .none⟩, ⟨(PyData.keyHash P (nS 495204175889884515450050897942503263)), (.str (nS 495204175889884515450050897942503263) 170), (.ref 6)⟩, ⟨(PyData.keyHash P (nS 29516468994777367089179156319)), (.str (nS 29516468994777367089179156319) 171), (.ref 4)⟩, ⟨(PyData.keyHash P (nS 6872323072689856351)), (.str (nS 6872323072689856351) 173), (.str (nS 9621326145873605890393926034223) 172)⟩, ⟨(PyData.keyHash P (nS 450384490862771188227935)), (.str (nS 450384490862771188227935) 174), .none⟩, ⟨(PyData.keyHash P (nS 1701999455)), (.str (nS 1701999455) 275), (.ref 12)⟩, ⟨(PyData.keyHash P (nS 465674794847)), (.str (nS 465674794847) 288), (.ref 38)⟩, ⟨(PyData.keyHash P (nS 2262338525922315090394735451395041983348174431)), (.str (nS 2262338525922315090394735451395041983348174431) 316), (.ref 43)⟩, ⟨(PyData.keyHash P (nS 579158662636112663141052275557130747771676096095)), (.str (nS 579158662636112663141052275557130747771676096095) 350), (.ref 48)⟩, ⟨(PyData.keyHash P (nS 32495402123093320)), (.str (nS 32495402123093320) 506), (.ref 171)⟩, ⟨(PyData.keyHash P (nS 86203430323078136813604165)), (.str (nS 86203430323078136813604165) 510), (.str (nS 0) 509)⟩, ⟨(PyData.keyHash P (nS 35416031477272022781006135647)), (.str (nS 35416031477272022781006135647) 605), (.ref 255)⟩, ⟨(PyData.keyHash P (nS 491496043077)), (.str (nS 491496043077) 627), (.ref 269)⟩, ⟨(PyData.keyHash P (nS 146792113098866397568725605)), (.str (nS 146792113098866397568725605) 643), (.ref 282)⟩, ⟨(PyData.keyHash P (nS 134740616324024761813463653)), (.str (nS 134740616324024761813463653) 659), (.ref 294)⟩, ⟨(PyData.keyHash P (nS 4121412020307386736)), (.str (nS 4121412020307386736) 672), (.ref 303)⟩, ⟨(PyData.keyHash P (nS 3978141257161662832)), (.str (nS 3978141257161662832) 683), (.ref 310)⟩, ⟨(PyData.keyHash P (nS 1871002853623843613791)), (.str (nS 1871002853623843613791) 692), (.ref 317)⟩, ⟨(PyData.keyHash P (nS 2018938226680686275679)), (.str (nS 2018938226680686275679) 704), (.ref 324)⟩, ⟨(PyData.keyHash P (nS 1852267884671540489311)), (.str (nS 1852267884671540489311) 711), (.ref 331)⟩, ⟨(PyData.keyHash P (nS 544943222690827871546463)), (.str (nS 544943222690827871546463) 718), (.ref 338)⟩, ⟨(PyData.keyHash P (nS 1851980763702621203551)), (.str (nS 1851980763702621203551) 733), (.ref 345)⟩, ⟨(PyData.keyHash P (nS 7959393670797552735)), (.str (nS 7959393670797552735) 746), (.ref 352)⟩, ⟨(PyData.keyHash P (nS 493274182471688057351263)), (.str (nS 493274182471688057351263) 752), (.ref 357)⟩, ⟨(PyData.keyHash P (nS 1851980774697737481311)), (.str (nS 1851980774697737481311) 759), (.ref 364)⟩, ⟨(PyData.keyHash P (nS 2128612401588528573535)), (.str (nS 2128612401588528573535) 766), (.ref 371)⟩, ⟨(PyData.keyHash P (nS 7823724)), (.str (nS 7823724) 772), (.ref 376)⟩] 31), #[]⟩) ::
  (nat_lit 42, ⟨(.type t2), none, (.seq #[(.int (14) 0), (.int (10) 0), (.int (4) 0), (.int (1) 0), (.int (1) 0), (.int (22) 0), (.int (0) 0), (.int (31) 0), (.int (16) 0), (.int (127) 0), (.int (0) 0), (.int (13) 0), (.int (7) 0), (.int (22) 0), (.int (0) 0), (.int (31) 0), (.int (16) 0), (.int (127) 0), (.int (0) 0), (.int (1) 0)] 0), #[]⟩) ::
  (nat_lit 43, ⟨(.type t3), none, (.fields #[(.str (nS 484307771314686703104651396508048475) 292), (.int (32) 315), (.int (0) 0), .none, .none, (.ref 42), (.int (0) 0)]), #[]⟩) ::
  (nat_lit 47, ⟨(.type t2), none, (.seq #[(.int (14) 0), (.int (14) 0), (.int (4) 0), (.int (1) 0), (.int (1) 0), (.int (9) 0), (.int (4294966783) 0), (.int (0) 0), (.int (0) 0), (.int (2147483648) 0), (.int (0) 0), (.int (0) 0), (.int (0) 0), (.int (0) 0), (.int (0) 0), (.int (13) 0), (.int (11) 0), (.int (9) 0), (.int (4294966783) 0), (.int (0) 0), (.int (0) 0), (.int (2147483648) 0), (.int (0) 0), (.int (0) 0), (.int (0) 0), (.int (0) 0), (.int (0) 0), (.int (1) 0)] 0), #[]⟩) ::
  (nat_lit 48, ⟨(.type t3), none, (.fields #[(.str (nS 2287078786649773496352085654749797329628728473096453381211) 318), (.int (32) 349), (.int (0) 0), .none, .none, (.ref 47), (.int (0) 0)]), #[]⟩) ::
  (nat_lit 56, ⟨(.type t2), none, (.seq #[.none] 0), #[]⟩) ::
  (nat_lit 62, ⟨(.type t4), none, (.fields #[(.str (nS 6872339552563453791) 363), (.str (nS 126772288913769642814107891050813154632) 364), (.str (nS 9621326145873605890393926034223) 365), (.int (10) 0), (.int (2) 0), (.int (0) 0), (.int (0) 0), (.int (3) 0), (.ref 57), (.bool true), (.int (276) 0), (.ref 58), .none, (.ref 59), (.ref 60), (.ref 61), (.int (370) 0), (.int (10) 0), (.str (nS 9621326145873605890393926034223) 371)]), #[]⟩) ::
  (nat_lit 63, ⟨(.type t5), none, (.func { name := (nS 6872339552563453791), qualname := (nS 126772288913769642814107891050813154632), params := a600, body := .stmts b600, scope := c600, globals := 3, closure := [], defaults := (.ref 56), kwdefaults := .none, doc := .none, pyModule := (.str (nS 43193798236304276640519782313288960704591398165901411) 289), annotations := none, code := (.ref 62), closureTuple := .none, builtins := 0 }), #[]⟩) ::
  (nat_lit 69, ⟨(.type t4), none, (.fields #[(.str (nS 579116331501609233153537167548215045938404615007) 373), (.str (nS 10682810756115726240506045382439856913743586798720680479278942479688) 374), (.str (nS 9621326145873605890393926034223) 375), (.int (20) 0), (.int (2) 0), (.int (0) 0), (.int (1) 0), (.int (3) 0), (.ref 64), (.bool true), (.int (276) 0), (.ref 65), .none, (.ref 66), (.ref 67), (.ref 68), (.int (380) 0), (.int (20) 0), (.str (nS 9621326145873605890393926034223) 381)]), #[]⟩) ::
  (nat_lit 70, ⟨(.type t5), none, (.func { name := (nS 579116331501609233153537167548215045938404615007), qualname := (nS 10682810756115726240506045382439856913743586798720680479278942479688), params := a601, body := .stmts b601, scope := c601, globals := 3, closure := [], defaults := .none, kwdefaults := .none, doc := .none, pyModule := (.str (nS 43193798236304276640519782313288960704591398165901411) 289), annotations := none, code := (.ref 69), closureTuple := .none, builtins := 0 }), #[]⟩) ::
  (nat_lit 83, ⟨(.type t4), none, (.fields #[(.str (nS 115298595684950466001854303) 390), (.str (nS 2126883686658393688909081104253509626557982024) 391), (.str (nS 9621326145873605890393926034223) 392), (.int (31) 0), (.int (3) 0), (.int (0) 0), (.int (0) 0), (.int (3) 0), (.ref 78), (.bool true), (.int (276) 0), (.ref 79), .none, (.ref 80), (.ref 81), (.ref 82), (.int (396) 0), (.int (31) 0), (.str (nS 9621326145873605890393926034223) 397)]), #[]⟩) ::
  (nat_lit 84, ⟨(.type t5), none, (.func { name := (nS 115298595684950466001854303), qualname := (nS 2126883686658393688909081104253509626557982024), params := a603, body := .stmts b603, scope := c603, globals := 3, closure := [], defaults := .none, kwdefaults := .none, doc := .none, pyModule := (.str (nS 43193798236304276640519782313288960704591398165901411) 289), annotations := none, code := (.ref 83), closureTuple := .none, builtins := 0 }), #[]⟩) ::
  (nat_lit 88, ⟨(.type t4), none, (.fields #[(.str (nS 115298595684950431641132895) 399), (.str (nS 2126883686658393055065647102844589440585786696) 400), (.str (nS 9621326145873605890393926034223) 401), (.int (35) 0), (.int (2) 0), (.int (0) 0), (.int (0) 0), (.int (3) 0), (.ref 85), (.bool true), (.int (276) 0), (.ref 86), .none, .none, .none, (.ref 87), (.int (402) 0), (.int (35) 0), (.str (nS 9621326145873605890393926034223) 403)]), #[]⟩) ::
  (nat_lit 89, ⟨(.type t5), none, (.func { name := (nS 115298595684950431641132895), qualname := (nS 2126883686658393055065647102844589440585786696), params := a604, body := .stmts b604, scope := c604, globals := 3, closure := [], defaults := .none, kwdefaults := .none, doc := .none, pyModule := (.str (nS 43193798236304276640519782313288960704591398165901411) 289), annotations := none, code := (.ref 88), closureTuple := .none, builtins := 0 }), #[]⟩) ::
  (nat_lit 111, ⟨(.type t2), none, (.seq #[.none] 0), #[]⟩) ::
  (nat_lit 117, ⟨(.type t4), none, (.fields #[(.str (nS 7628135) 429), (.str (nS 140714257451851138384094536) 430), (.str (nS 9621326145873605890393926034223) 431), (.int (48) 0), (.int (3) 0), (.int (0) 0), (.int (0) 0), (.int (3) 0), (.ref 112), (.bool true), (.int (276) 0), (.ref 113), .none, (.ref 114), (.ref 115), (.ref 116), (.int (437) 0), (.int (48) 0), (.str (nS 9621326145873605890393926034223) 438)]), #[]⟩) ::
  (nat_lit 118, ⟨(.type t5), none, (.func { name := (nS 7628135), qualname := (nS 140714257451851138384094536), params := a608, body := .stmts b608, scope := c608, globals := 3, closure := [], defaults := (.ref 111), kwdefaults := .none, doc := .none, pyModule := (.str (nS 43193798236304276640519782313288960704591398165901411) 289), annotations := none, code := (.ref 117), closureTuple := .none, builtins := 0 }), #[]⟩) ::
  (nat_lit 134, ⟨(.type t4), none, (.fields #[(.str (nS 495756604521) 452), (.str (nS 9145095206453473798641416234312) 453), (.str (nS 9621326145873605890393926034223) 454), (.int (61) 0), (.int (1) 0), (.int (0) 0), (.int (0) 0), (.int (3) 0), (.ref 129), (.bool true), (.int (276) 0), (.ref 130), .none, (.ref 131), (.ref 132), (.ref 133), (.int (456) 0), (.int (61) 0), (.str (nS 9621326145873605890393926034223) 457)]), #[]⟩) ::
  (nat_lit 135, ⟨(.type t5), none, (.func { name := (nS 495756604521), qualname := (nS 9145095206453473798641416234312), params := a611, body := .stmts b611, scope := c611, globals := 3, closure := [], defaults := .none, kwdefaults := .none, doc := .none, pyModule := (.str (nS 43193798236304276640519782313288960704591398165901411) 289), annotations := none, code := (.ref 134), closureTuple := .none, builtins := 0 }), #[]⟩) ::
  (nat_lit 170, ⟨(.type t0), none, (.dict #[⟨(PyData.keyHash P (nS 450384564904988244795231)), (.str (nS 450384564904988244795231) 358), (.str (nS 43193798236304276640519782313288960704591398165901411) 289)⟩, ⟨(PyData.keyHash P (nS 495203858965168609907421719000670047)), (.str (nS 495203858965168609907421719000670047) 362), (.int (8) 361)⟩, ⟨(PyData.keyHash P (nS 6872339552563453791)), (.str (nS 6872339552563453791) 372), (.ref 63)⟩, ⟨(PyData.keyHash P (nS 579116331501609233153537167548215045938404615007)), (.str (nS 579116331501609233153537167548215045938404615007) 382), (.ref 70)⟩, ⟨(PyData.keyHash P (nS 26845050540154719)), (.str (nS 26845050540154719) 389), (.ref 77)⟩, ⟨(PyData.keyHash P (nS 115298595684950466001854303)), (.str (nS 115298595684950466001854303) 398), (.ref 84)⟩, ⟨(PyData.keyHash P (nS 115298595684950431641132895)), (.str (nS 115298595684950431641132895) 404), (.ref 89)⟩, ⟨(PyData.keyHash P (nS 115298595684950466001067871)), (.str (nS 115298595684950466001067871) 412), (.ref 96)⟩, ⟨(PyData.keyHash P (nS 29516468994772027882088914783)), (.str (nS 29516468994772027882088914783) 420), (.ref 103)⟩, ⟨(PyData.keyHash P (nS 30518462953842023)), (.str (nS 30518462953842023) 428), (.ref 110)⟩, ⟨(PyData.keyHash P (nS 7628135)), (.str (nS 7628135) 439), (.ref 118)⟩, ⟨(PyData.keyHash P (nS 1937335659)), (.str (nS 1937335659) 445), (.ref 123)⟩, ⟨(PyData.keyHash P (nS 126879598928246)), (.str (nS 126879598928246) 451), (.ref 128)⟩, ⟨(PyData.keyHash P (nS 495756604521)), (.str (nS 495756604521) 458), (.ref 135)⟩, ⟨(PyData.keyHash P (nS 6872337383454564191)), (.str (nS 6872337383454564191) 465), (.ref 142)⟩, ⟨(PyData.keyHash P (nS 26845067972140895)), (.str (nS 26845067972140895) 471), (.ref 147)⟩, ⟨(PyData.keyHash P (nS 1759318639609259384671)), (.str (nS 1759318639609259384671) 478), (.ref 154)⟩, ⟨(PyData.keyHash P (nS 549795218527000317945203)), (.str (nS 549795218527000317945203) 487), (.ref 161)⟩, ⟨(PyData.keyHash P (nS 540220133372559704220769)), (.str (nS 540220133372559704220769) 497), (.ref 168)⟩, ⟨(PyData.keyHash P (nS 139387583093331537335747288891456728448373227741023)), (.str (nS 139387583093331537335747288891456728448373227741023) 499), (.ref 169)⟩, ⟨(PyData.keyHash P (nS 6872339526709436255)), (.str (nS 6872339526709436255) 501), (.ref 172)⟩, ⟨(PyData.keyHash P (nS 115298466557181117500710751)), (.str (nS 115298466557181117500710751) 503), (.ref 173)⟩, ⟨(PyData.keyHash P (nS 26845003462762335)), (.str (nS 26845003462762335) 504), .none⟩] 4), #[]⟩) ::
  (nat_lit 171, ⟨(.type t7), none, (.cls { name := (nS 32495402123093320), bases := [(.type t8)], mro := [(.ref 171), (.type t8)], ns := 170, qualname := (nS 32495402123093320), hasDict := true, slotNames := [], subclasses := [], abstract := false, collection := none, hasDel := false }), #[none, none, some (.str (nS 32495402123093320) 351), some (.str (nS 32495402123093320) 359), some (.builtin t6), some (.bool true)]⟩) ::
  (nat_lit 172, ⟨(.type t9), none, (.fields #[(.str (nS 6872339526709436255) 500), (.ref 171), (.builtin t10), (.builtin t11)]), #[]⟩) ::
  (nat_lit 173, ⟨(.type t9), none, (.fields #[(.str (nS 115298466557181117500710751) 502), (.ref 171), (.builtin t12), .none]), #[]⟩) ::
  (nat_lit 179, ⟨(.type t13), none, (.cell (some (.ref 255))), #[]⟩) ::
  (nat_lit 184, ⟨(.type t2), none, (.seq #[(.int (0) 523)] 0), #[]⟩) ::
  (nat_lit 185, ⟨(.type t2), none, (.seq #[(.ref 179)] 0), #[]⟩) ::
  (nat_lit 191, ⟨(.type t4), none, (.fields #[(.str (nS 6872339552563453791) 524), (.str (nS 139387605740468218870833555625559708778051368337759) 525), (.str (nS 9621326145873605890393926034223) 526), (.int (82) 0), (.int (2) 0), (.int (0) 0), (.int (0) 0), (.int (3) 0), (.ref 186), (.bool true), (.int (276) 0), (.ref 187), .none, (.ref 188), (.ref 189), (.ref 190), (.int (530) 0), (.int (82) 0), (.str (nS 9621326145873605890393926034223) 531)]), #[]⟩) ::
  (nat_lit 192, ⟨(.type t5), none, (.func { name := (nS 6872339552563453791), qualname := (nS 139387605740468218870833555625559708778051368337759), params := a900, body := .stmts b900, scope := c900, globals := 3, closure := [((nS 1759318654920599756639), 179)], defaults := (.ref 184), kwdefaults := .none, doc := .none, pyModule := (.str (nS 2551117451209941539387618285726463989695213667) 507), annotations := none, code := (.ref 191), closureTuple := (.ref 185), builtins := 0 }), #[]⟩) ::
  (nat_lit 198, ⟨(.type t4), none, (.fields #[(.str (nS 1752397168) 533), (.str (nS 35542837153335101216527954087082824253791) 534), (.str (nS 9621326145873605890393926034223) 535), (.int (86) 0), (.int (3) 0), (.int (0) 0), (.int (0) 0), (.int (3) 0), (.ref 193), (.bool true), (.int (276) 0), (.ref 194), .none, (.ref 195), (.ref 196), (.ref 197), (.int (539) 0), (.int (86) 0), (.str (nS 9621326145873605890393926034223) 540)]), #[]⟩) ::
  (nat_lit 199, ⟨(.type t5), none, (.func { name := (nS 1752397168), qualname := (nS 35542837153335101216527954087082824253791), params := a901, body := .stmts b901, scope := c901, globals := 3, closure := [], defaults := .none, kwdefaults := .none, doc := .none, pyModule := (.str (nS 2551117451209941539387618285726463989695213667) 507), annotations := none, code := (.ref 198), closureTuple := .none, builtins := 0 }), #[]⟩) ::
  (nat_lit 208, ⟨(.type t2), none, (.seq #[(.ref 179)] 0), #[]⟩) ::
  (nat_lit 214, ⟨(.type t4), none, (.fields #[(.str (nS 7368560) 551), (.str (nS 149452155788995059752512310020113908063) 552), (.str (nS 9621326145873605890393926034223) 553), (.int (92) 0), (.int (1) 0), (.int (0) 0), (.int (0) 0), (.int (3) 0), (.ref 209), (.bool true), (.int (276) 0), (.ref 210), .none, (.ref 211), (.ref 212), (.ref 213), (.int (556) 0), (.int (92) 0), (.str (nS 9621326145873605890393926034223) 557)]), #[]⟩) ::
  (nat_lit 215, ⟨(.type t5), none, (.func { name := (nS 7368560), qualname := (nS 149452155788995059752512310020113908063), params := a903, body := .stmts b903, scope := c903, globals := 3, closure := [((nS 1759318654920599756639), 179)], defaults := .none, kwdefaults := .none, doc := .none, pyModule := (.str (nS 2551117451209941539387618285726463989695213667) 507), annotations := none, code := (.ref 214), closureTuple := (.ref 208), builtins := 0 }), #[]⟩) ::
  (nat_lit 245, ⟨(.type t2), none, (.seq #[(.ref 179)] 0), #[]⟩) ::
  (nat_lit 251, ⟨(.type t4), none, (.fields #[(.str (nS 549832115952473374613872) 588), (.str (nS 11151920188990564792972780100584061394178397663461065055) 589), (.str (nS 9621326145873605890393926034223) 590), (.int (109) 0), (.int (1) 0), (.int (0) 0), (.int (0) 0), (.int (3) 0), (.ref 246), (.bool true), (.int (276) 0), (.ref 247), .none, (.ref 248), (.ref 249), (.ref 250), (.int (593) 0), (.int (109) 0), (.str (nS 9621326145873605890393926034223) 594)]), #[]⟩) ::
  (nat_lit 252, ⟨(.type t5), none, (.func { name := (nS 549832115952473374613872), qualname := (nS 11151920188990564792972780100584061394178397663461065055), params := a908, body := .stmts b908, scope := c908, globals := 3, closure := [((nS 1759318654920599756639), 179)], defaults := .none, kwdefaults := .none, doc := .none, pyModule := (.str (nS 2551117451209941539387618285726463989695213667) 507), annotations := none, code := (.ref 251), closureTuple := (.ref 245), builtins := 0 }), #[]⟩) ::
  (nat_lit 254, ⟨(.type t0), none, (.dict #[⟨(PyData.keyHash P (nS 450384564904988244795231)), (.str (nS 450384564904988244795231) 518), (.str (nS 2551117451209941539387618285726463989695213667) 507)⟩, ⟨(PyData.keyHash P (nS 495203858965168609907421719000670047)), (.str (nS 495203858965168609907421719000670047) 522), (.int (80) 521)⟩, ⟨(PyData.keyHash P (nS 6872339552563453791)), (.str (nS 6872339552563453791) 532), (.ref 192)⟩, ⟨(PyData.keyHash P (nS 1752397168)), (.str (nS 1752397168) 541), (.ref 199)⟩, ⟨(PyData.keyHash P (nS 7885647256562462576)), (.str (nS 7885647256562462576) 550), (.ref 207)⟩, ⟨(PyData.keyHash P (nS 7368560)), (.str (nS 7368560) 558), (.ref 215)⟩, ⟨(PyData.keyHash P (nS 26845050540154719)), (.str (nS 26845050540154719) 565), (.ref 222)⟩, ⟨(PyData.keyHash P (nS 26845067972140895)), (.str (nS 26845067972140895) 572), (.ref 229)⟩, ⟨(PyData.keyHash P (nS 499918267762)), (.str (nS 499918267762) 580), (.ref 237)⟩, ⟨(PyData.keyHash P (nS 2129984599860864578409)), (.str (nS 2129984599860864578409) 587), (.ref 244)⟩, ⟨(PyData.keyHash P (nS 549832115952473374613872)), (.str (nS 549832115952473374613872) 595), (.ref 252)⟩, ⟨(PyData.keyHash P (nS 139387583093331537335747288891456728448373227741023)), (.str (nS 139387583093331537335747288891456728448373227741023) 597), (.ref 253)⟩, ⟨(PyData.keyHash P (nS 6872339526709436255)), (.str (nS 6872339526709436255) 600), (.ref 256)⟩, ⟨(PyData.keyHash P (nS 115298466557181117500710751)), (.str (nS 115298466557181117500710751) 602), (.ref 257)⟩, ⟨(PyData.keyHash P (nS 26845003462762335)), (.str (nS 26845003462762335) 603), .none⟩] 5), #[]⟩) ::
  (nat_lit 255, ⟨(.type t7), none, (.cls { name := (nS 35416031477272022781006135647), bases := [(.type t15)], mro := [(.ref 255), (.type t15), (.type t8)], ns := 254, qualname := (nS 35416031477272022781006135647), hasDict := true, slotNames := [], subclasses := [], abstract := false, collection := none, hasDel := false }), #[some (.ref 176), none, some (.str (nS 35416031477272022781006135647) 511), some (.str (nS 35416031477272022781006135647) 519), some (.builtin t14), some (.bool true)]⟩) ::
  (nat_lit 256, ⟨(.type t9), none, (.fields #[(.str (nS 6872339526709436255) 599), (.ref 255), (.builtin t10), (.builtin t11)]), #[]⟩) ::
  (nat_lit 257, ⟨(.type t9), none, (.fields #[(.str (nS 115298466557181117500710751) 601), (.ref 255), (.builtin t12), .none]), #[]⟩) ::
  (nat_lit 268, ⟨(.type t0), none, (.dict #[⟨(PyData.keyHash P (nS 450384564904988244795231)), (.str (nS 450384564904988244795231) 615), (.str (nS 7796986947469895969012056682595) 606)⟩, ⟨(PyData.keyHash P (nS 495203858965168609907421719000670047)), (.str (nS 495203858965168609907421719000670047) 619), (.int (112) 618)⟩, ⟨(PyData.keyHash P (nS 139387583093331537335747288891456728448373227741023)), (.str (nS 139387583093331537335747288891456728448373227741023) 620), (.ref 267)⟩, ⟨(PyData.keyHash P (nS 115298466557181117500710751)), (.str (nS 115298466557181117500710751) 622), (.ref 270)⟩, ⟨(PyData.keyHash P (nS 26845003462762335)), (.str (nS 26845003462762335) 623), .none⟩] 3), #[]⟩) ::
  (nat_lit 269, ⟨(.type t7), none, (.cls { name := (nS 491496043077), bases := [(.type t17)], mro := [(.ref 269), (.type t17), (.type t18), (.type t8)], ns := 268, qualname := (nS 491496043077), hasDict := true, slotNames := [], subclasses := [(.ref 282), (.ref 294)], abstract := false, collection := none, hasDel := false }), #[some (.ref 260), none, some (.str (nS 491496043077) 608), some (.str (nS 491496043077) 616), some (.builtin t16), some (.bool true)]⟩) ::
  (nat_lit 270, ⟨(.type t9), none, (.fields #[(.str (nS 115298466557181117500710751) 621), (.ref 269), (.builtin t12), .none]), #[]⟩) ::
  (nat_lit 281, ⟨(.type t0), none, (.dict #[⟨(PyData.keyHash P (nS 450384564904988244795231)), (.str (nS 450384564904988244795231) 635), (.str (nS 7796986947469895969012056682595) 606)⟩, ⟨(PyData.keyHash P (nS 495203858965168609907421719000670047)), (.str (nS 495203858965168609907421719000670047) 639), (.int (114) 638)⟩, ⟨(PyData.keyHash P (nS 139387583093331537335747288891456728448373227741023)), (.str (nS 139387583093331537335747288891456728448373227741023) 640), (.ref 280)⟩, ⟨(PyData.keyHash P (nS 26845003462762335)), (.str (nS 26845003462762335) 641), .none⟩] 2), #[]⟩) ::
  (nat_lit 282, ⟨(.type t7), none, (.cls { name := (nS 146792113098866397568725605), bases := [(.ref 269)], mro := [(.ref 282), (.ref 269), (.type t17), (.type t18), (.type t8)], ns := 281, qualname := (nS 146792113098866397568725605), hasDict := true, slotNames := [], subclasses := [], abstract := false, collection := none, hasDel := false }), #[some (.ref 273), none, some (.str (nS 146792113098866397568725605) 628), some (.str (nS 146792113098866397568725605) 636), some (.builtin t16), some (.bool true)]⟩) ::
  (nat_lit 293, ⟨(.type t0), none, (.dict #[⟨(PyData.keyHash P (nS 450384564904988244795231)), (.str (nS 450384564904988244795231) 651), (.str (nS 7796986947469895969012056682595) 606)⟩, ⟨(PyData.keyHash P (nS 495203858965168609907421719000670047)), (.str (nS 495203858965168609907421719000670047) 655), (.int (116) 654)⟩, ⟨(PyData.keyHash P (nS 139387583093331537335747288891456728448373227741023)), (.str (nS 139387583093331537335747288891456728448373227741023) 656), (.ref 292)⟩, ⟨(PyData.keyHash P (nS 26845003462762335)), (.str (nS 26845003462762335) 657), .none⟩] 2), #[]⟩) ::
  (nat_lit 294, ⟨(.type t7), none, (.cls { name := (nS 134740616324024761813463653), bases := [(.ref 269)], mro := [(.ref 294), (.ref 269), (.type t17), (.type t18), (.type t8)], ns := 293, qualname := (nS 134740616324024761813463653), hasDict := true, slotNames := [], subclasses := [], abstract := false, collection := none, hasDel := false }), #[some (.ref 285), none, some (.str (nS 134740616324024761813463653) 644), some (.str (nS 134740616324024761813463653) 652), some (.builtin t16), some (.bool true)]⟩) ::
  (nat_lit 302, ⟨(.type t4), none, (.fields #[(.str (nS 4121412020307386736) 660), (.str (nS 4121412020307386736) 661), (.str (nS 9621326145873605890393926034223) 662), (.int (118) 0), (.int (2) 0), (.int (0) 0), (.int (0) 0), (.int (3) 0), (.ref 297), (.bool true), (.int (276) 0), (.ref 298), .none, (.ref 299), (.ref 300), (.ref 301), (.int (670) 0), (.int (118) 0), (.str (nS 9621326145873605890393926034223) 671)]), #[]⟩) ::
  (nat_lit 303, ⟨(.type t5), none, (.func { name := (nS 4121412020307386736), qualname := (nS 4121412020307386736), params := a13, body := .stmts b13, scope := c13, globals := 3, closure := [], defaults := .none, kwdefaults := .none, doc := .none, pyModule := (.str (nS 7796986947469895969012056682595) 606), annotations := none, code := (.ref 302), closureTuple := .none, builtins := 0 }), #[]⟩) ::
  (nat_lit 309, ⟨(.type t4), none, (.fields #[(.str (nS 3978141257161662832) 673), (.str (nS 3978141257161662832) 674), (.str (nS 9621326145873605890393926034223) 675), (.int (135) 0), (.int (1) 0), (.int (0) 0), (.int (0) 0), (.int (3) 0), (.ref 304), (.bool true), (.int (276) 0), (.ref 305), .none, (.ref 306), (.ref 307), (.ref 308), (.int (681) 0), (.int (135) 0), (.str (nS 9621326145873605890393926034223) 682)]), #[]⟩) ::
  (nat_lit 310, ⟨(.type t5), none, (.func { name := (nS 3978141257161662832), qualname := (nS 3978141257161662832), params := a14, body := .stmts b14, scope := c14, globals := 3, closure := [], defaults := .none, kwdefaults := .none, doc := .none, pyModule := (.str (nS 7796986947469895969012056682595) 606), annotations := none, code := (.ref 309), closureTuple := .none, builtins := 0 }), #[]⟩) ::
  (nat_lit 316, ⟨(.type t4), none, (.fields #[(.str (nS 1871002853623843613791) 686), (.str (nS 1871002853623843613791) 687), (.str (nS 9621326145873605890393926034223) 688), (.int (153) 0), (.int (1) 0), (.int (0) 0), (.int (0) 0), (.int (3) 0), (.ref 311), (.bool true), (.int (276) 0), (.ref 312), .none, (.ref 313), (.ref 314), (.ref 315), (.int (690) 0), (.int (153) 0), (.str (nS 9621326145873605890393926034223) 691)]), #[]⟩) ::
  (nat_lit 317, ⟨(.type t5), none, (.func { name := (nS 1871002853623843613791), qualname := (nS 1871002853623843613791), params := a16, body := .stmts b16, scope := c16, globals := 3, closure := [], defaults := .none, kwdefaults := .none, doc := .none, pyModule := (.str (nS 3897150333389740721967403065708) 684), annotations := none, code := (.ref 316), closureTuple := .none, builtins := 0 }), #[]⟩) ::
  (nat_lit 323, ⟨(.type t4), none, (.fields #[(.str (nS 2018938226680686275679) 693), (.str (nS 2018938226680686275679) 694), (.str (nS 9621326145873605890393926034223) 695), (.int (155) 0), (.int (1) 0), (.int (0) 0), (.int (0) 0), (.int (3) 0), (.ref 318), (.bool true), (.int (276) 0), (.ref 319), .none, (.ref 320), (.ref 321), (.ref 322), (.int (702) 0), (.int (155) 0), (.str (nS 9621326145873605890393926034223) 703)]), #[]⟩) ::
  (nat_lit 324, ⟨(.type t5), none, (.func { name := (nS 2018938226680686275679), qualname := (nS 2018938226680686275679), params := a17, body := .stmts b17, scope := c17, globals := 3, closure := [], defaults := .none, kwdefaults := .none, doc := .none, pyModule := (.str (nS 3897150333389740721967403065708) 684), annotations := none, code := (.ref 323), closureTuple := .none, builtins := 0 }), #[]⟩) ::
  (nat_lit 330, ⟨(.type t4), none, (.fields #[(.str (nS 1852267884671540489311) 705), (.str (nS 1852267884671540489311) 706), (.str (nS 9621326145873605890393926034223) 707), (.int (175) 0), (.int (1) 0), (.int (0) 0), (.int (0) 0), (.int (3) 0), (.ref 325), (.bool true), (.int (276) 0), (.ref 326), .none, (.ref 327), (.ref 328), (.ref 329), (.int (709) 0), (.int (175) 0), (.str (nS 9621326145873605890393926034223) 710)]), #[]⟩) ::
  (nat_lit 331, ⟨(.type t5), none, (.func { name := (nS 1852267884671540489311), qualname := (nS 1852267884671540489311), params := a18, body := .stmts b18, scope := c18, globals := 3, closure := [], defaults := .none, kwdefaults := .none, doc := .none, pyModule := (.str (nS 3897150333389740721967403065708) 684), annotations := none, code := (.ref 330), closureTuple := .none, builtins := 0 }), #[]⟩) ::
  (nat_lit 337, ⟨(.type t4), none, (.fields #[(.str (nS 544943222690827871546463) 712), (.str (nS 544943222690827871546463) 713), (.str (nS 9621326145873605890393926034223) 714), (.int (177) 0), (.int (1) 0), (.int (0) 0), (.int (0) 0), (.int (3) 0), (.ref 332), (.bool true), (.int (276) 0), (.ref 333), .none, (.ref 334), (.ref 335), (.ref 336), (.int (716) 0), (.int (177) 0), (.str (nS 9621326145873605890393926034223) 717)]), #[]⟩) ::
  (nat_lit 338, ⟨(.type t5), none, (.func { name := (nS 544943222690827871546463), qualname := (nS 544943222690827871546463), params := a19, body := .stmts b19, scope := c19, globals := 3, closure := [], defaults := .none, kwdefaults := .none, doc := .none, pyModule := (.str (nS 3897150333389740721967403065708) 684), annotations := none, code := (.ref 337), closureTuple := .none, builtins := 0 }), #[]⟩) ::
  (nat_lit 344, ⟨(.type t4), none, (.fields #[(.str (nS 1851980763702621203551) 719), (.str (nS 1851980763702621203551) 720), (.str (nS 9621326145873605890393926034223) 721), (.int (185) 0), (.int (3) 0), (.int (0) 0), (.int (0) 0), (.int (3) 0), (.ref 339), (.bool true), (.int (276) 0), (.ref 340), .none, (.ref 341), (.ref 342), (.ref 343), (.int (731) 0), (.int (185) 0), (.str (nS 9621326145873605890393926034223) 732)]), #[]⟩) ::
  (nat_lit 345, ⟨(.type t5), none, (.func { name := (nS 1851980763702621203551), qualname := (nS 1851980763702621203551), params := a20, body := .stmts b20, scope := c20, globals := 3, closure := [], defaults := .none, kwdefaults := .none, doc := .none, pyModule := (.str (nS 3897150333389740721967403065708) 684), annotations := none, code := (.ref 344), closureTuple := .none, builtins := 0 }), #[]⟩) ::
  (nat_lit 351, ⟨(.type t4), none, (.fields #[(.str (nS 7959393670797552735) 734), (.str (nS 7959393670797552735) 735), (.str (nS 9621326145873605890393926034223) 736), (.int (203) 0), (.int (2) 0), (.int (0) 0), (.int (0) 0), (.int (3) 0), (.ref 346), (.bool true), (.int (276) 0), (.ref 347), .none, (.ref 348), (.ref 349), (.ref 350), (.int (744) 0), (.int (203) 0), (.str (nS 9621326145873605890393926034223) 745)]), #[]⟩) ::
  (nat_lit 352, ⟨(.type t5), none, (.func { name := (nS 7959393670797552735), qualname := (nS 7959393670797552735), params := a21, body := .stmts b21, scope := c21, globals := 3, closure := [], defaults := .none, kwdefaults := .none, doc := .none, pyModule := (.str (nS 3897150333389740721967403065708) 684), annotations := none, code := (.ref 351), closureTuple := .none, builtins := 0 }), #[]⟩) ::
  (nat_lit 356, ⟨(.type t4), none, (.fields #[(.str (nS 493274182471688057351263) 747), (.str (nS 493274182471688057351263) 748), (.str (nS 9621326145873605890393926034223) 749), (.int (217) 0), (.int (2) 0), (.int (0) 0), (.int (0) 0), (.int (3) 0), (.ref 353), (.bool true), (.int (276) 0), (.ref 354), .none, .none, .none, (.ref 355), (.int (750) 0), (.int (217) 0), (.str (nS 9621326145873605890393926034223) 751)]), #[]⟩) ::
  (nat_lit 357, ⟨(.type t5), none, (.func { name := (nS 493274182471688057351263), qualname := (nS 493274182471688057351263), params := a22, body := .stmts b22, scope := c22, globals := 3, closure := [], defaults := .none, kwdefaults := .none, doc := .none, pyModule := (.str (nS 3897150333389740721967403065708) 684), annotations := none, code := (.ref 356), closureTuple := .none, builtins := 0 }), #[]⟩) ::
  (nat_lit 363, ⟨(.type t4), none, (.fields #[(.str (nS 1851980774697737481311) 753), (.str (nS 1851980774697737481311) 754), (.str (nS 9621326145873605890393926034223) 755), (.int (225) 0), (.int (1) 0), (.int (0) 0), (.int (0) 0), (.int (3) 0), (.ref 358), (.bool true), (.int (276) 0), (.ref 359), .none, (.ref 360), (.ref 361), (.ref 362), (.int (757) 0), (.int (225) 0), (.str (nS 9621326145873605890393926034223) 758)]), #[]⟩) ::
  (nat_lit 364, ⟨(.type t5), none, (.func { name := (nS 1851980774697737481311), qualname := (nS 1851980774697737481311), params := a23, body := .stmts b23, scope := c23, globals := 3, closure := [], defaults := .none, kwdefaults := .none, doc := .none, pyModule := (.str (nS 3897150333389740721967403065708) 684), annotations := none, code := (.ref 363), closureTuple := .none, builtins := 0 }), #[]⟩) ::
  (nat_lit 370, ⟨(.type t4), none, (.fields #[(.str (nS 2128612401588528573535) 760), (.str (nS 2128612401588528573535) 761), (.str (nS 9621326145873605890393926034223) 762), (.int (229) 0), (.int (1) 0), (.int (0) 0), (.int (0) 0), (.int (3) 0), (.ref 365), (.bool true), (.int (276) 0), (.ref 366), .none, (.ref 367), (.ref 368), (.ref 369), (.int (764) 0), (.int (229) 0), (.str (nS 9621326145873605890393926034223) 765)]), #[]⟩) ::
  (nat_lit 371, ⟨(.type t5), none, (.func { name := (nS 2128612401588528573535), qualname := (nS 2128612401588528573535), params := a24, body := .stmts b24, scope := c24, globals := 3, closure := [], defaults := .none, kwdefaults := .none, doc := .none, pyModule := (.str (nS 3897150333389740721967403065708) 684), annotations := none, code := (.ref 370), closureTuple := .none, builtins := 0 }), #[]⟩) ::
  (nat_lit 375, ⟨(.type t4), none, (.fields #[(.str (nS 7823724) 767), (.str (nS 7823724) 768), (.str (nS 9621326145873605890393926034223) 769), (.int (233) 0), (.int (1) 0), (.int (0) 0), (.int (0) 0), (.int (3) 0), (.ref 372), (.bool true), (.int (276) 0), (.ref 373), .none, .none, .none, (.ref 374), (.int (770) 0), (.int (233) 0), (.str (nS 9621326145873605890393926034223) 771)]), #[]⟩) ::
  (nat_lit 376, ⟨(.type t5), none, (.func { name := (nS 7823724), qualname := (nS 7823724), params := a25, body := .stmts b25, scope := c25, globals := 3, closure := [], defaults := .none, kwdefaults := .none, doc := .none, pyModule := (.str (nS 3897150333389740721967403065708) 684), annotations := none, code := (.ref 375), closureTuple := .none, builtins := 0 }), #[]⟩) :: []
noncomputable def heapAs : List Addr := [nat_lit 2, nat_lit 3, nat_lit 42, nat_lit 43, nat_lit 47, nat_lit 48, nat_lit 56, nat_lit 62, nat_lit 63, nat_lit 69, nat_lit 70, nat_lit 83, nat_lit 84, nat_lit 88, nat_lit 89, nat_lit 111, nat_lit 117, nat_lit 118, nat_lit 134, nat_lit 135, nat_lit 170, nat_lit 171, nat_lit 172, nat_lit 173, nat_lit 179, nat_lit 184, nat_lit 185, nat_lit 191, nat_lit 192, nat_lit 198, nat_lit 199, nat_lit 208, nat_lit 214, nat_lit 215, nat_lit 245, nat_lit 251, nat_lit 252, nat_lit 254, nat_lit 255, nat_lit 256, nat_lit 257, nat_lit 268, nat_lit 269, nat_lit 270, nat_lit 281, nat_lit 282, nat_lit 293, nat_lit 294, nat_lit 302, nat_lit 303, nat_lit 309, nat_lit 310, nat_lit 316, nat_lit 317, nat_lit 323, nat_lit 324, nat_lit 330, nat_lit 331, nat_lit 337, nat_lit 338, nat_lit 344, nat_lit 345, nat_lit 351, nat_lit 352, nat_lit 356, nat_lit 357, nat_lit 363, nat_lit 364, nat_lit 370, nat_lit 371, nat_lit 375, nat_lit 376]
noncomputable def heapK (P : Params) : Frag := by
  refine (fun (_ : heapG A600 A601 A603 A604 A608 A611 A900 A901 A903 A908 A13 A14 A16 A17 A18 A19 A20 A21 A22 A23 A24 A25 B600 B601 B603 B604 B608 B611 B900 B901 B903 B908 B13 B14 B16 B17 B18 B19 B20 B21 B22 B23 B24 B25 C600 C601 C603 C604 C608 C611 C900 C901 C903 C908 C13 C14 C16 C17 C18 C19 C20 C21 C22 C23 C24 C25 "dict" "__main__.__loader__#opaque" "tuple" "re.Pattern" "code" "function" "object.__new__" "type" "object" "getset_descriptor" "function.__dict__" "function.__dict__#set" "ExceptionGroup.__weakref__" "cell" "list.__new__" "list" "Exception.__new__" "Exception" "BaseException" P = ?k) => ?k) ?h
  case h => unfold heapG; exact rfl
noncomputable def heapP (p : Program) (t0 t1 t2 t3 t4 t5 t6 t7 t8 t9 t10 t11 t12 t13 t14 t15 t16 t17 t18 : String) : Params → Frag := heapG (stA (mtAt p 5 0)) (stA (mtAt p 5 1)) (stA (mtAt p 5 3)) (stA (mtAt p 5 4)) (stA (mtAt p 5 8)) (stA (mtAt p 5 11)) (stA (mtAt p 8 0)) (stA (mtAt p 8 1)) (stA (mtAt p 8 3)) (stA (mtAt p 8 8)) (stA (fnAt p 13)) (stA (fnAt p 14)) (stA (fnAt p 16)) (stA (fnAt p 17)) (stA (fnAt p 18)) (stA (fnAt p 19)) (stA (fnAt p 20)) (stA (fnAt p 21)) (stA (fnAt p 22)) (stA (fnAt p 23)) (stA (fnAt p 24)) (stA (fnAt p 25)) (stB (mtAt p 5 0)) (stB (mtAt p 5 1)) (stB (mtAt p 5 3)) (stB (mtAt p 5 4)) (stB (mtAt p 5 8)) (stB (mtAt p 5 11)) (stB (mtAt p 8 0)) (stB (mtAt p 8 1)) (stB (mtAt p 8 3)) (stB (mtAt p 8 8)) (stB (fnAt p 13)) (stB (fnAt p 14)) (stB (fnAt p 16)) (stB (fnAt p 17)) (stB (fnAt p 18)) (stB (fnAt p 19)) (stB (fnAt p 20)) (stB (fnAt p 21)) (stB (fnAt p 22)) (stB (fnAt p 23)) (stB (fnAt p 24)) (stB (fnAt p 25)) (stC (mtAt p 5 0)) (stC (mtAt p 5 1)) (stC (mtAt p 5 3)) (stC (mtAt p 5 4)) (stC (mtAt p 5 8)) (stC (mtAt p 5 11)) (stC (mtAt p 8 0)) (stC (mtAt p 8 1)) (stC (mtAt p 8 3)) (stC (mtAt p 8 8)) (stC (fnAt p 13)) (stC (fnAt p 14)) (stC (fnAt p 16)) (stC (fnAt p 17)) (stC (fnAt p 18)) (stC (fnAt p 19)) (stC (fnAt p 20)) (stC (fnAt p 21)) (stC (fnAt p 22)) (stC (fnAt p 23)) (stC (fnAt p 24)) (stC (fnAt p 25)) t0 t1 t2 t3 t4 t5 t6 t7 t8 t9 t10 t11 t12 t13 t14 t15 t16 t17 t18
theorem heapK_eq : heapK = heapP pw "dict" "__main__.__loader__#opaque" "tuple" "re.Pattern" "code" "function" "object.__new__" "type" "object" "getset_descriptor" "function.__dict__" "function.__dict__#set" "ExceptionGroup.__weakref__" "cell" "list.__new__" "list" "Exception.__new__" "Exception" "BaseException" := by kernel_rfl
theorem heapK_as : ∀ P, heapAs = (heapK P).map (·.1) := fun _ => by kernel_rfl
noncomputable def keep : List Nat := [0, 1, 2, 5, 6, 7, 9, 10, 11, 12, 13, 14, 15, 16, 17, 18, 19, 20, 21, 22, 23, 24, 25]
noncomputable def vw (p : Program) : Program := { p with main := { p.main with body := keep.filterMap fun i => p.main.body[i]? } }
noncomputable def loose : List Str := [Str.ofString "_name_disallowed_re", Str.ofString "_value_disallowed_re", Str.ofString "_Accumulator"]
noncomputable abbrev HK : Hook := kHook heapK heapAs heapK_as
noncomputable def treeFrom : List Obj → Nat → BT → BT
  | [], _, t => t
  | o :: r, n, t => treeFrom r (n + 1) (t.ins n o)
noncomputable def treeOk : List Obj → Nat → BT → Bool
  | [], _, _ => true
  | o :: r, n, t => ((t.ins n o).get n).isSome && treeOk r (n + 1) (t.ins n o)
theorem treeFrom_abs : ∀ (l : List Obj) (n : Nat) (t : BT) (life : Life), treeOk l n t = true →
    absHeap (treeFrom l n t) (n + l.length) life = ⟨(absHeap t n life).objs ++ l.toArray, life⟩
  | [], n, t, life, _ => by simp [treeFrom, absHeap]
  | o :: r, n, t, life, h => by
    unfold treeOk at h
    obtain ⟨h1, h2⟩ := Bool.and_eq_true_iff.mp h
    have ih := treeFrom_abs r (n + 1) (t.ins n o) life h2
    rw [absHeap_ins h1] at ih
    rw [treeFrom, List.length_cons, show n + (r.length + 1) = n + 1 + r.length by omega, ih]
    show Heap.mk _ _ = Heap.mk _ _
    refine congrArg (Heap.mk · life) ?_
    show (absHeap t n life).objs.push o ++ r.toArray = _
    rw [Array.push_eq_append, Array.append_assoc]
    exact congrArg ((absHeap t n life).objs ++ ·) (by simp)
noncomputable def treeState (s : Shared) : SharedT := ⟨treeFrom s.heap.objs.toList 0 .nil, s.heap.objs.size, s.heap.life, s.gens, s.drawn, s.toks, s.os⟩
theorem treeState_abs {s : Shared} (h : treeOk s.heap.objs.toList 0 .nil = true) : (treeState s).abs = s := by
  have := treeFrom_abs s.heap.objs.toList 0 .nil s.heap.life h
  obtain ⟨⟨⟨objs⟩, life⟩, gens, drawn, toks, os⟩ := s
  show Shared.mk _ _ _ _ _ = Shared.mk _ _ _ _ _
  refine congrArg (Shared.mk · gens drawn toks os) ?_
  show absHeap (treeFrom objs 0 .nil) objs.toArray.size life = _
  rw [List.size_toArray]
  rw [Nat.zero_add] at this
  refine this.trans ?_
  simp [absHeap, BT.list]
theorem through_of {t : Thread} {f : Flow} (h : endAt 0 t = some f) : through t = true := by
  obtain ⟨cur, code, pos, stack⟩ := t
  unfold endAt at h
  cases stack with
  | cons => simp at h
  | nil =>
    unfold through
    split at h
    · rename_i h2; dsimp only at h2 ⊢; rw [h2]; rfl
    · cases h
theorem not_through {t : Thread} (h : endAt 0 t = none) : through t = false := by
  obtain ⟨cur, code, pos, stack⟩ := t
  cases stack with
  | cons => rfl
  | nil =>
    unfold endAt at h
    unfold through
    cases cur with
    | pure x => cases x <;> first | rfl | (simp at h)
    | _ => rfl
theorem top_of_seg {tb : String → Option Builtin} {p : Program} {w : World} {n₀ : Nat} {ann : Option Value} : ∀ {n : Nat} {s s' : Shared} {t : Thread} {f : Flow} {c : Code} {q : Pos}, segRun tb p w n₀ ann 0 n s t = some (f, s', c, q) → topRun tb p w n₀ ann n s t = some s'
  | 0, _, _, _, _, _, _, h => by simp [segRun] at h
  | n + 1, s, s', t, f, c, q, h => by
    unfold segRun at h
    unfold topRun
    cases he : endAt 0 t with
    | some g =>
      rw [he] at h
      rw [through_of he]
      simp only [Option.some.injEq, Prod.mk.injEq] at h
      exact congrArg some h.2.1
    | none =>
      rw [he] at h
      rw [not_through he]
      cases hk : stepOk n₀ ann t with
      | false => rw [hk] at h; cases h
      | true =>
        rw [hk] at h
        cases hs : step (denote tb) p w s t with
        | halt o s₂ => rw [hs] at h; cases h
        | go s₂ t₂ => rw [hs] at h; exact top_of_seg h
noncomputable def openT (p : Program) (w : World) (N : Nat) : Option Shared :=
  (fencedOpening treeTable p w N).bind fun s => match s.heap.isNs mainGlobals && s.gens.size == 0 && treeOk s.heap.objs.toList 0 .nil with
    | true => (segRunT treeTable p w s.heap.objs.size (s.heap.nsMap mainGlobals "__annotations__") 0 N (treeState s) (topStub p)).bind fun r =>
      match staticsOk (importedModules p.main.body) s.heap r.2.1.abs.heap && namesBound p r.2.1.abs.heap && gensDone r.2.1.abs && laidKept s.heap r.2.1.abs.heap with
      | true => some r.2.1.abs
      | false => none
    | false => none
theorem openT_ends {p : Program} {w : World} {N : Nat} {s' : Shared} (h : openT p w N = some s') : openEnds treeTable p w N = some s' := by
  unfold openT at h
  unfold openEnds
  cases hf : fencedOpening treeTable p w N with
  | none => rw [hf] at h; cases h
  | some s =>
    rw [hf] at h
    simp only [Option.bind_some] at h ⊢
    cases hm : s.heap.isNs mainGlobals && s.gens.size == 0 && treeOk s.heap.objs.toList 0 .nil with
    | false => rw [hm] at h; cases h
    | true =>
      rw [hm] at h
      obtain ⟨h1, h2⟩ := Bool.and_eq_true_iff.mp hm
      unfold topFrom
      rw [h1]
      dsimp only at h ⊢
      cases hr : segRunT treeTable p w s.heap.objs.size (s.heap.nsMap mainGlobals "__annotations__") 0 N (treeState s) (topStub p) with
      | none => rw [hr] at h; cases h
      | some r =>
        obtain ⟨f, sT, c, q⟩ := r
        rw [hr] at h
        have z := top_of_seg (segRun_of hr)
        rw [treeState_abs h2] at z
        rw [z]
        exact h
theorem openT_map {p : Program} {w : World} {N : Nat} {α : Type} {F : Shared → α} {g : α} (h : (openT p w N).map F = some g) : (openEnds treeTable p w N).map F = some g := by
  obtain ⟨s, h1, h2⟩ := Option.map_eq_some_iff.mp h
  rw [openT_ends h1]
  exact congrArg some h2
theorem leftO : LeftO pw (vw pw) loose (fun s => xlAt (vw pw) [] s && recOk [] s) (Hook.obs HK) (Hook.val HK) 5012 := by
  intro w
  refine openT_map ?_
  show (openT pw w 5012).map (fun s => (openSeen (vw pw) loose (importedModules pw.main.body) (fun s => xlAt (vw pw) [] s && recOk [] s) true s, heapAs.map s.heap.get?)) = some (openGood (vw pw) loose, (heapK w.params).map fun p => some p.2)
  rw [heapK_eq]
  delta pw openT fencedOpening
  rw [PySem.W.Fast.te10110043849684766642, PySem.W.Fast.te4187177175401517315, PySem.W.Fast.te5923862056798008813, PySem.W.Fast.te10274390034422433532, PySem.W.Fast.te14364793385576792824, PySem.W.Fast.te1435165496053646825, PySem.W.Fast.te14289696077712309145, PySem.W.Fast.te8920871248978507458, PySem.W.SL.e14018661285674007319x4, PySem.W.SL.e7097527257260152453x26, PySem.W.SL.e2766695959194262286x5, PySem.W.SL.e12171344214640291687x10, PySem.W.SL.e5856160107412720595x4, PySem.W.SL.e7174869446012820540x8, PySem.W.SL.e11443829558043349243x14, PySem.W.SL.e17162191345867700912x4, PySem.W.SL.e2742458400755230247x6, PySem.W.SL.e14755015743595814543x17, PySem.W.SL.e6511155373996960695x17, PySem.W.SL.e12411053484034534018x21, PySem.W.SL.e10220274742760427390x26, PySem.W.SL.e15660640913423913556x4, PySem.W.SL.e896114127876100448x12, PySem.W.SL.e9222952809800978799x4, PySem.W.SL.e5160863994218179198x17, PySem.W.SL.e5946037652744460706x9, PySem.W.SL.e4278001404047624695x13]
  kernel_rfl
end
section
noncomputable def lawD : DefRec := { name := Str.ofString "law", params := A25, body := B25, scope := C25, pos := ⟨233, 0, 252, 59⟩ }
theorem ws : OpenLaw.wellSaid PySem.Challenge.rw_xn0023_01 = true := by
  delta OpenLaw.wellSaid OpenRow.wellSaid OpenRow.partSaid looksOpen
  rw [PySem.W.Fast.te11788848310118352699, PySem.W.Fast.te2368527892694137696, PySem.W.Fast.te9807087744658564304, PySem.W.Fast.te12862048085361865435, PySem.W.Fast.te8377067652309620493, PySem.W.R.allR_eq, PySem.W.Fast.te18344453789297297638, PySem.W.Fast.te3471404346716756564, PySem.W.Fast.sDec_eq, PySem.W.Fast.te14412699480532031325, PySem.W.Fast.te8326940854005059898, PySem.W.Fast.te5923862056798008813, PySem.W.Fast.te17691160309236699985, PySem.W.R.filterR_eq, PySem.W.Fast.te13343964577679436407, PySem.W.Fast.te17119622794617984870, PySem.W.Fast.te17868728402115742887, PySem.W.Fast.te9706382859710513879, PySem.W.S.strDecS_eq, PySem.W.Fast.te2357444279172408678, PySem.W.R.mapR_eq, PySem.W.Fast.te4857012375875476094, PySem.W.Fast.named_eq, PySem.W.Fast.te13582783067957832011, PySem.W.Fast.te5318747976498570220, PySem.W.Fast.te4579403493507170074, PySem.W.R.anyR_eq, PySem.W.Fast.te4274047373036748609, PySem.W.Fast.te12749700546528644094, PySem.W.Fast.te10501279942588096481, PySem.W.Fast.te8179353310426384613, PySem.W.Fast.te797321630700447069, PySem.W.Fast.te9572597257264208301, PySem.W.Fast.te9558739934217749035, PySem.W.Fast.te16286561074155671207, PySem.W.Fast.te6984425678791042302, PySem.W.Fast.te17095254045102204799, PySem.W.Fast.te12879404354523853263, PySem.W.Fast.te482687673346738481, PySem.W.Fast.te10792542408131684335, PySem.W.Fast.te7723801398212525404]
  kernel_rfl
theorem hd (walk : WalkO (vw pw) loose (XL (vw pw) []) HK.says PySem.Challenge.rw_xn0023_01.row.toRowW lawD [] (fun f vs => PySem.call f vs)) : PySem.Challenge.rw_xn0023_01.Holds := by
  w_on
  refine holds_law ws fun said => ?_
  refine holds_open (q := vw pw) (loose := loose) (Xt := fun s => xlAt (vw pw) [] s && recOk [] s) (XP := XL (vw pw) []) (Yf := Hook.obs HK) (Ya := Hook.val HK) (YP := Hook.says HK) (N := 5012) leftO (Hook.of HK) (Hook.keeps HK) (fun s e => xl_of s (Bool.and_eq_true_iff.mp e).1) XL.keeps (by kernel_rfl) (by kernel_rfl) (by kernel_rfl) (fun s e => recFacts_of (Bool.and_eq_true_iff.mp e).2) (by rfl) (by assumption) (by decide +kernel) ⟨rfl, rfl, rfl, rfl, rfl, by decide +kernel⟩ ?hw walk
  case hw => w_witness2
end
section

inductive Tm where
  | num (n : Int)
  | nam (p : Int)
  | less (a b : Tm)
  | lett (a b : Tm) (p : Int)
def Tm.size : Tm → Nat
  | .num _ => 1
  | .nam _ => 1
  | .less a b => a.size + b.size + 1
  | .lett a b _ => a.size + b.size + 1
def Tm.need : Tm → Int
  | .num _ => 1
  | .nam _ => 1
  | .less a b => max a.need (1 + b.need)
  | .lett a b _ => max a.need (1 + b.need)
inductive TIn (news : List (Addr × Obj)) : Value → Tm → Prop where
  | num {a : Addr} {n : Int} {t0 t1 : Tok} {e : Nat} : (a, listOf #[.str (Str.ofString "number") t0, .int n t1] e) ∈ news → TIn news (.ref a) (.num n)
  | nam {a : Addr} {n : Int} {t0 t1 : Tok} {e : Nat} : (a, listOf #[.str (Str.ofString "name") t0, .int n t1] e) ∈ news → TIn news (.ref a) (.nam n)
  | less {a : Addr} {t0 : Tok} {u v : Value} {x y : Tm} {e : Nat} : (a, listOf #[.str (Str.ofString "less") t0, u, v] e) ∈ news → TIn news u x → TIn news v y → TIn news (.ref a) (.less x y)
  | lett {a : Addr} {t0 t1 : Tok} {u v : Value} {x y : Tm} {p : Int} {e : Nat} : (a, listOf #[.str (Str.ofString "let") t0, u, v, .int p t1] e) ∈ news → TIn news u x → TIn news v y → TIn news (.ref a) (.lett x y p)
theorem TIn.mono {news news' : List (Addr × Obj)} {v : Value} {t : Tm} (h : TIn news v t) (hs : ∀ p ∈ news, p ∈ news') : TIn news' v t := by
  induction h with
  | num hm => exact .num (hs _ hm)
  | nam hm => exact .nam (hs _ hm)
  | less hm _ _ i1 i2 => exact .less (hs _ hm) i1 i2
  | lett hm _ _ i1 i2 => exact .lett (hs _ hm) i1 i2

abbrev topA (hd : Option Value) (dp un : Nat) (gd : Option (List Code)) (env : Env) (outer : List Env) : Around := { handled := hd, depth := dp, frames := some (env :: outer), guards := gd, units := un }

def Fn (w : World) (hd : Option Value) (f : Addr) (vs : List Value) (sz : Nat) (news : List (Addr × Obj)) (Post : Value → List (Addr × Obj) → Prop) : Prop :=
  ∀ (p : Program) (loose : List Str) (mean : ExcName → Option Value) (mg mb : Str → Option Value) (dp un : Nat) (gd : Option (List Code)) (env : Env) (outer : List Env) (A₀ : Around) (base h₀ : Heap) (L : Addr) (m : Str → Option Value) (s : Shared)
    (Q E : Value → Shared → Prop),
    Below A₀ base outer h₀ → Fr h₀ L s.heap m → (heapK w.params).In h₀ → News h₀ L s.heap news → Top p loose mean mg mb h₀ → env.frame = some L → env.scope.kind = .function → dp + sz < recursionLimit → un + 8 * sz < cLine →
    (∀ r news' h' tk', Fr h₀ L h' m → News h₀ L h' news' → Post r news' → Q r { s with heap := h', toks := tk' }) →
    wpAny (model pw w) (topA hd dp un gd env outer) (call (.ref f) vs) Q E s

theorem Fn.use {w : World} {hd : Option Value} {f : Addr} {vs : List Value} {sz : Nat} {news : List (Addr × Obj)} {Post : Value → List (Addr × Obj) → Prop} {p : Program} {loose : List Str} {mean : ExcName → Option Value} {mg mb : Str → Option Value} {dp un : Nat} {gd : Option (List Code)} {env : Env} {outer : List Env} {A₀ : Around} {base h₀ : Heap} {L : Addr} {m : Str → Option Value} {s : Shared}
    {Q E : Value → Shared → Prop} (C : Fn w hd f vs sz news Post)
    (B : Below A₀ base outer h₀) (F : Fr h₀ L s.heap m) (X : (heapK w.params).In h₀) (N : News h₀ L s.heap news) (T : Top p loose mean mg mb h₀) (hf : env.frame = some L) (hk : env.scope.kind = .function) (hdp : dp + sz < recursionLimit) (hun : un + 8 * sz < cLine)
    (ret : ∀ r news' h' tk', Fr h₀ L h' m → News h₀ L h' news' → Post r news' → Q r { s with heap := h', toks := tk' }) :
    wpAny (model pw w) (topA hd dp un gd env outer) (call (.ref f) vs) Q E s := C _ _ _ _ _ _ _ _ _ _ _ _ _ _ _ _ _ _ B F X N T hf hk hdp hun ret


def Tm.ends : Tm → List Int
  | .num _ => []
  | .nam _ => []
  | .less a b => a.ends ++ b.ends
  | .lett a b p => a.ends ++ b.ends ++ [p]
theorem Tm.ends_le : ∀ t : Tm, t.ends.length ≤ t.size
  | .num _ => Nat.zero_le _
  | .nam _ => Nat.zero_le _
  | .less a b => by have := a.ends_le; have := b.ends_le; simp only [Tm.ends, Tm.size, List.length_append]; omega
  | .lett a b p => by have := a.ends_le; have := b.ends_le; simp only [Tm.ends, Tm.size, List.length_append, List.length_cons, List.length_nil]; omega

def NewInts (news : List (Addr × Obj)) (ns : List Int) (r : Value) (news' : List (Addr × Obj)) : Prop :=
  ∃ a ws, r = .ref a ∧ news' = (a, listOf (List.toArray ws) 0) :: news ∧ (∀ p ∈ news, p.1 < a) ∧ IntsAre ws ns
def NewStrs (news : List (Addr × Obj)) (ss : List Str) (r : Value) (news' : List (Addr × Obj)) : Prop :=
  ∃ a ws, r = .ref a ∧ news' = (a, listOf (List.toArray ws) 0) :: news ∧ (∀ p ∈ news, p.1 < a) ∧ StrsAre ws ss
def SameInt (news : List (Addr × Obj)) (n : Int) (r : Value) (news' : List (Addr × Obj)) : Prop := news' = news ∧ ∃ tk, r = .int n tk
def SameStr (news : List (Addr × Obj)) (x : Str) (r : Value) (news' : List (Addr × Obj)) : Prop := news' = news ∧ ∃ tk, r = .str x tk
section
variable {w : World} {hd : Option Value} {f : Addr} {vs : List Value} {sz : Nat} {news : List (Addr × Obj)} {p : Program} {loose : List Str} {mean : ExcName → Option Value} {mg mb : Str → Option Value} {dp un : Nat} {gd : Option (List Code)} {env : Env} {outer : List Env} {A₀ : Around} {base h₀ : Heap} {L : Addr} {m : Str → Option Value} {s : Shared}
    {Q E : Value → Shared → Prop}
theorem Fn.int {n : Int} (C : Fn w hd f vs sz news (SameInt news n))
    (B : Below A₀ base outer h₀) (F : Fr h₀ L s.heap m) (X : (heapK w.params).In h₀) (N : News h₀ L s.heap news) (T : Top p loose mean mg mb h₀) (hf : env.frame = some L) (hk : env.scope.kind = .function) (hdp : dp + sz < recursionLimit) (hun : un + 8 * sz < cLine)
    (ret : ∀ tk h' tk', Fr h₀ L h' m → News h₀ L h' news → Q (.int n tk) { s with heap := h', toks := tk' }) :
    wpAny (model pw w) (topA hd dp un gd env outer) (call (.ref f) vs) Q E s :=
  Fn.use C B F X N T hf hk hdp hun fun r news' h' tk' F' N' ⟨e1, tk, e2⟩ => by subst e1 e2; exact ret tk h' tk' F' N'
theorem Fn.str {x : Str} (C : Fn w hd f vs sz news (SameStr news x))
    (B : Below A₀ base outer h₀) (F : Fr h₀ L s.heap m) (X : (heapK w.params).In h₀) (N : News h₀ L s.heap news) (T : Top p loose mean mg mb h₀) (hf : env.frame = some L) (hk : env.scope.kind = .function) (hdp : dp + sz < recursionLimit) (hun : un + 8 * sz < cLine)
    (ret : ∀ tk h' tk', Fr h₀ L h' m → News h₀ L h' news → Q (.str x tk) { s with heap := h', toks := tk' }) :
    wpAny (model pw w) (topA hd dp un gd env outer) (call (.ref f) vs) Q E s :=
  Fn.use C B F X N T hf hk hdp hun fun r news' h' tk' F' N' ⟨e1, tk, e2⟩ => by subst e1 e2; exact ret tk h' tk' F' N'
theorem Fn.ints {ns : List Int} (C : Fn w hd f vs sz news (NewInts news ns))
    (B : Below A₀ base outer h₀) (F : Fr h₀ L s.heap m) (X : (heapK w.params).In h₀) (N : News h₀ L s.heap news) (T : Top p loose mean mg mb h₀) (hf : env.frame = some L) (hk : env.scope.kind = .function) (hdp : dp + sz < recursionLimit) (hun : un + 8 * sz < cLine)
    (ret : ∀ a ws h' tk', Fr h₀ L h' m → News h₀ L h' ((a, listOf (List.toArray ws) 0) :: news) → (∀ p ∈ news, p.1 < a) → IntsAre ws ns → Q (.ref a) { s with heap := h', toks := tk' }) :
    wpAny (model pw w) (topA hd dp un gd env outer) (call (.ref f) vs) Q E s :=
  Fn.use C B F X N T hf hk hdp hun fun r news' h' tk' F' N' ⟨a, ws, e1, e2, l, i⟩ => by subst e1 e2; exact ret a ws h' tk' F' N' l i
theorem Fn.strs' {ss : List Str} (C : Fn w hd f vs sz news (NewStrs news ss))
    (B : Below A₀ base outer h₀) (F : Fr h₀ L s.heap m) (X : (heapK w.params).In h₀) (N : News h₀ L s.heap news) (T : Top p loose mean mg mb h₀) (hf : env.frame = some L) (hk : env.scope.kind = .function) (hdp : dp + sz < recursionLimit) (hun : un + 8 * sz < cLine)
    (ret : ∀ a ws h' tk', Fr h₀ L h' m → News h₀ L h' ((a, listOf (List.toArray ws) 0) :: news) → (∀ p ∈ news, p.1 < a) → StrsAre ws ss → Q (.ref a) { s with heap := h', toks := tk' }) :
    wpAny (model pw w) (topA hd dp un gd env outer) (call (.ref f) vs) Q E s :=
  Fn.use C B F X N T hf hk hdp hun fun r news' h' tk' F' N' ⟨a, ws, e1, e2, l, i⟩ => by subst e1 e2; exact ret a ws h' tk' F' N' l i
end
theorem addL {w : World} {A : Around} {E : Value → Shared → Prop} {s : Shared} {h₀ : Heap} {L : Addr} {m : Str → Option Value} {news : List (Addr × Obj)} {l b : Addr} {vs ws : List Value} {Q : Value → Shared → Prop}
    (F : Fr h₀ L s.heap m) (N : News h₀ L s.heap news) (hl : s.heap.IsList l vs.toArray) (hb : s.heap.IsList b ws.toArray) (hsz : vs.length + ws.length ≤ sizeLine)
    (h : ∀ d h', Fr h₀ L h' m → News h₀ L h' ((d, listOf (List.toArray (vs ++ ws)) 0) :: news) → (∀ p ∈ news, p.1 < d) → Q (.ref d) { s with heap := h' }) :
    wpAny (model pw w) A (binaryOp .Add (.ref l) (.ref b)) Q E s :=
  add_arrays F N hl hb (fun h' F' N' => h _ h' F' (by simpa using N') fun p hp => Heap.lt_size (N p hp).1) (by simpa using hsz)
end
section
theorem entry_unchain : entryFor table "proto.unchain" = some Builtin.«proto.unchain» := entryFor_of_tree (by kernel_rfl)

inductive Chain2 (h : Heap) : Value → List Addr → Prop where
  | one {a : Addr} {o : Obj} {vs : Array Value} : h.get? a = some o → o.data = .fields vs → vs[2]? = some .none → Chain2 h (.ref a) [a]
  | two {a b : Addr} {o o2 : Obj} {vs vs2 : Array Value} : h.get? a = some o → o.data = .fields vs → vs[2]? = some (.ref b) → a ≠ b → h.get? b = some o2 → o2.data = .fields vs2 → vs2[2]? = some .none → Chain2 h (.ref a) [a, b]
theorem Chain2.keeps {h h' : Heap} {v : Value} {l : List Addr} (c : Chain2 h v l) (k : ∀ b ∈ l, ∀ o, h.get? b = some o → h'.get? b = some o) : Chain2 h' v l := by
  cases c with
  | one h1 h2 h3 => exact .one (k _ (by simp) _ h1) h2 h3
  | two h1 h2 h3 h4 h5 h6 h7 => exact .two (k _ (by simp) _ h1) h2 h3 h4 (k _ (by simp) _ h5) h6 h7
section
variable {w : World} {A : Around} {E : Value → Shared → Prop} {s : Shared}
theorem unchain {e : Addr} {hv : Value} {l : List Addr} {Q : Value → Shared → Prop} (c : Chain2 s.heap hv l) (he : e ∉ l) (h : Q .none s) :
    wpAny (model pw w) A (runValue (.builtin "proto.unchain" ⟨[.ref e, hv, hv, .bool false], []⟩)) Q E s := by
  refine wpAny_runValue (codeAny_builtin entry_unchain ?_)
  cases c with
  | one h1 h2 h3 =>
    unfold Builtin.«proto.unchain»
    dsimp only
    refine wpAny_bind (wpAny_field h1 h2 h3 ?_)
    rw [if_pos (by decide)]
    exact wpAny_pure h
  | @two a b o o2 vs vs2 h1 h2 h3 h4 h5 h6 h7 =>
    have n1 : (Value.ref b == Value.none) = false := rfl
    have n2 : (Value.ref b == Value.ref e) = false := by
      rw [beq_eq_false_iff_ne]; intro q; cases q; exact he (by simp)
    have n3 : (Value.ref b == Value.ref a) = false := by
      rw [beq_eq_false_iff_ne]; intro q; cases q; exact h4 rfl
    unfold Builtin.«proto.unchain»
    dsimp only
    refine wpAny_bind (wpAny_field h1 h2 h3 ?_)
    rw [if_neg (by rw [n1]; decide), if_neg (by rw [n2]; decide), if_neg (by rw [n3]; decide)]
    refine wpAny_bind ?_
    refine wpAny_pure ?_
    unfold again
    refine wpAny_pure ?_
    refine ⟨by first | decide | kernel_rfl, codeAny_builtin entry_unchain ?_⟩
    unfold Builtin.«proto.unchain»
    dsimp only
    refine wpAny_bind (wpAny_field h5 h6 h7 ?_)
    rw [if_pos (by decide)]
    exact wpAny_pure h

def Hush (A : Around) (l : List Addr) (h : Heap) : Prop := (A.handled = none ∧ l = []) ∨ ∃ hv, A.handled = some hv ∧ Chain2 h hv l
theorem Hush.keeps {A : Around} {l : List Addr} {h h' : Heap} (H : Hush A l h) (k : ∀ b ∈ l, ∀ o, h.get? b = some o → h'.get? b = some o) : Hush A l h' :=
  H.elim .inl fun ⟨hv, e, c⟩ => .inr ⟨hv, e, c.keeps k⟩
theorem Chain2.mem {h : Heap} {v : Value} {l : List Addr} (c : Chain2 h v l) : ∀ b ∈ l, ∃ o vs, h.get? b = some o ∧ o.data = .fields vs := by
  cases c with
  | one h1 h2 h3 => intro b hb; simp only [List.mem_singleton] at hb; subst hb; exact ⟨_, _, h1, h2⟩
  | two h1 h2 h3 h4 h5 h6 h7 =>
    intro b hb
    simp only [List.mem_cons, List.not_mem_nil, or_false] at hb
    rcases hb with rfl | rfl
    · exact ⟨_, _, h1, h2⟩
    · exact ⟨_, _, h5, h6⟩
theorem Chain2.head {h : Heap} {v : Value} {l : List Addr} (c : Chain2 h v l) : ∃ a, v = .ref a ∧ a ∈ l := by
  cases c <;> exact ⟨_, rfl, by simp⟩
theorem Hush.mem {A : Around} {l : List Addr} {h : Heap} (H : Hush A l h) : ∀ b ∈ l, ∃ o vs, h.get? b = some o ∧ o.data = .fields vs := by
  rcases H with ⟨_, rfl⟩ | ⟨hv, _, c⟩
  · intro b hb; cases hb
  · exact c.mem
theorem raiseHush {α : Type} {e : Addr} {oe : Obj} {vs : Array Value} {l : List Addr} {Q : α → Shared → Prop} (H : Hush A l s.heap) (hel : e ∉ l)
    (he : s.heap.get? e = some oe) (hd : oe.data = .fields vs) (hsz : 2 < vs.size)
    (h : ∀ h' oe' vs', Heap.SameBut e s.heap h' → h'.get? e = some oe' → oe'.cls = oe.cls → oe'.dict = oe.dict → oe'.slots = oe.slots → oe'.data = .fields vs' → (A.handled = none ∧ vs' = vs) ∨ (∃ hv, A.handled = some hv ∧ vs' = vs.setIfInBounds 2 hv) → E (.ref e) { s with heap := h' }) :
    wpAny (model pw w) A (raiseNew (.ref e) : Sem α) Q E s := by
  unfold raiseNew
  refine wpAny_bind (wpAny_handled ?_)
  rcases H with ⟨H, _⟩ | ⟨hv, H, c⟩
  · rw [H]
    refine wpAny_bind (wpAny_pure (wpAny_throw ?_))
    exact h _ oe vs (Heap.SameBut.refl ..) he rfl rfl rfl hd (.inl ⟨H, rfl⟩)
  · obtain ⟨a, rfl, ha⟩ := c.head
    have hae : (Value.ref a != Value.ref e) = true := by
      rw [bne_iff_ne]; intro q; cases q; exact hel ha
    rw [H]
    dsimp only
    rw [if_pos hae]
    refine wpAny_bind ?_
    refine wpAny_holding (unchain c hel ?_)
    refine wpAny_bind ?_
    refine wpAny_setField he hd hsz ?_
    refine wpAny_throw ?_
    refine h _ _ _ (Heap.SameBut.update ..) (Heap.get?_update_self _ he (Obj.isFreed_of_fields (Obj.data_mapFields hd _))) (Obj.cls_mapFields ..) ?_ ?_ (Obj.data_mapFields hd _) (.inr ⟨_, H, rfl⟩)
    · obtain ⟨c, d, dt, sl⟩ := oe; cases dt <;> rfl
    · obtain ⟨c, d, dt, sl⟩ := oe; cases dt <;> rfl
theorem stopHush {α : Type} {l : List Addr} {Q : α → Shared → Prop} (H : Hush A l s.heap)
    (h : ∀ h' e o, (∀ b o, s.heap.get? b = some o → h'.get? b = some o) → h'.get? e = some o → o.cls = .type "StopIteration" → E (.ref e) { s with heap := h' }) :
    wpAny (model pw w) A (newExc (.type "StopIteration") [] >>= fun e => raiseNew e : Sem α) Q E s := by
  refine wpAny_bind ?_
  simp only [newExc, newTuple]
  refine wpAny_bind (wpAny_newObj_type ?_ (by size_fits))
  refine wpAny_bind (m := firstArgMember _ _) (wpAny_of_eq (a := Value.none) (by first | rfl | (simp only [firstArgMember]; rfl)) ?_)
  refine wpAny_newObj_type ?_ (by size_fits)
  refine raiseHush (l := l) (H.keeps fun b _ o e => Heap.get?_push_of_some _ (Heap.get?_push_of_some _ e)) (fun hm => ?_) (Heap.get?_push_size _ rfl) rfl (Nat.lt_of_lt_of_le (by decide : 2 < 6) (by rw [Array.size_append]; exact Nat.le_add_right _ _)) ?_
  · obtain ⟨o, vs, ho, _⟩ := H.mem _ hm
    have := Heap.lt_size ho
    rw [Heap.size_push] at this
    exact (Nat.lt_irrefl _ (Nat.lt_of_succ_lt this)).elim
  intro h' oe' vs' hs hoe hc _ _ _ _
  refine h h' _ oe' (fun b o e => ?_) hoe (hc.trans rfl)
  have hb := Heap.lt_size e
  exact hs.extBut b o (by rw [Heap.size_push]; exact Nat.ne_of_lt (Nat.lt_succ_of_lt hb)) (Heap.get?_push_of_some _ (Heap.get?_push_of_some _ e))

theorem next_list_end {it l : Addr} {i : Nat} {items} {lc : List Addr} {Q : Option Value → Shared → Prop} (H : Hush A lc s.heap) (hit0 : it ∉ lc)
    (hit : s.heap.IsListIter it l i) (hl : s.heap.IsList l items) (hx : items[i]? = none)
    (hQ : ∀ h', Heap.ExtBut it s.heap h' → Q none { s with heap := h' }) : wpAny (model pw w) A (pyNext (.ref it)) Q E s := by
  obtain ⟨o, ho, hc, hd⟩ := id hit
  obtain ⟨ol, hol, _, nl, hdl⟩ := hl
  unfold pyNext
  refine wpAny_bind (wpAny_attempt (wpAny_callSpecial?_slot (name := Str.ofString "__next__") hit.typeIs slot_listiter_next
    (wpAny_call_entry slot_listiter_next hit.typeIs entry_listiter_next ?_ (args_listiter_next _))))
  show wpAny _ _ (field (.ref it) 0 >>= _) _ _ s
  refine wpAny_bind (wpAny_field ho hd (x := .ref l) rfl ?_)
  show wpAny _ _ (if (Value.ref l == Value.none) = true then _ else _) _ _ s
  rw [if_neg (show ¬ ((Value.ref l == Value.none) = true) from Bool.false_ne_true)]
  show wpAny _ _ (field (.ref it) 1 >>= _) _ _ s
  refine wpAny_bind (wpAny_field ho hd (x := .int i 0) rfl ?_)
  show wpAny _ _ (seqItems? (.ref l) >>= _) _ _ s
  refine wpAny_bind (wpAny_seqItems hol hdl ?_)
  simp only [Int.toNat_natCast, hx]
  refine wpAny_bind (wpAny_rule (wpAny_bind (wpAny_setField ho hd (by simp) ?_)))
  show wpAny _ _ (newExc (.type "StopIteration") [] >>= _) _ _ _
  refine stopHush (l := lc) (A := A.in1) (Hush.keeps (A := A) H fun b hb o' e => (Heap.get?_update_other _ _ (fun (q : it = b) => hit0 (q ▸ hb))).trans e) ?_
  intro h' e oe hs hoe hcls
  refine wpAny_bind (wpAny_isInstance (T := "StopIteration") (b := true) ⟨_, hoe, hcls⟩ isSubtype_stop ?_)
  refine wpAny_pure (hQ _ fun b o' hb q => hs b o' ?_)
  exact (Heap.get?_update_other _ _ (Ne.symm hb)).trans q
theorem next_tuple_end {it t : Addr} {i : Nat} {items} {lc : List Addr} {Q : Option Value → Shared → Prop} (H : Hush A lc s.heap) (hit0 : it ∉ lc)
    (hit : s.heap.IsTupleIter it t i) (ht : s.heap.IsTuple t items) (hx : items[i]? = none)
    (hQ : ∀ h', Heap.ExtBut it s.heap h' → Q none { s with heap := h' }) : wpAny (model pw w) A (pyNext (.ref it)) Q E s := by
  obtain ⟨o, ho, hc, hd⟩ := id hit
  obtain ⟨ol, hol, _, nl, hdl⟩ := ht
  unfold pyNext
  refine wpAny_bind (wpAny_attempt (wpAny_callSpecial?_slot (name := Str.ofString "__next__") hit.typeIs F.slot_tuple_iterator_next
    (wpAny_call_entry F.slot_tuple_iterator_next hit.typeIs F.entry_tuple_iterator_next ?_ (F.args_tuple_iterator_next_1 _))))
  show wpAny _ _ (field (.ref it) 0 >>= _) _ _ s
  refine wpAny_bind (wpAny_field ho hd (x := .ref t) rfl ?_)
  show wpAny _ _ (if (Value.ref t == Value.none) = true then _ else _) _ _ s
  rw [if_neg (show ¬ ((Value.ref t == Value.none) = true) from Bool.false_ne_true)]
  show wpAny _ _ (field (.ref it) 1 >>= _) _ _ s
  refine wpAny_bind (wpAny_field ho hd (x := .int i 0) rfl ?_)
  show wpAny _ _ (seqItems? (.ref t) >>= _) _ _ s
  refine wpAny_bind (wpAny_seqItems hol hdl ?_)
  simp only [Int.toNat_natCast, hx]
  refine wpAny_bind (wpAny_rule (wpAny_bind (wpAny_setField ho hd (by simp) ?_)))
  show wpAny _ _ (newExc (.type "StopIteration") [] >>= _) _ _ _
  refine stopHush (l := lc) (Hush.keeps (A := A) H fun b hb o' e => (Heap.get?_update_other _ _ (fun (q : it = b) => hit0 (q ▸ hb))).trans e) ?_
  intro h' e oe hs hoe hcls
  refine wpAny_bind (wpAny_isInstance (T := "StopIteration") (b := true) ⟨_, hoe, hcls⟩ isSubtype_stop ?_)
  refine wpAny_pure (hQ _ fun b o' hb q => hs b o' ?_)
  exact (Heap.get?_update_other _ _ (Ne.symm hb)).trans q

theorem unpack_items {t : Addr} {items : Array Value} {Q : List Value → Shared → Prop} {lc : List Addr} (H : Hush A lc s.heap) (ht : s.heap.IsTuple t items)
    (hQ : ∀ h', Heap.ExtBut s.heap.objs.size s.heap h' → Q items.toList { s with heap := h' }) : wpAny (model pw w) A (unpackItems (.ref t) items.size none) Q E s := by
  have hlt : t ≠ s.heap.objs.size := by obtain ⟨o, ho, _⟩ := ht; exact Nat.ne_of_lt (Heap.lt_size ho)
  unfold unpackItems
  refine wpAny_bind ?_
  unfold notIterableAtAll
  refine wpAny_bind (wpAny_specialOf ht.typeIs F.slot_tuple_iter.lookup ?_)
  refine wpAny_pure ?_
  simp only [Bool.false_eq_true, if_false]
  refine wpAny_bind (wpAny_holding (wpAny_pyIter_tuple ht ?_))
  refine wpAny_bind (wpAny_holding (wpAny_draw_tuple hlt items.size 0 _ _ ⟨_, Heap.get?_push_size _ rfl, rfl, rfl⟩ (ht.push _) (by omega) fun h₁ hit₁ hs₁ => ?_))
  have hall : List.take items.size (List.drop 0 items.toList) = items.toList := by
    rw [List.drop_zero]; exact List.take_of_length_le (by simp)
  rw [hall]
  rw [if_neg (by simp)]
  have ht₁ : h₁.IsTuple t items := (ht.push _).extBut hs₁.extBut hlt
  refine wpAny_bind (wpAny_holding (next_tuple_end (lc := lc) (H.keeps fun b _ o e => ?_) (fun hm => ?_) hit₁ ht₁ (by simp) fun h₂ he₂ => ?_))
  · exact hs₁.extBut b o (Nat.ne_of_lt (Heap.lt_size e)) (Heap.get?_push_of_some _ e)
  · obtain ⟨o, vs, ho, _⟩ := H.mem _ hm
    exact (Nat.lt_irrefl _ (Heap.lt_size ho)).elim
  · simp only [Option.isSome_none, Bool.false_eq_true, if_false]
    exact wpAny_pure (hQ h₂ fun b o hb e => he₂ b o hb (hs₁.extBut b o hb (Heap.get?_push_of_some _ e)))
theorem assign_Tup {env : Env} {elts : List Expr} {x1} {pos : Pos} {t : Addr} {items : Array Value} {Q : Unit → Shared → Prop} {lc : List Addr} (H : Hush A lc s.heap) (ht : s.heap.IsTuple t items)
    (hn : (assignEach elts env).length = items.size) (hstar : (assignEach elts env).findIdx? (·.1) = none)
    (h : ∀ h', Heap.ExtBut s.heap.objs.size s.heap h' → wpAny (model pw w) A (assignInOrder ((assignEach elts env).map (·.2)) items.toList) Q E { s with heap := h' }) :
    wpAny (model pw w) A (assign (.Tuple elts x1 pos) env (.ref t)) Q E s := by
  rw [arm_assign_Tuple]
  refine wpAny_bind (wpAny_standAt ?_)
  unfold unpack
  rw [hn, hstar]
  exact wpAny_bind (wpAny_holding (unpack_items H ht h))
end
theorem walksList {w : World} {A : Around} (lc : List Addr) (I ax : Addr) (hne : ax ≠ I) (hI : I ∉ lc) (items : Array Value) :
    Walks pw w A I (I :: ax :: lc) [I] items.size (fun i v => items[i]? = some v) (fun i h => h.IsListIter I ax i ∧ h.IsList ax items ∧ Hush A lc h) where
  sub := fun b hb => by simp at hb; simp [hb]
  frame := fun _ _ _ st hk => ⟨st.1.at fun o e => hk I (by simp) o e, st.2.1.at fun o e => hk ax (by simp) o e, st.2.2.keeps fun b hb o e => hk b (List.mem_cons_of_mem _ (List.mem_cons_of_mem _ hb)) o e⟩
  item := fun i s Q E hi st hQ => by
    refine wpAny_pyNext_list_item st.1 st.2.1 (x := items[i]) (by simp [hi]) fun h' hit' hs' => ?_
    exact hQ _ h' s.toks (by simp [hi]) ⟨hit', st.2.1.extBut hs'.extBut hne, st.2.2.keeps fun b hb o e => hs'.extBut b o (fun q => hI (q ▸ hb)) e⟩ fun b o hb e => hs'.extBut b o (fun h => hb (by simp [h])) e
  done := fun s Q E st hQ => next_list_end st.2.2 hI st.1 st.2.1 (by simp) fun h' he' => hQ h' s.toks fun b o hb e => he' b o (fun h => hb (by simp [h])) e
  self := fun _ _ _ _ st hQ => wpAny_pyIter_listiter st.1 hQ
end
section
open PyProof.Rows.LCg
abbrev Ext (h h' : Heap) : Prop := ∀ b o, h.get? b = some o → h'.get? b = some o
theorem News.sub1 {h₀ h : Heap} {L : Addr} {rest news : List (Addr × Obj)} (N : News h₀ L h rest) (hs : ∀ p ∈ news, p ∈ rest) : News h₀ L h news := fun p hp => N p (hs p hp)
theorem News.sub2 {h₀ h : Heap} {L : Addr} {x : Addr × Obj} {rest news : List (Addr × Obj)} (N : News h₀ L h (x :: rest)) (hs : ∀ p ∈ news, p ∈ rest) : News h₀ L h (x :: news) := fun p hp => (List.mem_cons.mp hp).elim (fun e => N p (e ▸ List.Mem.head _)) fun h => N p (List.mem_cons_of_mem _ (hs p h))
theorem Ext.none {h h' : Heap} (x : Ext h h') {b : Addr} (e : h'.get? b = .none) : h.get? b = .none := by
  cases q : h.get? b with
  | none => rfl
  | some o => have := x _ _ q; rw [e] at this; cases this
theorem _root_.PySem.Paired.at_ {α β : Type} {F : α → β → Prop} {l₁ : List α} {l₂ : List β} (h : Paired F l₁ l₂) : ∀ {i : Nat} {a : α} {b : β}, l₁[i]? = some a → l₂[i]? = some b → F a b := by
  induction h with
  | nil => intro i a b h _; simp at h
  | cons hF _ ih =>
    intro i a b h1 h2
    cases i with
    | zero => simp at h1 h2; subst h1 h2; exact hF
    | succ i => exact ih (by simpa using h1) (by simpa using h2)
section
variable {w : World} {A : Around} {E : Value → Shared → Prop} {s : Shared} {env : Env}

/-- a list comprehension over a list, with one test; test and element only make the heap grow -/
theorem compCore {α : Type} {elt iter ct target : PySem.Expr} {scope : Scope} {cl : List (Str × Addr)} {pos : Pos} {Q : Value → Shared → Prop} {lc : List Addr} {s₁ : Shared} {ax : Addr} {its : Array Value} (xs : List α) (R0 : α → Value → Prop) (p : α → Bool) (G : α → Value → Prop) (Pm : α → (Str → Option Value) → Prop)
    (hcell : ∀ y ∈ scope.names, y.2 ≠ .cell) (hkind : scope.kind = .function)
    (go : ∀ I l i a v (s' : Shared) (Q : Unit → Shared → Prop) (E : Value → Shared → Prop), R0 a v → s'.heap.IsListIter I l i → Q () s' → wpAny (model pw w) A (letOwnedTupleGo target (.ref I) v) Q E s')
    (hl : s₁.heap.IsList ax its) (hR0 : Paired R0 xs its.toList) (H : Hush A lc s₁.heap) (hsz : its.size ≤ sizeLine)
    (hasg : ∀ a v C hh m tk (Q : Unit → Shared → Prop) (E : Value → Shared → Prop), R0 a v → Ext s₁.heap hh → s₁.heap.get? C = none → hh.Ns C m →
        (∀ h' tk' m', h'.Ns C m' → Pm a m' → (∀ b o, b ≠ C → hh.get? b = some o → h'.get? b = some o) → Q () { s₁ with heap := h', toks := tk' }) →
        wpAny (model pw w) A (assign target (compEnvC scope cl C env) v) Q E { s₁ with heap := hh, toks := tk })
    (htest : ∀ a C hh m tk (Q : Bool → Shared → Prop) (E : Value → Shared → Prop), Pm a m → Ext s₁.heap hh → s₁.heap.get? C = none → hh.Ns C m →
        (∀ h' tk', Ext hh h' → Q (p a) { s₁ with heap := h', toks := tk' }) → wpAny (model pw w) A (isTrue ct (compEnvC scope cl C env) (eval ct (compEnvC scope cl C env))) Q E { s₁ with heap := hh, toks := tk })
    (helt : ∀ a C hh m tk (Q : Value → Shared → Prop) (E : Value → Shared → Prop), Pm a m → Ext s₁.heap hh → s₁.heap.get? C = none → hh.Ns C m →
        (∀ y h' tk', G a y → Ext hh h' → Q y { s₁ with heap := h', toks := tk' }) → wpAny (model pw w) A (eval elt (compEnvC scope cl C env)) Q E { s₁ with heap := hh, toks := tk })
    (hQ : ∀ D ys h' tk, Ext s₁.heap h' → s₁.heap.get? D = none → (∀ b o, s₁.heap.get? b = some o → b < D) → h'.get? D = some (lst ys) → Paired G (xs.filter p) ys → Q (.ref D) { s₁ with heap := h', toks := tk }) :
    wpAny (model pw w) A (pyIter (.ref ax)) (fun it s₂ => wpAny (model pw w) A (newList []) (fun acc s₃ =>
      wpAny (model pw w) A (newFunctionEnv scope env.globals cl [] env.qual none .none (some env)) (fun cenv s₄ =>
        codeAny (model pw w) A (.compStart (.ListComp elt [⟨target, iter, [ct], 0⟩] scope pos) 0 it acc { cenv with scope := relabel scope env }) (compPost (model pw w) A E none Q acc cenv.locals) s₄) E s₃) E s₂) E s₁ := by
  have hlt : ax < s₁.heap.objs.size := by obtain ⟨_, e, _⟩ := hl; exact Heap.lt_size e
  refine wpAny_pyIter_list hl ?_
  refine wpAny_newObj_type (wpAny_newFunctionEnv hcell (by intro y hy; simp at hy) (fun h₁ hns₁ hsb₁ => ?_) hkind)
  dsimp only at hns₁ hsb₁ ⊢
  generalize hH1 : s₁.heap.push { cls := .type "list_iterator", data := .fields #[.ref ax, .int 0 0] } = H1 at hns₁ hsb₁ ⊢
  generalize hH2 : H1.push { cls := .type "list", dict := none, data := .seq ([] : List Value).toArray } = H2 at hns₁ hsb₁ ⊢
  have hD : H1.objs.size = s₁.heap.objs.size + 1 := by rw [← hH1, Heap.size_push]
  have hC : H2.objs.size = s₁.heap.objs.size + 1 + 1 := by rw [← hH2, Heap.size_push, hD]
  generalize hI : s₁.heap.objs.size = I at hD hC ⊢
  generalize hDD : H1.objs.size = D at hD ⊢
  generalize hCC : H2.objs.size = C at hC hns₁ hsb₁ ⊢
  have iI : (I : Nat) ≠ D := by rw [hD]; exact Nat.ne_of_lt (Nat.lt_succ_self _)
  have iC : (I : Nat) ≠ C := by rw [hC]; exact Nat.ne_of_lt (Nat.lt_succ_of_lt (Nat.lt_succ_self _))
  have dC : (D : Nat) ≠ C := by rw [hC, hD]; exact Nat.ne_of_lt (Nat.lt_succ_self _)
  have lt0 : ∀ b o, s₁.heap.get? b = some o → (b ≠ I ∧ b ≠ D ∧ b ≠ C) := fun b o e => by
    have z : (b : Nat) < I := by rw [← hI]; exact Heap.lt_size e
    exact ⟨Nat.ne_of_lt z, by rw [hD]; exact Nat.ne_of_lt (Nat.lt_succ_of_lt z), by rw [hC]; exact Nat.ne_of_lt (Nat.lt_succ_of_lt (Nat.lt_succ_of_lt z))⟩
  have free : ∀ b : Addr, ((b = I) ∨ (b = D) ∨ (b = C)) → s₁.heap.get? b = none := fun b hb => by
    cases q : s₁.heap.get? b with
    | none => rfl
    | some o => obtain ⟨z1, z2, z3⟩ := lt0 b o q; rcases hb with x | x | x <;> contradiction
  have ltD : ∀ b o, s₁.heap.get? b = some o → (b : Nat) < D := fun b o e => by
    have z : (b : Nat) < I := by rw [← hI]; exact Heap.lt_size e
    rw [hD]; exact Nat.lt_succ_of_lt z
  have g1 : H1.get? I = some { cls := .type "list_iterator", data := .fields #[.ref ax, .int 0 0] } := by rw [← hH1, ← hI]; exact Heap.get?_push_size _ rfl
  have x1 : Ext s₁.heap H1 := fun b o e => by rw [← hH1]; exact Heap.get?_push_of_some _ e
  have x2 : Ext H1 H2 := fun b o e => by rw [← hH2]; exact Heap.get?_push_of_some _ e
  have g2 : H2.get? D = some (lst []) := by rw [← hH2, ← hDD]; exact Heap.get?_push_size _ rfl
  have up : ∀ b o, b ≠ C → H2.get? b = some o → h₁.get? b = some o := fun b o hb e => hsb₁.extBut b o hb (Heap.get?_push_of_some _ e)
  have hlen : xs.length = its.size := by have := hR0.length; first | simpa using this | simpa using this.symm
  have hIlc : I ∉ lc := fun hm => by
    obtain ⟨o, vs, ho, _⟩ := H.mem _ hm
    exact (lt0 _ _ ho).1 rfl
  have loop : ∀ s₃ : Shared, s₃ = { s₁ with heap := h₁, toks := s₁.toks + ([] : List (Str × Value)).length } →
      codeAny (model pw w) A (.compLoop (.ListComp elt [⟨target, iter, [ct], 0⟩] scope pos) 0 (.ref I) (.ref D) (compEnvC scope cl C env)) (compPost (model pw w) A E none Q (.ref D) C) s₃ := by
    rintro s₃ rfl
    refine kct_loop (fun k s' => ∃ h' tk i ys m', s' = { s₁ with heap := h', toks := tk } ∧ i ≤ its.size ∧ k = its.size + 1 - i ∧ ys.length ≤ i ∧ Ext s₁.heap h' ∧ h'.IsListIter I ax i ∧ h'.get? D = some (lst ys) ∧ h'.Ns C m' ∧ Paired G ((xs.take i).filter p) ys) ?_ (its.size + 1)
      ⟨h₁, _, 0, [], _, rfl, Nat.zero_le _, rfl, Nat.le_refl _, fun b o e => up b o (lt0 b o e).2.2 (x2 _ _ (x1 _ _ e)), ⟨_, up _ _ iC (x2 _ _ g1), rfl, rfl⟩, up _ _ dC g2, hns₁, Paired.nil⟩
    rintro k s' ⟨h', tk, i, ys, m', rfl, hi, rfl, hyl, hx, hit, hDl, hn, hP⟩
    have hl' : h'.IsList ax its := let ⟨o, ho, r⟩ := hl; ⟨o, hx _ _ ho, r⟩
    by_cases hlt : i < its.size
    · have hia : i < xs.length := by omega
      have hRi : R0 xs[i] its[i] := hR0.at_ (i := i) (List.getElem?_eq_getElem hia) (by rw [Array.getElem?_toList]; simp [hlt])
      refine wpAny_pyNext_list_item hit hl' (x := its[i]) (by simp [hlt]) fun h₂ hit₂ hs₂ => ?_
      dsimp only
      refine go I ax (i + 1) xs[i] _ _ _ _ hRi hit₂ ?_
      have hx₂ : Ext s₁.heap h₂ := fun b o e => hs₂.extBut b o (lt0 b o e).1 (hx b o e)
      refine hasg xs[i] _ C h₂ m' tk _ _ hRi hx₂ (free C (.inr (.inr rfl))) (hn.sameBut hs₂ (Ne.symm iC)) fun h₃ tk₃ m₃ hn₃ hPm hk₃ => ?_
      have hx₃ : Ext s₁.heap h₃ := fun b o e => hk₃ b o (lt0 b o e).2.2 (hx₂ b o e)
      have hit₃ : h₃.IsListIter I ax (i + 1) := let ⟨o, ho, r⟩ := hit₂; ⟨o, hk₃ _ _ iC ho, r⟩
      have hD₃ : h₃.get? D = some (lst ys) := hk₃ _ _ dC (hs₂.extBut _ _ (Ne.symm iI) hDl)
      have htake : xs.take (i + 1) = xs.take i ++ [xs[i]] := by rw [List.take_succ_eq_append_getElem hia]
      refine htest xs[i] C h₃ m₃ tk₃ _ _ hPm hx₃ (free C (.inr (.inr rfl))) hn₃ fun h₄ tk₄ hx₄ => ?_
      have hx₄' : Ext s₁.heap h₄ := fun b o e => hx₄ b o (hx₃ b o e)
      have hit₄ : h₄.IsListIter I ax (i + 1) := let ⟨o, ho, r⟩ := hit₃; ⟨o, hx₄ _ _ ho, r⟩
      have hn₄ : h₄.Ns C m₃ := hn₃.keeps hx₄
      cases hp : p xs[i] with
      | false =>
        simp only [Bool.false_eq_true, if_false]
        refine ⟨its.size + 1 - (i + 1), by omega, h₄, tk₄, i + 1, ys, m₃, rfl, hlt, rfl, Nat.le_succ_of_le hyl, hx₄', hit₄, hx₄ _ _ hD₃, hn₄, ?_⟩
        rw [htake, List.filter_append]; simpa [hp] using hP
      | true =>
        simp only [if_true]
        refine helt xs[i] C h₄ m₃ tk₄ _ _ hPm hx₄' (free C (.inr (.inr rfl))) hn₄ fun y h₅ tk₅ hG hx₅ => ?_
        refine append_at (hsz := by show ys.toArray.size ≤ sizeLine; rw [List.size_toArray]; exact Nat.le_trans (Nat.le_trans hyl hi) hsz) (hx₅ _ _ (hx₄ _ _ hD₃)) fun h₆ hs₆ hD₆ => ?_
        refine ⟨its.size + 1 - (i + 1), by omega, h₆, tk₅, i + 1, ys ++ [y], m₃, rfl, hlt, rfl, by rw [List.length_append, List.length_singleton]; exact Nat.succ_le_succ hyl, fun b o e => hs₆.extBut b o (lt0 b o e).2.1 (hx₅ b o (hx₄' b o e)),
          (let ⟨o, ho, r⟩ := hit₄; ⟨o, hs₆.extBut _ _ iI (hx₅ _ _ ho), r⟩), hD₆.trans (congrArg some (lst_snoc ys y)), (hn₄.keeps hx₅).sameBut hs₆ (Ne.symm dC), ?_⟩
        rw [htake, List.filter_append]; simpa [hp] using Paired.snoc hP hG
    · obtain rfl : i = its.size := Nat.le_antisymm hi (Nat.not_lt.mp hlt)
      refine next_list_end (lc := lc) (H.keeps fun b _ o e => hx b o e) hIlc hit hl' (by simp) fun h₂ he₂ => ?_
      dsimp only
      refine ⟨m', hn.at' fun o e => he₂ _ o (Ne.symm iC) e, fun h₃ hs₃ => ?_⟩
      refine hQ D ys h₃ _ (fun b o e => hs₃.extBut b o (lt0 b o e).2.2 (he₂ b o (lt0 b o e).1 (hx b o e))) (free D (.inr (.inl rfl))) (fun b o e => ltD b o e) (hs₃.extBut _ _ dC (he₂ _ _ (Ne.symm iI) hDl)) ?_
      rw [List.take_of_length_le (by omega)] at hP
      exact hP
  exact codeAny_compStart_list (loop _ rfl) (wpAny_pyIter_listiter ⟨_, up _ _ iC (x2 _ _ g1), rfl, rfl⟩ (loop _ rfl))
theorem assign2 {a b : Str} {pa pb tp : Pos} {kk : Nat} {T : Addr} {x y : Value} {m : Str → Option Value} {lc : List Addr} {Q : Unit → Shared → Prop} (H : Hush A lc s.heap) (ht : s.heap.IsTuple T #[x, y])
    (ha : env.kindOf a = some .local) (hb : env.kindOf b = some .local) (hp : (env.scope.kind == .class || (env.scope.kind == .module && env.locals != env.globals)) = false) (hn : s.heap.Ns env.locals m)
    (h : ∀ (h' : Heap) (tk : Nat), h'.Ns env.locals (fun z => if z = b then some y else if z = a then some x else m z) → (∀ c o, c ≠ env.locals → s.heap.get? c = some o → h'.get? c = some o) → Q () { s with heap := h', toks := tk }) :
    wpAny (model pw w) A (assign (.Tuple [.Name a pa, .Name b pb] kk tp) env (.ref T)) Q E s := by
  refine assign_Tup H ht rfl rfl fun h₁ he₁ => ?_
  have hL : env.locals ≠ s.heap.objs.size := Nat.ne_of_lt hn.lt
  have hn₁ : h₁.Ns env.locals m := hn.at' fun o e => he₁ _ o hL e
  have up₁ : ∀ c o, s.heap.get? c = some o → h₁.get? c = some o := fun c o e => he₁ c o (Nat.ne_of_lt (Heap.lt_size e)) e
  show wpAny _ _ (assignInOrder [assign (.Name a pa) env, assign (.Name b pb) env] [x, y]) _ _ _
  refine assignInOrder_cons ?_
  refine wpAny_assign_Name (wpAny_storeName_local ha hn₁ (fun h₂ hn₂ hs₂ => ?_) hp)
  refine assignInOrder_cons ?_
  refine wpAny_assign_Name (wpAny_storeName_local hb hn₂ (fun h₃ hn₃ hs₃ => ?_) hp)
  refine assignInOrder_nil ?_
  exact h h₃ _ hn₃ fun c o hc e => hs₃.extBut c o hc (hs₂.extBut c o hc (up₁ c o e))

def PairAt (news : List (Addr × Obj)) (p : Int × Int) (x : Value) : Prop := ∃ t e t0 t1, x = .ref t ∧ (t, ({ cls := .type "tuple", data := .seq #[.int p.1 t0, .int p.2 t1] e } : Obj)) ∈ news
def KnIn (news : List (Addr × Obj)) (v : Value) (ks : List (Int × Int)) : Prop := ∃ a its e, v = .ref a ∧ (a, listOf (List.toArray its) e) ∈ news ∧ Paired (PairAt news) ks its
def CompGo (w : World) (A : Around) (h₀ : Heap) (L : Addr) (m : Str → Option Value) (news : List (Addr × Obj)) (env : Env) (scope : Scope) (cl : List (Str × Addr)) (a b : Str) (ct elt : PySem.Expr) (Q : Value → Shared → Prop) (xv : Value) (s₁ : Shared) : Prop :=
  ∃ ks lc, Fr h₀ L s₁.heap m ∧ News h₀ L s₁.heap news ∧ KnIn news xv ks ∧ Hush A lc s₁.heap ∧ ks.length ≤ sizeLine ∧ ∃ (p : Int × Int → Bool) (G : Int × Int → Value → Prop),
    (∀ (k : Int × Int) C oC hh m₂ tk t0 t1 (Q : Bool → Shared → Prop) (E : Value → Shared → Prop), NsObj oC m₂ → m₂ a = some (.int k.1 t0) → m₂ b = some (.int k.2 t1) → Fr h₀ L hh m → News h₀ L hh ((C, oC) :: news) →
        (∀ h' tk', Ext hh h' → Q (p k) { s₁ with heap := h', toks := tk' }) → wpAny (model pw w) A (isTrue ct (compEnvC scope cl C env) (eval ct (compEnvC scope cl C env))) Q E { s₁ with heap := hh, toks := tk }) ∧
    (∀ (k : Int × Int) C oC hh m₂ tk t0 t1 (Q : Value → Shared → Prop) (E : Value → Shared → Prop), NsObj oC m₂ → m₂ a = some (.int k.1 t0) → m₂ b = some (.int k.2 t1) → Fr h₀ L hh m → News h₀ L hh ((C, oC) :: news) →
        (∀ y h' tk', G k y → Ext hh h' → Q y { s₁ with heap := h', toks := tk' }) → wpAny (model pw w) A (eval elt (compEnvC scope cl C env)) Q E { s₁ with heap := hh, toks := tk }) ∧
    (∀ D ys h' tk, Fr h₀ L h' m → News h₀ L h' ((D, lst ys) :: news) → (∀ p ∈ news, p.1 < D) → Paired G (ks.filter p) ys → Q (.ref D) { s₁ with heap := h', toks := tk })
theorem compPairs {h₀ : Heap} {L : Addr} {m : Str → Option Value} {news : List (Addr × Obj)} {elt iter ct : PySem.Expr} {a b : Str} {pa pb tp : Pos} {kk : Nat} {scope : Scope} {cl : List (Str × Addr)} {pos : Pos} {Q : Value → Shared → Prop}
    (hclos : closureFor scope env = pure cl) (hcell : ∀ y ∈ scope.names, y.2 ≠ .cell) (hkind : scope.kind = .function)
    (hnames : ∀ y ∈ scope.names, y.2 = .local → scope.names.lookup y.1 = some .local) (hxa : scope.names.lookup a = some .local) (hxb : scope.names.lookup b = some .local) (hab : ¬ a = b)
    (_F₀ : Fr h₀ L s.heap m) (_N₀ : News h₀ L s.heap news)
    (h : wpAny (model pw w) A (eval iter env) (CompGo w A h₀ L m news env scope cl a b ct elt Q) E s)
    (hs : ∀ x, foldedSetIterable iter env x = pure x := by intro _; rfl) :
    wpAny (model pw w) A (eval (.ListComp elt [⟨.Tuple [.Name a pa, .Name b pb] kk tp, iter, [ct], 0⟩] scope pos) env) Q E s := by
  rw [eval_ListComp]
  refine wpAny_comprehension_free (use := none) rfl hs hclos hkind hnames (wpAny_mono h (fun xv s₁ h₁ => ?_) fun _ _ e => e)
  obtain ⟨ks, lc, F, N, ⟨ax, its, e, rfl, hm, hP⟩, H, hsz, p, G, htest, helt, hQ⟩ := h₁
  have hlen := hP.length
  have kind : ∀ x C, scope.names.lookup x = some .local → (compEnvC scope cl C env).kindOf x = some .local := fun x C hx => lookup_relabel_local hx
  have FC : ∀ C hh, Ext s₁.heap hh → s₁.heap.get? C = none → Fr h₀ L hh m := fun C hh x _ => F.keeps x
  have NC : ∀ C oC hh, Ext s₁.heap hh → s₁.heap.get? C = none → hh.get? C = some oC → News h₀ L hh ((C, oC) :: news) := fun C oC hh x hC hO q hq => by
    rcases List.mem_cons.mp hq with rfl | hq
    · refine ⟨hO, fun z => ?_, ?_⟩
      · obtain ⟨o, _, _, ho, _⟩ := F.ns
        rw [← z, hC] at ho; cases ho
      · cases y : h₀.get? C with
        | none => rfl
        | some o => have := F.keep _ _ y; rw [hC] at this; cases this
    · exact ⟨x _ _ (N q hq).1, (N q hq).2⟩
  refine compCore ks (PairAt news) p G (fun k m₂ => ∃ t0 t1, m₂ a = some (.int k.1 t0) ∧ m₂ b = some (.int k.2 t1)) hcell hkind ?_ (News.isList N hm) (by rw [List.toList_toArray]; exact hP) H (by rw [List.size_toArray]; omega) ?_ ?_ ?_ ?_
  · rintro I l i k v s' Q E ⟨T, e, t0, t1, rfl, hT⟩ hit hq
    exact wpAny_letOwnedTupleGo_listiter hit hq
  · rintro k v C hh m₁ tk Q E ⟨T, e, t0, t1, rfl, hT⟩ hx hC hn hq
    refine assign2 (H.keeps fun b _ o e => hx b o e) ⟨_, hx _ _ (N _ hT).1, rfl, _, rfl⟩ (kind a C hxa) (kind b C hxb) (by simp [compEnvC, relabel, hkind]) hn fun h' tk' hn' hk' => ?_
    exact hq h' tk' _ hn' ⟨t0, t1, by simp [hab], by simp⟩ hk'
  · rintro k C hh m₁ tk Q E ⟨t0, t1, ha, hb⟩ hx hC hn hq
    obtain ⟨oC, heC, hoC⟩ := ns_obj hn
    exact htest k C oC hh m₁ tk t0 t1 Q E hoC ha hb (FC C hh hx hC) (NC C oC hh hx hC heC) hq
  · rintro k C hh m₁ tk Q E ⟨t0, t1, ha, hb⟩ hx hC hn hq
    obtain ⟨oC, heC, hoC⟩ := ns_obj hn
    exact helt k C oC hh m₁ tk t0 t1 Q E hoC ha hb (FC C hh hx hC) (NC C oC hh hx hC heC) hq
  · intro D ys h' tk hx hD hlt hO hP'
    refine hQ D ys h' tk (F.keeps hx) (NC D _ h' hx hD hO) (fun q hq => hlt _ _ (N q hq).1) hP'
end
end
section
open PyProof.Rows.LCg
theorem zipPaired {α : Type} {R0 : α → Value → Prop} {xs : List α} {its : List Value} (h : Paired R0 xs its) : Paired (fun (k : α × Value) v => R0 k.1 v ∧ v = k.2) (xs.zip its) its := by
  induction h with
  | nil => exact .nil
  | cons hF _ ih => exact .cons ⟨hF, rfl⟩ ih
theorem unzipPaired {α : Type} {R0 : α → Value → Prop} (p : α → Bool) {xs : List α} {its : List Value} (h : Paired R0 xs its) : ∀ {ys : List Value}, Paired (fun (k : α × Value) v => R0 k.1 v ∧ v = k.2) ((xs.zip its).filter (fun k => p k.1)) ys → Paired R0 (xs.filter p) ys := by
  induction h with
  | nil => intro ys h; cases h; exact .nil
  | @cons a b l₁ l₂ hF _ ih =>
    intro ys h
    rw [List.zip_cons_cons, List.filter_cons] at h
    rw [List.filter_cons]
    cases hp : p a with
    | true =>
      simp only [hp, if_true] at h ⊢
      cases h with
      | cons h1 h2 => exact .cons h1.1 (ih h2)
    | false =>
      simp only [hp, Bool.false_eq_true, if_false] at h ⊢
      exact ih h
section
variable {w : World} {A : Around} {E : Value → Shared → Prop} {s : Shared} {env : Env}
abbrev EB (w : World) (A : Around) (env : Env) (E : Value → Shared → Prop) : Value → Shared → Prop := notedBy (model pw w) A env fun e s' => cameBackBy (model pw w) A env E e s'
def Turn (w : World) (A : Around) (env : Env) (E : Value → Shared → Prop) (target : PySem.Expr) (body : List Stmt) (I : Addr) (v : Value) (s s₁ : Shared) (Q : Flow → Shared → Prop) (J : Heap → Prop) : Prop :=
  wpAny (model pw w) A (letOwnedTupleGo target (.ref I) v) (fun _ s' => wpAny (model pw w) A (assign target env v) (fun _ s2 => wpAny (model pw w) A (execs body env) (fun f s3 => match f with
    | .next | .cont => ∃ h3 tk3, s3 = { s₁ with heap := h3, toks := tk3 } ∧ J h3
    | .brk => Q .next s3
    | .ret v => Q (.ret v) s3) (EB w A env E) s2) (EB w A env E) s') (EB w A env E) s
theorem forGen {target iter : PySem.Expr} {body orelse : List Stmt} {pos : Pos} {Q : Flow → Shared → Prop}
    (h : wpAny (model pw w) A (eval iter env) (fun xv s₁ => ∃ ax its, ∃ J : Addr → Nat → Heap → Prop, xv = .ref ax ∧ s₁.heap.IsList ax its ∧
      (∀ I h', s₁.heap.get? I = none → (∀ b o, s₁.heap.get? b = some o → b < I) → Ext s₁.heap h' → h'.IsListIter I ax 0 → J I 0 h') ∧
      (∀ I i h', J I i h' → h'.IsListIter I ax i ∧ h'.IsList ax its ∧ ∃ lc, Hush A lc h' ∧ I ∉ lc) ∧
      (∀ I i v h' h'' tk, its[i]? = some v → J I i h' → Heap.SameBut I h' h'' → h''.IsListIter I ax (i + 1) → Turn w A env E target body I v { s₁ with heap := h'', toks := tk } s₁ Q (J I (i + 1))) ∧
      (∀ I h' h'' tk, J I its.size h' → Heap.ExtBut I h' h'' → wpAny (model pw w) A (execs orelse env) Q (EB w A env E) { s₁ with heap := h'', toks := tk })) E s)
    (hs : ∀ x, foldedSetIterable iter env x = pure x := by intro _; rfl) :
    wpAny (model pw w) A (exec (.For target iter body orelse pos) env) Q E s := by
  refine wpAny_For (wpAny_mono h (fun xv s₁ h₁ => ?_) fun _ _ e => e) hs
  obtain ⟨ax, its, J, rfl, hl, h0, hinv, hstep, hdone⟩ := h₁
  refine wpAny_pyIter_list hl ?_
  have up : ∀ b o, s₁.heap.get? b = some o → (s₁.heap.push { cls := .type "list_iterator", data := .fields #[.ref ax, .int 0 0] }).get? b = some o := fun b o e => Heap.get?_push_of_some _ e
  refine codeAny_forLoop_any (fun k s' => ∃ h' tk i, s' = { s₁ with heap := h', toks := tk } ∧ i ≤ its.size ∧ k = its.size + 1 - i ∧ J s₁.heap.objs.size i h') ?_ (its.size + 1)
    ⟨_, s₁.toks, 0, rfl, Nat.zero_le _, rfl, h0 _ _ (Heap.get?_none_of_le (Nat.le_refl _)) (fun b o e => Heap.lt_size e) up ⟨_, Heap.get?_push_size _ rfl, rfl, rfl⟩⟩
  rintro k s' ⟨h', tk, i, rfl, hi, rfl, hJ⟩
  obtain ⟨hit, hl', lc, H, hlc⟩ := hinv _ _ _ hJ
  by_cases hlt : i < its.size
  · refine wpAny_pyNext_list_item hit hl' (x := its[i]) (by simp [hlt]) fun h₂ hit₂ hs₂ => ?_
    dsimp only
    have T := hstep _ i its[i] h' h₂ tk (by simp [hlt]) hJ hs₂ hit₂
    unfold Turn at T
    refine wpAny_mono T (fun _ s₂ T2 => wpAny_mono T2 (fun _ s₃ T3 => wpAny_mono T3 (fun f s₄ T4 => ?_) fun _ _ e => e) fun _ _ e => e) fun _ _ e => e
    cases f with
    | next =>
      obtain ⟨h3, tk3, rfl, hJ3⟩ := T4
      exact ⟨its.size + 1 - (i + 1), by omega, h3, tk3, i + 1, rfl, hlt, rfl, hJ3⟩
    | cont =>
      obtain ⟨h3, tk3, rfl, hJ3⟩ := T4
      exact ⟨its.size + 1 - (i + 1), by omega, h3, tk3, i + 1, rfl, hlt, rfl, hJ3⟩
    | brk => exact T4
    | ret v => exact T4
  · obtain rfl : i = its.size := Nat.le_antisymm hi (Nat.not_lt.mp hlt)
    refine next_list_end H hlc hit hl' (by simp) fun h₂ he₂ => ?_
    dsimp only
    exact hdone _ h' h₂ tk hJ he₂
end
abbrev tupO (x y : Value) (e : Nat) : Obj := { cls := .type "tuple", data := .seq #[x, y] e }
def HushIn (hd : Option Value) (news : List (Addr × Obj)) : Prop :=
  hd = none ∨ (∃ a o vs, hd = some (.ref a) ∧ (a, o) ∈ news ∧ o.data = .fields vs ∧ vs[2]? = some .none) ∨
    ∃ a b o o2 vs vs2, hd = some (.ref a) ∧ a ≠ b ∧ (a, o) ∈ news ∧ o.data = .fields vs ∧ vs[2]? = some (.ref b) ∧ (b, o2) ∈ news ∧ o2.data = .fields vs2 ∧ vs2[2]? = some .none
theorem HushIn.mono {hd : Option Value} {news news' : List (Addr × Obj)} (H : HushIn hd news) (hs : ∀ p ∈ news, p ∈ news') : HushIn hd news' := by
  rcases H with h | ⟨a, o, vs, h1, h2, h3, h4⟩ | ⟨a, b, o, o2, vs, vs2, h1, h0, h2, h3, h4, h5, h6, h7⟩
  · exact .inl h
  · exact .inr (.inl ⟨a, o, vs, h1, hs _ h2, h3, h4⟩)
  · exact .inr (.inr ⟨a, b, o, o2, vs, vs2, h1, h0, hs _ h2, h3, h4, hs _ h5, h6, h7⟩)
theorem HushIn.hush {A : Around} {news : List (Addr × Obj)} {h₀ h : Heap} {L : Addr} (H : HushIn A.handled news) (N : News h₀ L h news) : ∃ lc, Hush A lc h ∧ ∀ b ∈ lc, ∃ o, (b, o) ∈ news := by
  rcases H with h | ⟨a, o, vs, h1, h2, h3, h4⟩ | ⟨a, b, o, o2, vs, vs2, h1, h0, h2, h3, h4, h5, h6, h7⟩
  · exact ⟨[], .inl ⟨h, rfl⟩, fun _ hb => nomatch hb⟩
  · exact ⟨[a], .inr ⟨_, h1, .one (N _ h2).1 h3 h4⟩, fun b hb => by rw [List.mem_singleton] at hb; subst hb; exact ⟨o, h2⟩⟩
  · refine ⟨[a, b], .inr ⟨_, h1, .two (N _ h2).1 h3 h4 h0 (N _ h5).1 h6 h7⟩, fun c hc => ?_⟩
    simp only [List.mem_cons, List.not_mem_nil, or_false] at hc
    rcases hc with rfl | rfl
    · exact ⟨o, h2⟩
    · exact ⟨o2, h5⟩

section
variable {w : World} {A : Around} {E : Value → Shared → Prop} {s : Shared} {env : Env}
def BodyEnd (h₀ : Heap) (L : Addr) (s₁ : Shared) (I : Addr) (oI : Obj) (Q : Flow → Shared → Prop) (J : (Str → Option Value) → List (Addr × Obj) → Prop) (f : Flow) (s3 : Shared) : Prop :=
  match f with
  | .next | .cont => ∃ hh tk m news, s3 = { s₁ with heap := hh, toks := tk } ∧ Fr h₀ L hh m ∧ News h₀ L hh ((I, oI) :: news) ∧ (∀ p ∈ news, p.1 ≠ I) ∧ J m news
  | .brk => Q .next s3
  | .ret v => Q (.ret v) s3
def ForGo (w : World) (A : Around) (E : Value → Shared → Prop) (h₀ : Heap) (L : Addr) (m₀ : Str → Option Value) (env : Env) (body orelse : List Stmt) (Q : Flow → Shared → Prop) (okv : Value → List (Addr × Obj) → Prop) (up : (Str → Option Value) → Value → List (Addr × Obj) → (Str → Option Value) → Prop) (xv : Value) (s₁ : Shared) : Prop :=
  ∃ ax its, ∃ J : Nat → (Str → Option Value) → List (Addr × Obj) → Prop, ∃ news, xv = .ref ax ∧ Fr h₀ L s₁.heap m₀ ∧ News h₀ L s₁.heap news ∧ J 0 m₀ news ∧
    (∀ i m news, J i m news → (∃ e, (ax, listOf its e) ∈ news) ∧ HushIn A.handled news) ∧
    (∀ i v m news, its[i]? = some v → J i m news → okv v news) ∧
    (∀ i v m news m' hh tk I oI, its[i]? = some v → J i m news → up m v news m' → Fr h₀ L hh m' → News h₀ L hh ((I, oI) :: news) → (∀ p ∈ news, p.1 ≠ I) →
      wpAny (model pw w) A (execs body env) (BodyEnd h₀ L s₁ I oI Q (J (i + 1))) (EB w A env E) { s₁ with heap := hh, toks := tk }) ∧
    (∀ hh tk m news, J its.size m news → Fr h₀ L hh m → News h₀ L hh news → wpAny (model pw w) A (execs orelse env) Q (EB w A env E) { s₁ with heap := hh, toks := tk })
theorem forLed {h₀ : Heap} {L : Addr} {m₀ : Str → Option Value} {target iter : PySem.Expr} {body orelse : List Stmt} {pos : Pos} {Q : Flow → Shared → Prop} (okv : Value → List (Addr × Obj) → Prop) (up : (Str → Option Value) → Value → List (Addr × Obj) → (Str → Option Value) → Prop)
    (asg : ∀ I ax i v m news hh (s₁ : Shared) (Q' : Unit → Shared → Prop) (E' : Value → Shared → Prop), Fr h₀ L hh m → News h₀ L hh news → hh.IsListIter I ax i → HushIn A.handled news → okv v news →
      (∀ h' tk' m', up m v news m' → Fr h₀ L h' m' → (∀ b o, b ≠ L → hh.get? b = some o → h'.get? b = some o) → Q' () { s₁ with heap := h', toks := tk' }) → ∀ tk,
      wpAny (model pw w) A (letOwnedTupleGo target (.ref I) v) (fun _ s' => wpAny (model pw w) A (assign target env v) Q' E' s') E' { s₁ with heap := hh, toks := tk })
    (h : wpAny (model pw w) A (eval iter env) (ForGo w A E h₀ L m₀ env body orelse Q okv up) E s)
    (hs : ∀ x, foldedSetIterable iter env x = pure x := by intro _; rfl) :
    wpAny (model pw w) A (exec (.For target iter body orelse pos) env) Q E s := by
  refine forGen (wpAny_mono h (fun xv s₁ h₁ => ?_) fun _ _ e => e) hs
  obtain ⟨ax, its, J, news₀, rfl, F₀, N₀, hJ0, hsrc, hok, hstep, hdone⟩ := h₁
  have isl : ∀ {h' news e}, News h₀ L h' news → (ax, listOf its e) ∈ news → h'.IsList ax its := fun N hm => ⟨_, (N _ hm).1, rfl, _, rfl⟩
  obtain ⟨⟨e0, hm0⟩, _⟩ := hsrc _ _ _ hJ0
  refine ⟨ax, its, fun I i h' => ∃ m news, Fr h₀ L h' m ∧ News h₀ L h' news ∧ (∀ p ∈ news, p.1 ≠ I) ∧ h₀.get? I = none ∧ I ≠ L ∧ h'.IsListIter I ax i ∧ J i m news, rfl, isl N₀ hm0, ?_, ?_, ?_, ?_⟩
  · intro I h' hI hlt hx hit
    refine ⟨m₀, news₀, F₀.keeps hx, N₀.grown hx, fun p hp => Nat.ne_of_lt (hlt _ _ (N₀ p hp).1), ?_, fun q => ?_, hit, hJ0⟩
    · cases q : h₀.get? I with
      | none => rfl
      | some o => have := F₀.keep _ _ q; rw [hI] at this; cases this
    · obtain ⟨o, _, _, ho, _⟩ := F₀.ns
      rw [← q, hI] at ho; cases ho
  · rintro I i h' ⟨m, news, F, N, hne, hI0, hIL, hit, hJ⟩
    obtain ⟨⟨e, hm⟩, hH⟩ := hsrc _ _ _ hJ
    obtain ⟨lc, H, hlc⟩ := hH.hush N
    exact ⟨hit, isl N hm, lc, H, fun hb => let ⟨o, ho⟩ := hlc _ hb; hne _ ho rfl⟩
  · rintro I i v h' h'' tk hv ⟨m, news, F, N, hne, hI0, hIL, hit, hJ⟩ hsb hit''
    obtain ⟨_, hH⟩ := hsrc _ _ _ hJ
    have F' : Fr h₀ L h'' m := F.change hsb hIL hI0
    have N' : News h₀ L h'' news := fun p hp => ⟨hsb.extBut _ _ (hne p hp) (N p hp).1, (N p hp).2⟩
    unfold Turn
    refine wpAny_mono (asg I ax (i + 1) v m news h'' s₁ _ _ F' N' hit'' hH (hok i v m news hv hJ) (fun h3 tk3 m' hup F3 hk3 => ?_) tk) (fun _ s' hh => hh) fun _ _ e => e
    obtain ⟨oI, hoI, hci, hdi⟩ := hit''
    have N3 : News h₀ L h3 ((I, oI) :: news) := fun p hp => by
      rcases List.mem_cons.mp hp with rfl | hp
      · exact ⟨hk3 _ _ hIL hoI, hIL, hI0⟩
      · exact ⟨hk3 _ _ (N' p hp).2.1 (N' p hp).1, (N' p hp).2⟩
    refine wpAny_mono (hstep i v m news m' h3 tk3 I oI hv hJ hup F3 N3 hne) (fun f s4 h4 => ?_) fun _ _ e => e
    have fin : (∃ hh tk m news, s4 = { s₁ with heap := hh, toks := tk } ∧ Fr h₀ L hh m ∧ News h₀ L hh ((I, oI) :: news) ∧ (∀ p ∈ news, p.1 ≠ I) ∧ J (i + 1) m news) →
        ∃ h3 tk3, s4 = { s₁ with heap := h3, toks := tk3 } ∧ ∃ m news, Fr h₀ L h3 m ∧ News h₀ L h3 news ∧ (∀ p ∈ news, p.1 ≠ I) ∧ h₀.get? I = none ∧ I ≠ L ∧ h3.IsListIter I ax (i + 1) ∧ J (i + 1) m news := by
      rintro ⟨hh, tk4, m4, news4, rfl, F4, N4, hne4, hJ4⟩
      exact ⟨hh, tk4, rfl, m4, news4, F4, fun p hp => N4 p (List.mem_cons_of_mem _ hp), hne4, hI0, hIL, ⟨oI, (N4 _ (List.mem_cons_self)).1, hci, hdi⟩, hJ4⟩
    cases f with
    | next => exact fin h4
    | cont => exact fin h4
    | brk => exact h4
    | ret v => exact h4
  · rintro I h' h'' tk ⟨m, news, F, N, hne, hI0, hIL, hit, hJ⟩ hb
    refine hdone h'' tk m news hJ ⟨F.ns.at' fun o e => hb _ o (Ne.symm hIL) e, fun b o e => hb b o (fun q => by rw [q, hI0] at e; cases e) (F.keep b o e), F.above⟩ fun p hp => ⟨hb _ _ (hne p hp) (N p hp).1, (N p hp).2⟩

def upName (x : Str) (m : Str → Option Value) (v : Value) (_ : List (Addr × Obj)) (m' : Str → Option Value) : Prop := m' = fun z => if z = x then some v else m z
def upPair (a b : Str) (m : Str → Option Value) (v : Value) (news : List (Addr × Obj)) (m' : Str → Option Value) : Prop :=
  ∃ T y1 y2 e, v = .ref T ∧ (T, tupO y1 y2 e) ∈ news ∧ m' = fun z => if z = b then some y2 else if z = a then some y1 else m z
def okPair (v : Value) (news : List (Addr × Obj)) : Prop := ∃ T y1 y2 e, v = .ref T ∧ (T, tupO y1 y2 e) ∈ news
theorem frUp {h₀ hh h' : Heap} {L : Addr} {m m' : Str → Option Value} (F : Fr h₀ L hh m) (hn : h'.Ns L m') (hk : ∀ b o, b ≠ L → hh.get? b = some o → h'.get? b = some o) : Fr h₀ L h' m' :=
  ⟨hn, fun b o e => hk b o (Nat.ne_of_lt (Nat.lt_of_lt_of_le (Heap.lt_size e) F.above)) (F.keep b o e), F.above⟩
theorem forName {h₀ : Heap} {L : Addr} {m₀ : Str → Option Value} {iter : PySem.Expr} {x : Str} {px : Pos} {body orelse : List Stmt} {pos : Pos} {Q : Flow → Shared → Prop} (hL : env.locals = L) (_F₀ : Fr h₀ L s.heap m₀)
    (hx : env.kindOf x = some .local) (hp : (env.scope.kind == .class || (env.scope.kind == .module && env.locals != env.globals)) = false)
    (h : wpAny (model pw w) A (eval iter env) (ForGo w A E h₀ L m₀ env body orelse Q (fun _ _ => True) (upName x)) E s)
    (hs : ∀ x, foldedSetIterable iter env x = pure x := by intro _; rfl) :
    wpAny (model pw w) A (exec (.For (.Name x px) iter body orelse pos) env) Q E s := by
  subst hL
  refine forLed (fun _ _ => True) (upName x) (fun I ax i v m news hh s₁ Q' E' F N hit H _ hq tk => ?_) h hs
  refine wpAny_of_eq (a := ()) rfl ?_
  refine wpAny_assign_Name (wpAny_storeName_local hx F.ns (fun h₂ hn₂ hs₂ => ?_) hp)
  exact hq h₂ _ _ rfl (frUp F hn₂ fun b o hb e => hs₂.extBut b o hb e) fun b o hb e => hs₂.extBut b o hb e
theorem forPair {h₀ : Heap} {L : Addr} {m₀ : Str → Option Value} {iter : PySem.Expr} {a b : Str} {pa pb tp : Pos} {kk : Nat} {body orelse : List Stmt} {pos : Pos} {Q : Flow → Shared → Prop} (hL : env.locals = L) (_F₀ : Fr h₀ L s.heap m₀)
    (ha : env.kindOf a = some .local) (hb : env.kindOf b = some .local) (hp : (env.scope.kind == .class || (env.scope.kind == .module && env.locals != env.globals)) = false)
    (h : wpAny (model pw w) A (eval iter env) (ForGo w A E h₀ L m₀ env body orelse Q okPair (upPair a b)) E s)
    (hs : ∀ x, foldedSetIterable iter env x = pure x := by intro _; rfl) :
    wpAny (model pw w) A (exec (.For (.Tuple [.Name a pa, .Name b pb] kk tp) iter body orelse pos) env) Q E s := by
  subst hL
  refine forLed okPair (upPair a b) (fun I ax i v m news hh s₁ Q' E' F N hit H hok hq tk => ?_) h hs
  obtain ⟨T, y1, y2, e, rfl, hT⟩ := hok
  refine wpAny_letOwnedTupleGo_listiter hit ?_
  obtain ⟨lc, Hc, _⟩ := H.hush N
  refine assign2 Hc ⟨_, (N _ hT).1, rfl, _, rfl⟩ ha hb hp F.ns fun h' tk' hn' hk' => ?_
  exact hq h' tk' _ ⟨T, y1, y2, e, rfl, hT, rfl⟩ (frUp F hn' hk') hk'

def CompGoN (w : World) (A : Around) (h₀ : Heap) (L : Addr) (m : Str → Option Value) (news : List (Addr × Obj)) (env : Env) (scope : Scope) (cl : List (Str × Addr)) (x : Str) (ct elt : PySem.Expr) (Q : Value → Shared → Prop) (xv : Value) (s₁ : Shared) : Prop :=
  ∃ ax its e, xv = .ref ax ∧ Fr h₀ L s₁.heap m ∧ News h₀ L s₁.heap news ∧ (ax, listOf (List.toArray its) e) ∈ news ∧ HushIn A.handled news ∧ its.length ≤ sizeLine ∧ ∃ (α : Type) (xs : List α) (R0 : α → Value → Prop) (p : α → Bool), Paired R0 xs its ∧
    (∀ k v C oC hh m₂ tk (Q : Bool → Shared → Prop) (E : Value → Shared → Prop), R0 k v → NsObj oC m₂ → m₂ x = some v → Fr h₀ L hh m → News h₀ L hh ((C, oC) :: news) →
        (∀ h' tk', Ext hh h' → Q (p k) { s₁ with heap := h', toks := tk' }) → wpAny (model pw w) A (isTrue ct (compEnvC scope cl C env) (eval ct (compEnvC scope cl C env))) Q E { s₁ with heap := hh, toks := tk }) ∧
    (∀ k v C oC hh m₂ tk (Q : Value → Shared → Prop) (E : Value → Shared → Prop), R0 k v → NsObj oC m₂ → m₂ x = some v → Fr h₀ L hh m → News h₀ L hh ((C, oC) :: news) →
        (∀ h' tk', Ext hh h' → Q v { s₁ with heap := h', toks := tk' }) → wpAny (model pw w) A (eval elt (compEnvC scope cl C env)) Q E { s₁ with heap := hh, toks := tk }) ∧
    (∀ D ys h' tk, Fr h₀ L h' m → News h₀ L h' ((D, lst ys) :: news) → (∀ p ∈ news, p.1 < D) → Paired R0 (xs.filter p) ys → Q (.ref D) { s₁ with heap := h', toks := tk })
theorem compName {h₀ : Heap} {L : Addr} {m : Str → Option Value} {news : List (Addr × Obj)} {elt iter ct : PySem.Expr} {x : Str} {px : Pos} {scope : Scope} {cl : List (Str × Addr)} {pos : Pos} {Q : Value → Shared → Prop}
    (hclos : closureFor scope env = pure cl) (hcell : ∀ y ∈ scope.names, y.2 ≠ .cell) (hkind : scope.kind = .function)
    (hnames : ∀ y ∈ scope.names, y.2 = .local → scope.names.lookup y.1 = some .local) (hxa : scope.names.lookup x = some .local)
    (_F₀ : Fr h₀ L s.heap m) (_N₀ : News h₀ L s.heap news)
    (h : wpAny (model pw w) A (eval iter env) (CompGoN w A h₀ L m news env scope cl x ct elt Q) E s)
    (hs : ∀ x, foldedSetIterable iter env x = pure x := by intro _; rfl) :
    wpAny (model pw w) A (eval (.ListComp elt [⟨.Name x px, iter, [ct], 0⟩] scope pos) env) Q E s := by
  rw [eval_ListComp]
  refine wpAny_comprehension_free (use := none) rfl hs hclos hkind hnames (wpAny_mono h (fun xv s₁ h₁ => ?_) fun _ _ e => e)
  obtain ⟨ax, its, e, rfl, F, N, hm, hH, hsz, α, xs, R0, p, hP, htest, helt, hQ⟩ := h₁
  obtain ⟨lc, H, _⟩ := hH.hush N
  have kind : ∀ x C, scope.names.lookup x = some .local → (compEnvC scope cl C env).kindOf x = some .local := fun x C hx => lookup_relabel_local hx
  have FC : ∀ C hh, Ext s₁.heap hh → s₁.heap.get? C = none → Fr h₀ L hh m := fun C hh x _ => F.keeps x
  have NC : ∀ C oC hh, Ext s₁.heap hh → s₁.heap.get? C = none → hh.get? C = some oC → News h₀ L hh ((C, oC) :: news) := fun C oC hh x hC hO q hq => by
    rcases List.mem_cons.mp hq with rfl | hq
    · refine ⟨hO, fun z => ?_, ?_⟩
      · obtain ⟨o, _, _, ho, _⟩ := F.ns
        rw [← z, hC] at ho; cases ho
      · cases y : h₀.get? C with
        | none => rfl
        | some o => have := F.keep _ _ y; rw [hC] at this; cases this
    · exact ⟨x _ _ (N q hq).1, (N q hq).2⟩
  refine compCore (xs.zip its) (fun k v => R0 k.1 v ∧ v = k.2) (fun k => p k.1) (fun k v => R0 k.1 v ∧ v = k.2) (fun k m₂ => R0 k.1 k.2 ∧ m₂ x = some k.2) hcell hkind ?_ (News.isList N hm) ?_ H (by rw [List.size_toArray]; omega) ?_ ?_ ?_ ?_
  · rintro I l i k v s' Q E _ hit hq
    exact wpAny_of_eq (a := ()) rfl hq
  · rw [List.toList_toArray]; exact zipPaired hP
  · rintro k v C hh m₁ tk Q E ⟨hR, rfl⟩ hx hC hn hq
    refine wpAny_assign_Name (wpAny_storeName_local (kind x C hxa) hn (fun h₃ hn₃ hs₃ => ?_) (by simp [compEnvC, relabel, hkind]))
    exact hq h₃ _ _ hn₃ ⟨hR, by simp⟩ fun b o hb z => hs₃.extBut b o hb z
  · rintro k C hh m₁ tk Q E ⟨hR, ha⟩ hx hC hn hq
    obtain ⟨oC, heC, hoC⟩ := ns_obj hn
    exact htest k.1 k.2 C oC hh m₁ tk Q E hR hoC ha (FC C hh hx hC) (NC C oC hh hx hC heC) hq
  · rintro k C hh m₁ tk Q E ⟨hR, ha⟩ hx hC hn hq
    obtain ⟨oC, heC, hoC⟩ := ns_obj hn
    exact helt k.1 k.2 C oC hh m₁ tk Q E hR hoC ha (FC C hh hx hC) (NC C oC hh hx hC heC) fun h' tk' hx' => hq k.2 h' tk' ⟨hR, rfl⟩ hx'
  · intro D ys h' tk hx hD hlt hO hP'
    refine hQ D ys h' tk (F.keeps hx) (NC D _ h' hx hD hO) (fun q hq => hlt _ _ (N q hq).1) ?_
    exact unzipPaired p hP hP'
end
end
section
open PySem.Builtin PySem.Builtin.Re
theorem slot_search : Slot "re.Pattern" "search" "re.Pattern.search" :=
  .of (owner := "re.Pattern") (n := "search") (by rw [typeLookup_type, builtinLookup_eq_fast]; kernel_rfl) (by decide +kernel) (by decide +kernel) (by decide +kernel)
    (by first | exact .inl (by decide +kernel) | exact .inr (by decide +kernel)) (by rw [isSubtype_type]; kernel_rfl)
theorem entry_search : entryFor table "re.Pattern.search" = some Builtin.«re.Pattern.search» := entryFor_of_tree (by kernel_rfl)
theorem args_search (a b : Value) : argsOk "re.Pattern.search" ⟨[a, b], []⟩ := by
  unfold argsOk; kernel_rfl
theorem type_search : typeOf (.builtin "re.Pattern.search") = pure (.type "method_descriptor") := by show builtinType _ = _; rw [builtinType_eq_fast]; kernel_rfl
theorem plainAttrs_rep : PlainAttrs "re.Pattern" :=
  ⟨⟨"object.__getattribute__", by rw [typeLookup_type, builtinLookup_eq_fast]; kernel_rfl, by decide +kernel⟩, by rw [typeLookup_type, builtinLookup_eq_fast]; kernel_rfl⟩
theorem meth_search {M : Model} {A : Around} {E : Value → Shared → Prop} {s : Shared} {P : Addr} {vs : Array Value} {pl : Sem Bool} {Q : Value × List Value → Shared → Prop} (hP : s.heap.get? P = some { cls := .type "re.Pattern", dict := none, data := .fields vs, slots := #[] })
    (h : Q (.builtin "re.Pattern.search", [.ref P]) s) : wpAny M A (getMethod (.ref P) "search" pl) Q E s :=
  getMethod_builtin ⟨_, hP, rfl⟩ plainAttrs_rep slot_search type_search (fun a e => by cases e; exact ⟨_, hP, rfl⟩) h
noncomputable def drv : Nat → Sre.M → Sre.M
  | 0, m => m
  | n + 1, m => let m := m.runFor reTurnSteps; if m.outcome.isSome then m else drv n m
section
variable {M : Model} {A : Around} {E : Value → Shared → Prop} {s : Shared}
theorem reDrive_ok : ∀ (n t : Nat) (m : Sre.M) (Q : Sre.M → Shared → Prop), n ≤ t → (drv n m).outcome.isSome = true → m.outcome.isSome = false → Q (drv n m) s → wpAny M A (reDrive t m) Q E s
  | 0, t, m, Q, _, h, hm, _ => by rw [drv] at h; rw [h] at hm; cases hm
  | n + 1, 0, m, Q, hl, _, _, _ => by omega
  | n + 1, t + 1, m, Q, hl, h, hm, hQ => by
    unfold reDrive
    rw [drv] at h hQ
    dsimp only at h hQ ⊢
    by_cases q : (m.runFor reTurnSteps).outcome.isSome = true
    · rw [if_pos q] at h hQ ⊢
      exact wpAny_pure hQ
    · rw [if_neg q] at h hQ ⊢
      exact wpAny_bind (wpAny_rule (reDrive_ok n t _ Q (by omega) h (by simpa using q) hQ))
theorem rules_ok (body : Nat → PUnit → Sem (ForInStep PUnit)) (hb : ∀ i (Q : ForInStep PUnit → Shared → Prop), Q (.yield ⟨⟩) s → wpAny M A (body i ⟨⟩) Q E s) : ∀ (l : List Nat) (Q : PUnit → Shared → Prop), Q ⟨⟩ s → wpAny M A (forIn l PUnit.unit body) Q E s
  | [], Q, h => by rw [List.forIn_nil]; exact wpAny_pure h
  | i :: l, Q, h => by
    rw [List.forIn_cons]
    exact wpAny_bind (hb i _ (rules_ok body hb l Q h))
theorem reRun_none {m : Sre.M} {Q : Option Sre.M → Shared → Prop} (n : Nat) (hn : n ≤ 2 ^ 64) (h : (drv n m).outcome = some .failed) (hm : m.outcome.isSome = false) (hQ : Q none s) : wpAny M A (reRunToEnd m) Q E s := by
  unfold reRunToEnd
  refine wpAny_bind (reDrive_ok n _ m _ hn (by rw [h]; rfl) hm ?_)
  refine wpAny_bind (rules_ok _ (fun i Q hq => ?_) _ _ ?_)
  · refine wpAny_ite ?_
    split
    · exact wpAny_bind (wpAny_rule (wpAny_pure hq))
    · exact wpAny_pure hq
  rw [h]
  exact wpAny_pure hQ
end
noncomputable def code1 : Array Nat := #[14, 10, 4, 1, 1, 22, 0, 31, 16, 127, 0, 13, 7, 22, 0, 31, 16, 127, 0, 1]
noncomputable def code2 : Array Nat := #[14, 14, 4, 1, 1, 9, 4294966783, 0, 0, 2147483648, 0, 0, 0, 0, 0, 13, 11, 9, 4294966783, 0, 0, 2147483648, 0, 0, 0, 0, 0, 1]
noncomputable def lastOf (code : Array Nat) (x : Str) : Sre.M := drv 60 (Sre.forSearch code x.cps 0 0 x.cps.size false)
noncomputable def cleanIn (code : Array Nat) (x : Str) : Bool := (match (lastOf code x).outcome with | some .failed => true | _ => false) && !(Sre.forSearch code x.cps 0 0 x.cps.size false).outcome.isSome
theorem cleanIn_out {code : Array Nat} {x : Str} (h : cleanIn code x = true) : (drv 60 (Sre.forSearch code x.cps 0 0 x.cps.size false)).outcome = some .failed ∧ (Sre.forSearch code x.cps 0 0 x.cps.size false).outcome.isSome = false := by
  unfold cleanIn at h
  rw [Bool.and_eq_true] at h
  refine ⟨?_, by simpa using h.2⟩
  have h1 := h.1
  unfold lastOf at h1
  split at h1
  · assumption
  · cases h1
theorem reNamed_one (id f : String) (v : Value) : reNamed id f ["string", "pos", "endpos"] 1 [v] [] = pure [some v, none, none] := rfl
section
variable {w : World} {A : Around} {E : Value → Shared → Prop} {s : Shared}
theorem search_none {P c : Addr} {vs : Array Value} {items : Array Value} {n : Nat} {cc : Value} {dd : Option Addr} {sl : Array (Option Value)} {code : Array Nat} {x : Str} {t : Tok} {Q : Value → Shared → Prop}
    (hP : s.heap.get? P = some { cls := .type "re.Pattern", dict := none, data := .fields vs, slots := #[] }) (h5 : vs.getD 5 .none = .ref c) (h6 : reRawNat (vs.getD 6 .none) = 0) (h2' : reRawNat (vs.getD 2 .none) = 0) (hc : s.heap.get? c = some { cls := cc, dict := dd, data := .seq items n, slots := sl })
    (hi : (items.map reRawOf).map (·.toNat) = code) (hx : cleanIn code x = true) (hsz : x.cps.size ≤ 1000) (h : Q .none s) :
    wpAny (model pw w) A (call (.builtin "re.Pattern.search") [.ref P, .str x t]) Q E s := by
  obtain ⟨h1, h2⟩ := cleanIn_out hx
  refine wpAny_call_entry slot_search ⟨_, hP, rfl⟩ entry_search ?_ (args_search _ _)
  unfold Builtin.«re.Pattern.search» reTarget
  dsimp only
  refine wpAny_bind ?_
  refine wpAny_bind (wpAny_of_eq (reNamed_one _ _ _) ?_)
  dsimp only
  refine wpAny_bind (wpAny_pure ?_)
  refine wpAny_bind (wpAny_pure ?_)
  refine wpAny_bind (wpAny_fieldsOf hP rfl ?_)
  have ht : reTextOf (.str x t) = pure (x.cps, 0) := rfl
  refine wpAny_bind (wpAny_of_eq ht ?_)
  dsimp only
  rw [h6, if_neg (by simp), if_neg (by simp)]
  have hnc : reNoCollectionInside (.str x t) 0 = pure () := rfl
  refine wpAny_bind (wpAny_of_eq hnc ?_)
  rw [h5, h2']
  unfold reRawItems
  refine wpAny_bind ?_
  refine wpAny_bind (wpAny_seqItems hc rfl ?_)
  refine wpAny_pure ?_
  refine wpAny_pure ?_
  unfold reAnswer
  dsimp only
  rw [Option.getD_some, hi]
  have hlim : Min.min ((2 ^ 63 - 1 : Int)).toNat x.cps.size = x.cps.size := by
    rw [show ((2 ^ 63 - 1 : Int)).toNat = 9223372036854775807 from by decide]
    exact Nat.min_eq_right (by omega)
  have hpos : Min.min (Int.toNat 0) x.cps.size = 0 := by simp
  rw [hlim, hpos]
  refine wpAny_bind (reRun_none 60 (by decide) h1 h2 ?_)
  exact wpAny_pure ⟨_, rfl, h⟩
end
theorem clean_t1 : cleanIn code1 (Str.ofString "Other") = true := by decide +kernel
theorem clean_t2 : cleanIn code2 (Str.ofString "kept") = true := by decide +kernel
end
section
open PySem.Builtin PySem.Builtin.Str
theorem kwXF6_0 : True := by
  w_top off
  k_with_none
  trivial
theorem dummyFill6 : (fun (_ : OpenLaw) (_ : Params → Frag) => True) PySem.Challenge.rw_xn0023_01 heapK := by
  k_fill
  trivial

def FnK (w : World) (hd : Option Value) (f : Addr) (vs : List Value) (kw : List (Str × Value)) (sz : Nat) (news : List (Addr × Obj)) (Post : Value → List (Addr × Obj) → Prop) : Prop :=
  ∀ (p : Program) (loose : List Str) (mean : ExcName → Option Value) (mg mb : Str → Option Value) (dp un : Nat) (gd : Option (List Code)) (env : Env) (outer : List Env) (A₀ : Around) (base h₀ : Heap) (L : Addr) (m : Str → Option Value) (s : Shared)
    (Q E : Value → Shared → Prop),
    Below A₀ base outer h₀ → Fr h₀ L s.heap m → (heapK w.params).In h₀ → News h₀ L s.heap news → Top p loose mean mg mb h₀ → env.frame = some L → env.scope.kind = .function → dp + sz < recursionLimit → un + 8 * sz < cLine →
    (∀ r news' h' tk', Fr h₀ L h' m → News h₀ L h' news' → Post r news' → Q r { s with heap := h', toks := tk' }) →
    wpAny (model pw w) (topA hd dp un gd env outer) (call (.ref f) vs kw) Q E s
theorem kwXF6_1 : True := by
  k_with "getMethod ref" =>
    (
      k_here
      (with_reducible rename Fr _ _ _ _ => kF)
      (with_reducible rename Frag.In _ _ => kX)
      k_dflt (refine' meth_search (kF.keep _ _ (kX _ _ ?ki)) ?_; (case ki => k_is)))
  k_with "call builtin:re.Pattern.search" =>
    (
      k_here
      (with_reducible rename Fr _ _ _ _ => kF)
      (with_reducible rename Frag.In _ _ => kX)
      k_dflt (refine' search_none (kF.keep _ _ (kX _ _ ?ki)) ?k5 ?k6 ?k2 (kF.keep _ _ (kX _ _ ?kj)) ?kh ?kx ?ks ?_; (case ki => k_is); (case k5 => exact rfl); (case k6 => exact rfl); (case k2 => exact rfl); (case kj => k_is); (case ks => assumption); (case kx => assumption); (case kh => kernel_rfl)))
  trivial
theorem conv_fn (w : World) (hd : Option Value) (self : Value) (b : Bool) (x : Str) (tk : Tok) (news : List (Addr × Obj)) (hx : cleanIn (if b then code1 else code2) x = true) (hsz : x.cps.size ≤ 1000) :
    FnK w hd 70 [self, .str x tk] [(Str.ofString "name", .bool b)] 1 news (fun r news' => r = .str x tk ∧ news' = news) := by
  unfold FnK
  intro p loose mean mg mb dp un gd env outer A₀ base h₀ L m s Q E B F X N T hf hk hdp hun ret
  refine wpAny_call ?_
  refine' code_def (binds := [(Str.ofString "self", self), (Str.ofString "value", .str x tk), (Str.ofString "name", .bool b)]) B F X N T rfl hf hk ?k6 ?k7 ?k8 ?k9 ?kB ?_ ?c2 ?c3 ?c4 ?c5
  case k6 => k_is
  case k7 => k_is
  case k8 => k_room
  case k9 => exact BindsTo.of_eq rfl
  case c5 => decide
  case kB => exact locs rfl
  case c2 => exact rfl
  case c3 => exact rfl
  case c4 => exact rfl
  intro g' L' h' FG' F' N' B' X' T'
  (try dsimp only)
  k_fold
  cases b with
  | true =>
    have hx1 : cleanIn code1 x = true := hx
    clear hx
    k_steps
    exact ret _ _ _ _ (by k_asm) (by k_asm) ⟨rfl, rfl⟩
  | false =>
    have hx1 : cleanIn code2 x = true := hx
    clear hx
    k_steps
    exact ret _ _ _ _ (by k_asm) (by k_asm) ⟨rfl, rfl⟩
theorem conv_use {w : World} {hd : Option Value} {self : Value} {b : Bool} {x : Str} {tk : Tok} {news : List (Addr × Obj)} (hx : cleanIn (if b then code1 else code2) x = true) (hsz : x.cps.size ≤ 1000) {p : Program} {loose : List Str} {mean : ExcName → Option Value} {mg mb : Str → Option Value} {dp un : Nat} {gd : Option (List Code)} {env : Env} {outer : List Env} {A₀ : Around} {base h₀ : Heap} {L : Addr} {m : Str → Option Value} {s : Shared}
    {Q E : Value → Shared → Prop}
    (B : Below A₀ base outer h₀) (F : Fr h₀ L s.heap m) (X : (heapK w.params).In h₀) (N : News h₀ L s.heap news) (T : Top p loose mean mg mb h₀) (hf : env.frame = some L) (hk : env.scope.kind = .function) (hdp : dp + 1 < recursionLimit) (hun : un + 8 * 1 < cLine)
    (ret : ∀ h' tk', Fr h₀ L h' m → News h₀ L h' news → Q (.str x tk) { s with heap := h', toks := tk' }) :
    wpAny (model pw w) (topA hd dp un gd env outer) (call (.ref 70) [self, .str x tk] [(Str.ofString "name", .bool b)]) Q E s :=
  conv_fn w hd self b x tk news hx hsz _ _ _ _ _ _ _ _ _ _ _ _ _ _ _ _ _ _ B F X N T hf hk hdp hun fun r news' h' tk' F' N' ⟨e1, e2⟩ => by subst e1 e2; exact ret h' tk' F' N'
structure NmOk (x : Str) : Prop where
  llen : tooLong (Txt.lower x).length = false
  low : cleanIn code1 (Txt.lower x) = true
  lsz : (Txt.lower x).cps.size ≤ 1000
  own : cleanIn code1 x = true
  sz : x.cps.size ≤ 1000
end
section
open PySem.Builtin PySem.Builtin.Str
abbrev instO (C dx : Addr) : Obj := { cls := .ref C, dict := some dx, data := .plain }
abbrev tupS (x y : Value) (e : Nat) : Obj := { cls := .type "tuple", data := .seq #[x, y] e }
def SPairAt (news : List (Addr × Obj)) (p : Str × Str) (x : Value) : Prop := ∃ t e t0 t1, x = .ref t ∧ (t, tupO (.str p.1 t0) (.str p.2 t1) e) ∈ news
def HdAt (news : List (Addr × Obj)) (ha hl : Addr) : Prop := ∃ dx hsh n tk, (ha, instObj 171 dx) ∈ news ∧ (dx, dictOf [⟨hsh, .str (Str.ofString "_headers") tk, .ref hl⟩] n) ∈ news
def RowsAt (news : List (Addr × Obj)) (hl : Addr) (rows : List (Str × Str)) : Prop := ∃ its e, (hl, listOf (List.toArray its) e) ∈ news ∧ Paired (SPairAt news) rows its
theorem eqS_yes {w : World} {A : Around} {E : Value → Shared → Prop} {s : Shared} {x y : Str} {t u : Tok} {Q : Value → Shared → Prop} (e : x = y) (h : Q (.bool true) s) : wpAny (model pw w) A (compareOp .Eq (.str x t) (.str y u)) Q E s := by
  refine PyProof.Rows.eq_str ?_
  rw [beq_iff_eq.mpr e]; exact h
theorem eqS_no {w : World} {A : Around} {E : Value → Shared → Prop} {s : Shared} {x y : Str} {t u : Tok} {Q : Value → Shared → Prop} (e : ¬ x = y) (h : Q (.bool false) s) : wpAny (model pw w) A (compareOp .Eq (.str x t) (.str y u)) Q E s := by
  refine PyProof.Rows.eq_str ?_
  rw [beq_eq_false_iff_ne.mpr e]; exact h
theorem neS_yes {w : World} {A : Around} {E : Value → Shared → Prop} {s : Shared} {x y : Str} {t u : Tok} {Q : Value → Shared → Prop} (h : Q (.bool (!(x == y))) s) : wpAny (model pw w) A (compareOp .NotEq (.str x t) (.str y u)) Q E s := by
  refine PyProof.Rows.ne_str ?_
  exact h
theorem pairedMem {α β : Type} {F : α → β → Prop} {P : α → Prop} {xs : List α} {ys : List β} (h : Paired F xs ys) : (∀ x ∈ xs, P x) → Paired (fun x y => F x y ∧ P x) xs ys := by
  induction h with
  | nil => exact fun _ => .nil
  | cons hF _ ih => exact fun hp => .cons ⟨hF, hp _ List.mem_cons_self⟩ (ih fun x hx => hp x (List.mem_cons_of_mem _ hx))
theorem lItems {M : Model} {A : Around} {E : Value → Shared → Prop} {s : Shared} {a : Addr} {o : Obj} {items : Array Value} {n : Nat} {Q : Array Value → Shared → Prop} (ho : s.heap.get? a = some o) (hd : o.data = .seq items n) (h : Q items s) :
    wpAny M A (Builtin.List.listItems (.ref a)) Q E s := by
  unfold Builtin.List.listItems
  exact wpAny_bind (wpAny_seqItems ho hd (wpAny_pure h))
theorem setAll {w : World} {A : Around} {E : Value → Shared → Prop} {s : Shared} {l sl D : Addr} {items ys : Array Value} {n : Nat} {Q : Unit → Shared → Prop}
    (ho : s.heap.get? l = some (listOf items n)) (hs : s.heap.IsSliceOf sl .none .none .none) (hD : s.heap.IsList D ys) (hne : l ≠ D) (hz : items.size ≤ 1000) (hz2 : ys.size ≤ 1000)
    (h : ∀ h' n', Heap.SameBut l s.heap h' → h'.get? l = some (listOf ys n') → Q () { s with heap := h' }) :
    wpAny (model pw w) A (setItem (.ref l) (.ref sl) (.ref D)) Q E s := by
  have hl : s.heap.IsList l items := ⟨_, ho, rfl, _, rfl⟩
  obtain ⟨os, hos, hcs, hds⟩ := id hs
  obtain ⟨oD, hoD, hcD, nD, hdD⟩ := id hD
  have hTs : s.TypeIs (.ref sl) "slice" := ⟨os, hos, hcs⟩
  unfold setItem
  try with_reducible refine wpAny_holding ?_
  first | refine wpAny_bind (wpAny_pure ?_) | skip
  refine wpAny_bind (wpAny_sequenceKey hl.typeIs (by decide) ?_)
  refine wpAny_bind (wpAny_callSpecial?_slot (name := Str.ofString "__setitem__") hl.typeIs slot_list_setitem
    (wpAny_call_entry slot_list_setitem hl.typeIs entry_list_setitem ?_ (args_list_setitem _ _ _)))
  show wpAny _ _ (Builtin.List.listSubscript? (.ref sl) >>= _) _ _ s
  refine wpAny_bind ?_
  unfold Builtin.List.listSubscript?
  refine wpAny_bind (wpAny_specialOf hTs slice_no_index ?_)
  simp only [Option.isNone_none, if_true]
  refine wpAny_pure ?_
  show wpAny _ _ (typeOf (.ref sl) >>= _) _ _ s
  refine wpAny_bind (wpAny_typeOf hTs ?_)
  rw [if_neg (by decide), listSliceParts_eq]
  refine wpAny_bind (wpAny_bind (wpAny_field hos hds (x := .none) rfl (wpAny_bind (wpAny_listPart .none ?_))))
  rw [if_neg (by decide)]
  refine wpAny_bind (wpAny_field hos hds (x := .none) rfl (wpAny_bind (wpAny_listPart .none ?_)))
  refine wpAny_bind (wpAny_field hos hds (x := .none) rfl (wpAny_bind (wpAny_listPart .none (wpAny_pure ?_))))
  have hsr : Builtin.List.listSameRef (.ref l) (.ref D) = false := by
    show (l == D) = false
    rw [beq_eq_false_iff_ne]; exact hne
  dsimp only
  rw [hsr]
  simp only [Bool.false_eq_true, if_false]
  refine wpAny_bind ?_
  unfold Builtin.List.listAllItems
  refine wpAny_bind (wpAny_typeOf hD.typeIs ?_)
  rw [if_pos (by decide)]
  refine lItems hoD hdD ?_
  refine wpAny_bind (lItems ho rfl ?_)
  refine wpAny_bind (wpAny_of_eq (sliceIndices_raw none none none items.size (by simp)) ?_)
  dsimp only [sliceBounds, Option.getD_none]
  rw [if_pos (by decide)]
  refine wpAny_bind (wpAny_rule ?_)
  rw [if_neg (by show ¬ (decide (items.size + ys.size > sizeLine) = true); intro q; have := of_decide_eq_true q; simp only [sizeLine] at this; omega)]
  have hf : ∀ xs : Array Value, xs = items → xs.extract 0 (Int.toNat 0) ++ ys ++ xs.extract (max 0 (items.size : Int)).toNat xs.size = ys := by
    rintro xs rfl
    rw [show (max 0 (xs.size : Int)).toNat = xs.size from by omega]
    simp
  simp only [gt_iff_lt, Int.zero_lt_one, if_true]
  unfold Builtin.List.listUpdate
  dsimp only
  refine wpAny_bind (wpAny_updateSeq ho rfl ?_ (by simp only [sizeLine]; omega) (by rw [hf items rfl]; simp only [sizeLine]; omega))
  refine wpAny_bind (wpAny_letGo ?_)
  refine wpAny_pure ⟨_, rfl, wpAny_pure ?_⟩
  have e1 := Heap.get?_update_self (Obj.mapSeq fun xs => xs.extract 0 (Int.toNat 0) ++ ys ++ xs.extract (max 0 (items.size : Int)).toNat xs.size) ho rfl
  have e2 : ∃ n', Obj.mapSeq (fun xs => xs.extract 0 (Int.toNat 0) ++ ys ++ xs.extract (max 0 (items.size : Int)).toNat xs.size) (listOf items n) = listOf ys n' := by
    unfold Obj.mapSeq
    dsimp only
    rw [hf items rfl]
    exact ⟨_, rfl⟩
  obtain ⟨n', e2⟩ := e2
  rw [e2] at e1
  exact h _ n' (Heap.SameBut.update ..) e1
theorem stCell {M : Model} {A : Around} {E : Value → Shared → Prop} {s : Shared} {env : Env} {h₀ : Heap} {L c : Addr} {m : Str → Option Value} {rest : List (Addr × Obj)} {oc : Obj} {v0 : Option Value} {v : Value} {name : Str} {Q : Unit → Shared → Prop}
    (F : Fr h₀ L s.heap m) (N : News h₀ L s.heap ((c, oc) :: rest)) (hk : env.scope.kind = .function) (hl : env.kindOf name = some .cell) (hc : env.cells.lookup name = some c) (hd : oc.data = .cell v0) (hap : ∀ p ∈ rest, p.1 ≠ c)
    (h : ∀ h' oc', oc'.data = .cell (some v) → Fr h₀ L h' m → News h₀ L h' ((c, oc') :: rest) → Q () { s with heap := h' }) : wpAny M A (storeName env name v) Q E s := by
  have hc0 := N _ List.mem_cons_self
  refine wpAny_storeName_cell hk hl hc ⟨oc, hc0.1, hd⟩ fun h' ⟨oc', e, hd'⟩ hs => ?_
  refine h h' oc' hd' (F.change hs hc0.2.1 hc0.2.2) fun p hp => ?_
  rcases List.mem_cons.mp hp with rfl | hp
  · exact ⟨e, hc0.2⟩
  · exact ⟨hs.extBut _ _ (hap p hp) (N p (List.mem_cons_of_mem _ hp)).1, (N p (List.mem_cons_of_mem _ hp)).2⟩
end
section
theorem kwXF8_0 : True := by
  w_top off
  k_with_none
  trivial

open PySem.Builtin PySem.Builtin.Str

theorem kwXF8_1 : True := by
  k_with "call builtin:str.lower" =>
    (
      k_here
      k_dflt (refine SC.lower (by assumption) ?_))
  k_with "call ref" =>
    (
      k_here
      (with_reducible show wpAny _ _ (call (Value.ref 70) _ _) _ _ _)
      k_dflt (
      refine' conv_use ?kp ?kq ?k3 ?k4 ?k5 ?k6 ?k7 ?k8 ?k9 ?kd ?ku ?_
      (case k3 => k_asm); (case k4 => k_asm); (case k5 => k_asm); (case k6 => k_asm); (case k7 => k_asm); (case k8 => exact rfl); (case k9 => exact rfl)
      (case kp => assumption); (case kq => assumption)
      (case kd => (simp only [Tm.size, depth_deeper, recursionLimit] at *; (try dsimp only [topA] at *); omega))
      (case ku => (simp only [Tm.size, units_deeper, cLine] at *; (try dsimp only [topA] at *); omega))
      intro _ _ _ _; (try dsimp only); (try k_fold)))
  k_with "eval ListComp" =>
    (
      k_here
      refine' compName ?kclos ?kcell ?kkind ?knames ?kxa ?kf ?kn ?_ ?ks
      (case kf => k_asm); (case kn => k_asm)
      (case kclos => k_dflt (with_unfolding_all rfl)); (case kcell => decide); (case kkind => k_dflt rfl); (case knames => decide); (case kxa => decide); (case ks => intro _; k_dflt rfl))
  trivial
theorem del_fn (w : World) (hd : Option Value) (ha hl : Addr) (rows : List (Str × Str)) (its : List Value) (ex : Nat) (x : Str) (tk : Tok) (imm : List (Addr × Obj)) (hHu : HushIn hd imm) (hH : HdAt imm ha hl) (hR : Paired (SPairAt imm) rows its) (hap : ∀ p ∈ imm, p.1 ≠ hl) (hx : NmOk x) (hrows : ∀ r ∈ rows, tooLong (Txt.lower r.1).length = false) (hln : rows.length ≤ 1000) :
    Fn w hd 89 [.ref ha, .str x tk] 2 ((hl, listOf (List.toArray its) ex) :: imm) (fun r news' => r = .none ∧ ∃ its' e', news' = (hl, listOf (List.toArray its') e') :: imm ∧ Paired (SPairAt imm) (rows.filter fun r => !(Txt.lower r.1 == Txt.lower x)) its') := by
  unfold Fn
  intro p loose mean mg mb dp un gd env outer A₀ base h₀ L m s Q E B F X N T hf hk hdp hun ret
  refine wpAny_call ?_
  refine' code_defC (binds := [(Str.ofString "self", .ref ha), (Str.ofString "name", .str x tk)]) B F X N T rfl hf hk ?k6 ?k7 ?k8 ?k9 ?kB ?kD ?_ ?c2 ?c3 ?c4
  case k6 => k_is
  case k7 => k_is
  case k8 => k_room
  case k9 => exact BindsTo.of_eq rfl
  case kB => rfl
  case kD => decide
  case c2 => exact rfl
  case c3 => exact rfl
  case c4 => exact rfl
  intro g' L' h' tk' cells FG' F' N' C' B' X' T' lt'
  (try dsimp only)
  k_fold
  k_cells C'
  (try simp only [List.cons_append, List.nil_append] at N')
  (try k_fold)
  obtain ⟨dx, hsh, n, tkh, hi, hdd⟩ := hH
  have hl1 := hx.llen
  have hl2 : cleanIn (if true then code1 else code2) (Txt.lower x) = true := hx.low
  have hl3 := hx.lsz
  k_steps
  refine' stCell ?kf ?kn ?kk ?kl ?kc ?kd ?ka ?_
  case kf => k_asm
  case kn => k_asm
  case kk => rfl
  case kl => rfl
  case kc => rfl
  case kd => assumption
  case ka =>
    intro p hp
    have := lt' p hp
    exact Nat.ne_of_lt (Nat.lt_succ_of_lt this)
  intro h9 oc9 hd9 F9 N9
  k_steps
  have hlen := hR.length
  refine ⟨hl, its, ex, rfl, by k_asm, by k_asm, by k_mem, hHu.mono (by intro p hp; simp only [List.mem_cons, hp, or_true]), by simp only [sizeLine]; omega, _, rows, fun r v => SPairAt imm r v ∧ tooLong (Txt.lower r.1).length = false, fun r => !(Txt.lower r.1 == Txt.lower x), pairedMem hR hrows, ?ct, ?ce, ?cf⟩
  case ct =>
    rintro r v C oC hh m₂ tk2 Q E ⟨⟨T, e, t0, t1, rfl, hT⟩, hlr⟩ hoC ha F N hq
    k_steps
    exact hq _ _ fun _ _ e => e
  case ce =>
    rintro r v C oC hh m₂ tk2 Q E ⟨⟨T, e, t0, t1, rfl, hT⟩, hlr⟩ hoC ha F N hq
    k_steps
    exact hq _ _ fun _ _ e => e
  case cf =>
    intro D ys h2 tk2 F N l1 hP
    have hyl : ys.length ≤ 1000 := by
      have z1 := hP.length
      have z2 := List.length_filter_le (fun r : Str × Str => !(Txt.lower r.1 == Txt.lower x)) rows
      omega
    k_steps
    have ht1 : (hl, listOf its.toArray ex) ∈ (D, PyProof.Rows.LCg.lst ys) :: (L' + 1, oc9) :: (hl, listOf its.toArray ex) :: imm := by simp
    have ht2 : (D, PyProof.Rows.LCg.lst ys) ∈ (D, PyProof.Rows.LCg.lst ys) :: (L' + 1, oc9) :: (hl, listOf its.toArray ex) :: imm := by simp
    have hDl : (hl : Nat) < D := l1 (hl, listOf its.toArray ex) (by simp)
    have hLl : (hl : Nat) < L' := lt' (hl, listOf its.toArray ex) (by simp)
    refine setAll (items := its.toArray) (n := ex) (Heap.get?_push_of_some _ (N _ ht1).1) (Heap.IsSliceOf.new ..) ⟨_, Heap.get?_push_of_some _ (N _ ht2).1, rfl, _, rfl⟩ (Nat.ne_of_lt hDl) (by rw [List.size_toArray]; omega) (by rw [List.size_toArray]; omega) fun h3 n3 hsb hl3 => ?_
    dsimp only at hsb
    have F3 := (F.keeps (h' := _) fun _ _ e => Heap.get?_push_of_some _ e).change hsb (N _ ht1).2.1 (N _ ht1).2.2
    have N3 : News g' L' h3 ((hl, listOf ys.toArray n3) :: imm) := fun p hp => by
      rcases List.mem_cons.mp hp with rfl | hp
      · exact ⟨hl3, (N _ ht1).2⟩
      · have hm : p ∈ (D, PyProof.Rows.LCg.lst ys) :: (L' + 1, oc9) :: (hl, listOf its.toArray ex) :: imm := by simp [hp]
        exact ⟨hsb.extBut _ _ (hap p hp) (Heap.get?_push_of_some _ (N p hm).1), (N p hm).2⟩
    clear N N9 N' F
    k_steps
    exact ret _ _ _ _ (by k_asm) (by k_asm) ⟨rfl, ys, n3, rfl, hP.mono fun _ _ z => z.1⟩
end
section
theorem kwXF9_0 : True := by
  w_top off
  k_with_none
  trivial

open PySem.Builtin PySem.Builtin.Str

theorem kwXF9_1 : True := by
  k_with "call builtin:str.lower" =>
    (
      k_here
      k_dflt (refine SC.lower (by assumption) ?_))
  k_with "call ref" =>
    (
      k_here
      (with_reducible show wpAny _ _ (call (Value.ref 70) _ _) _ _ _)
      k_dflt (
      refine' conv_use ?kp ?kq ?k3 ?k4 ?k5 ?k6 ?k7 ?k8 ?k9 ?kd ?ku ?_
      (case k3 => k_asm); (case k4 => k_asm); (case k5 => k_asm); (case k6 => k_asm); (case k7 => k_asm); (case k8 => exact rfl); (case k9 => exact rfl)
      (case kp => assumption); (case kq => assumption)
      (case kd => (simp only [Tm.size, depth_deeper, recursionLimit] at *; (try dsimp only [topA] at *); omega))
      (case ku => (simp only [Tm.size, units_deeper, cLine] at *; (try dsimp only [topA] at *); omega))
      intro _ _ _ _; (try dsimp only); (try k_fold)))
  trivial
theorem delI {M : Model} {A : Around} {E : Value → Shared → Prop} {s : Shared} {K : Frag} {x C L f : Addr} {h₀ : Heap} {m : Str → Option Value} {ox : Obj} {od : Option Obj} {i : Value} {Q : Unit → Shared → Prop} (F : Fr h₀ L s.heap m) (X₀ : K.In h₀) (I : PySem.W.InstAt s.heap x ox C od) (hq : noSeq K C = true) (hs : findIn K (.ref C) "__delitem__" = some (some (.ref f))) (hf : isFn K (.ref f) = true)
    (h : wpAny M A (call (.ref f) [.ref x, i]) (fun _ s' => Q () s') E s) : wpAny M A (delItem (.ref x) i) Q E s := by
  have X := X₀.keeps F.keep
  unfold delItem sequenceKey
  refine wpAny_holding (wpAny_bind (wpAny_bind (I.type.here ?_)))
  refine wpAny_bind ((anyM_none X hq).here ?_)
  rw [if_pos (show (!false) = true from rfl)]
  exact wpAny_pure (wpAny_bind (special_fn X I hs (beq_iff_eq.mp hf) (wpAny_mono h (fun _ _ z => wpAny_pure z) fun _ _ z => z)))
theorem kwXF9_2 : True := by
  k_with "delItem ref str" =>
    (
      k_here
      k_dflt (refine' delI ?F ?X ?I ?q ?s ?f ?_; (case F => k_asm); (case X => k_asm); (case I => k_inst); (case q => k_is); (case s => k_is); (case f => k_is)))
  trivial
theorem appL {w : World} {A : Around} {E : Value → Shared → Prop} {s : Shared} {h₀ : Heap} {L l : Addr} {m : Str → Option Value} {led : List (Addr × Obj)} {its : List Value} {e : Nat} {x : Value} {Q : Value → Shared → Prop}
    (F : Fr h₀ L s.heap m) (N : News h₀ L s.heap led) (hm : (l, listOf (List.toArray its) e) ∈ led) (hsz : its.length ≤ sizeLine)
    (h : ∀ h', Fr h₀ L h' m → (∀ led', (∀ p ∈ led', p ∈ led ∧ p.1 ≠ l) → News h₀ L h' ((l, listOf (List.toArray (its ++ [x])) (e + 1)) :: led')) → Q .none { s with heap := h' }) :
    wpAny (model pw w) A (call (.builtin "list.append") [.ref l, x]) Q E s := by
  have hl := N _ hm
  refine append_at (hsz := by rw [List.size_toArray]; exact hsz) hl.1 fun h' hs hl' => ?_
  refine h h' (F.change hs hl.2.1 hl.2.2) fun led' hled p hp => ?_
  rcases List.mem_cons.mp hp with rfl | hp
  · refine ⟨hl'.trans ?_, hl.2⟩
    simp
  · obtain ⟨h1, h2⟩ := hled p hp
    exact ⟨hs.extBut _ _ h2 (N p h1).1, (N p h1).2⟩
theorem del_use {w : World} {hd : Option Value} {ha hl : Addr} {rows : List (Str × Str)} {its : List Value} {ex : Nat} {x : Str} {tk : Tok} {imm : List (Addr × Obj)} (hHu : HushIn hd imm) (hH : HdAt imm ha hl) (hR : Paired (SPairAt imm) rows its) (hap : ∀ p ∈ imm, p.1 ≠ hl) (hx : NmOk x) (hrows : ∀ r ∈ rows, tooLong (Txt.lower r.1).length = false) (hln : rows.length ≤ 1000)
    {p : Program} {loose : List Str} {mean : ExcName → Option Value} {mg mb : Str → Option Value} {dp un : Nat} {gd : Option (List Code)} {env : Env} {outer : List Env} {A₀ : Around} {base h₀ : Heap} {L : Addr} {m : Str → Option Value} {s : Shared} {Q E : Value → Shared → Prop}
    (B : Below A₀ base outer h₀) (F : Fr h₀ L s.heap m) (X : (heapK w.params).In h₀) (N : News h₀ L s.heap ((hl, listOf (List.toArray its) ex) :: imm)) (T : Top p loose mean mg mb h₀) (hf : env.frame = some L) (hk : env.scope.kind = .function) (hdp : dp + 2 < recursionLimit) (hun : un + 8 * 2 < cLine)
    (ret : ∀ its' e' h' tk', Fr h₀ L h' m → News h₀ L h' ((hl, listOf (List.toArray its') e') :: imm) → Paired (SPairAt imm) (rows.filter fun r => !(Txt.lower r.1 == Txt.lower x)) its' → Q .none { s with heap := h', toks := tk' }) :
    wpAny (model pw w) (topA hd dp un gd env outer) (call (.ref 89) [.ref ha, .str x tk]) Q E s :=
  Fn.use (del_fn w hd ha hl rows its ex x tk imm hHu hH hR hap hx hrows hln) B F X N T hf hk hdp hun fun r news' h' tk' F' N' ⟨e1, its', e', e2, hP⟩ => by subst e1 e2; exact ret its' e' h' tk' F' N' hP
theorem kwXF9_3 : True := by
  k_with "call ref" =>
    (
      k_here
      (with_reducible show wpAny _ _ (call (Value.ref 89) _ _) _ _ _)
      k_dflt (
      refine' del_use ?ka ?kb ?kc ?ke ?kg ?kh ?ki ?k3 ?k4 ?k5 ?k6 ?k7 ?k8 ?k9 ?kd ?ku ?_
      (case k3 => k_asm); (case k4 => k_asm); (case k5 => k_asm); (case k6 => k_asm); (case k7 => k_asm); (case k8 => exact rfl); (case k9 => exact rfl)
      (case ka => assumption); (case kb => assumption); (case kc => assumption); (case ke => assumption); (case kg => assumption); (case kh => assumption)
      (case ki => omega)
      (case kd => (simp only [Tm.size, depth_deeper, recursionLimit] at *; (try dsimp only [topA] at *); omega))
      (case ku => (simp only [Tm.size, units_deeper, cLine] at *; (try dsimp only [topA] at *); omega))
      intro _ _ _ _ _ _ _; (try dsimp only); (try k_fold)))
  trivial
theorem set_fn (w : World) (hd : Option Value) (ha hl : Addr) (rows : List (Str × Str)) (its : List Value) (ex : Nat) (x v : Str) (tk tv : Tok) (imm : List (Addr × Obj)) (hHu : HushIn hd imm) (hH : HdAt imm ha hl) (hR : Paired (SPairAt imm) rows its) (hap : ∀ p ∈ imm, p.1 ≠ hl) (hx : NmOk x) (hv : cleanIn code2 v = true) (hvz : v.cps.size ≤ 1000) (hrows : ∀ r ∈ rows, tooLong (Txt.lower r.1).length = false) (hln : rows.length ≤ 900) :
    Fn w hd 84 [.ref ha, .str x tk, .str v tv] 3 ((hl, listOf (List.toArray its) ex) :: imm) (fun r news' => r = .none ∧ ∃ its' e' T, news' = (hl, listOf (List.toArray its') e') :: (T, tupO (.str x tk) (.str v tv) 0) :: imm ∧ T ≠ hl ∧ Paired (SPairAt ((T, tupO (.str x tk) (.str v tv) 0) :: imm)) (rows.filter (fun r => !(Txt.lower r.1 == Txt.lower x)) ++ [(x, v)]) its') := by
  unfold Fn
  intro p loose mean mg mb dp un gd env outer A₀ base h₀ L m s Q E B F X N T hf hk hdp hun ret
  refine wpAny_call ?_
  refine' code_def (binds := [(Str.ofString "self", .ref ha), (Str.ofString "name", .str x tk), (Str.ofString "val", .str v tv)]) B F X N T rfl hf hk ?k6 ?k7 ?k8 ?k9 ?kB ?_ ?c2 ?c3 ?c4 ?c5
  case k6 => k_is
  case k7 => k_is
  case k8 => k_room
  case k9 => exact BindsTo.of_eq rfl
  case c5 => decide
  case kB => exact locs rfl
  case c2 => exact rfl
  case c3 => exact rfl
  case c4 => exact rfl
  intro g' L' h' FG' F' N' B' X' T'
  (try dsimp only)
  k_fold
  obtain ⟨dx, hsh, n, tkh, hi, hdd⟩ := id hH
  have hl2 : cleanIn (if true then code1 else code2) x = true := hx.own
  have hl3 := hx.sz
  have hl4 : cleanIn (if false then code1 else code2) v = true := hv
  k_steps
  rename Paired _ (List.filter _ _) _ => hP9
  rename _ ∧ AllLt _ imm => l9
  have hlen9 := hP9.length
  have hlen8 := List.length_filter_le (fun r : Str × Str => !(Txt.lower r.1 == Txt.lower x)) rows
  refine' appL ?F ?N ?hm ?hz ?_
  case F => k_asm
  case N => k_asm
  case hm => k_mem
  case hz => simp only [sizeLine]; omega
  intro h9 F9 NN9
  have N9 := NN9 (_ :: imm) (fun p hp => by
    rcases List.mem_cons.mp hp with rfl | hp
    · exact ⟨List.mem_cons_self, Ne.symm (Nat.ne_of_lt l9.1)⟩
    · exact ⟨by simp only [List.mem_cons, hp, or_true], hap p hp⟩)
  clear NN9
  k_steps
  exact ret _ _ _ _ (by k_asm) (by k_asm) ⟨rfl, _, _, _, rfl, Ne.symm (Nat.ne_of_lt l9.1), (hP9.mono fun _ _ ⟨t, e, t0, t1, z1, z2⟩ => ⟨t, e, t0, t1, z1, List.mem_cons_of_mem _ z2⟩).snoc ⟨_, 0, _, _, rfl, List.mem_cons_self⟩⟩
end
section
theorem kwXF4_0 : True := by
  w_top off
  k_with_none
  trivial

def nameStr (p : Nat) : Str := match p with
  | 0 => Str.ofString "k" | 1 => Str.ofString "K" | 2 => Str.ofString "q\"" | 3 => Str.ofString "Q\"" | 4 => Str.ofString "m" | _ => Str.ofString "M"
def saidStr (p : Nat) : Str := match p with
  | 0 => Str.ofString "257 \"k\" is the name" | 1 => Str.ofString "257 \"K\" is the name" | 2 => Str.ofString "257 \"q\"\"\" is the name" | 3 => Str.ofString "257 \"Q\"\"\" is the name" | 4 => Str.ofString "257 \"m\" is the name" | _ => Str.ofString "257 \"M\" is the name"
def quoted (p : Nat) : Str := match p with
  | 0 => Str.ofString "k" | 1 => Str.ofString "K" | 2 => Str.ofString "q\"\"" | 3 => Str.ofString "Q\"\"" | 4 => Str.ofString "m" | _ => Str.ofString "M"
theorem name_fn (w : World) (p : Nat) (hp : p < 6) (tk : Tok) (news : List (Addr × Obj)) : Fn w none 317 [.int (p : Int) tk] 1 news (SameStr news (nameStr p)) := by
  unfold Fn
  intro pr loose mean mg mb dp un gd env outer A₀ base h₀ L m s Q E B F X N T hf hk hdp hun ret
  refine wpAny_call ?_
  refine' code_def (binds := [(Str.ofString "place", .int (p : Int) tk)]) B F X N T rfl hf hk ?k6 ?k7 ?k8 ?k9 ?kB ?_ ?c2 ?c3 ?c4 ?c5
  case k6 => k_is
  case k7 => k_is
  case k8 => k_room
  case k9 => exact BindsTo.of_eq rfl
  case c5 => decide
  case kB => exact locs rfl
  case c2 => exact rfl
  case c3 => exact rfl
  case c4 => exact rfl
  intro g' L' h' FG' F' N' B' X' T'
  (try dsimp only)
  k_fold
  rcases p with _ | _ | _ | _ | _ | _ | p
  · k_steps
    exact ret _ _ _ _ (by k_asm) (News.sub1 (by k_asm) (by intro p hp; simp only [List.mem_cons, hp, or_true])) ⟨rfl, _, rfl⟩
  · k_steps
    exact ret _ _ _ _ (by k_asm) (News.sub1 (by k_asm) (by intro p hp; simp only [List.mem_cons, hp, or_true])) ⟨rfl, _, rfl⟩
  · k_steps
    exact ret _ _ _ _ (by k_asm) (News.sub1 (by k_asm) (by intro p hp; simp only [List.mem_cons, hp, or_true])) ⟨rfl, _, rfl⟩
  · k_steps
    exact ret _ _ _ _ (by k_asm) (News.sub1 (by k_asm) (by intro p hp; simp only [List.mem_cons, hp, or_true])) ⟨rfl, _, rfl⟩
  · k_steps
    exact ret _ _ _ _ (by k_asm) (News.sub1 (by k_asm) (by intro p hp; simp only [List.mem_cons, hp, or_true])) ⟨rfl, _, rfl⟩
  · k_steps
    exact ret _ _ _ _ (by k_asm) (News.sub1 (by k_asm) (by intro p hp; simp only [List.mem_cons, hp, or_true])) ⟨rfl, _, rfl⟩
  · omega
theorem name_use {w : World} {k : Nat} {tk : Tok} (hp : k < 6)  {news : List (Addr × Obj)} {p : Program} {loose : List Str} {mean : ExcName → Option Value} {mg mb : Str → Option Value} {dp un : Nat} {gd : Option (List Code)} {env : Env} {outer : List Env} {A₀ : Around} {base h₀ : Heap} {L : Addr} {m : Str → Option Value} {s : Shared}
    {Q E : Value → Shared → Prop}
    (B : Below A₀ base outer h₀) (F : Fr h₀ L s.heap m) (X : (heapK w.params).In h₀) (N : News h₀ L s.heap news) (T : Top p loose mean mg mb h₀) (hf : env.frame = some L) (hk : env.scope.kind = .function) (hdp : dp + 1 < recursionLimit) (hun : un + 8 * 1 < cLine)
    (htk : 1 ≤ s.toks) (ret : ∀ tk h' tk', 1 ≤ tk' → Fr h₀ L h' m → News h₀ L h' news → Q (.str (nameStr k) tk) { s with heap := h', toks := tk' }) :
    wpAny (model pw w) (topA none dp un gd env outer) (call (.ref 317) [.int (k : Int) tk]) Q E s :=
  wpAny_with_toks htk (Fn.str (name_fn w k hp tk news) B F X N T hf hk hdp hun fun tk h' tk' F' N' ht => ret tk h' tk' ht F' N')
theorem kwXF4_1 : True := by
  k_with "call ref" =>
    (
      k_here
      (with_reducible show wpAny _ _ (call (Value.ref 317) _) _ _ _)
      k_dflt (
      refine' name_use ?kp ?k3 ?k4 ?k5 ?k6 ?k7 ?k8 ?k9 ?kd ?ku ?kt ?_
      (case k3 => k_asm); (case k4 => k_asm); (case k5 => k_asm); (case k6 => k_asm); (case k7 => k_asm); (case k8 => exact rfl); (case k9 => exact rfl)
      (case kp => omega)
      (case kd => (simp only [Tm.size, depth_deeper, recursionLimit] at *; (try dsimp only [topA] at *); omega))
      (case ku => (simp only [Tm.size, units_deeper, cLine] at *; (try dsimp only [topA] at *); omega))
      (case kt => (dsimp only; omega))
      intro _ _ _ _ _ _; (try dsimp only); (try k_fold)))
  trivial
theorem said_fn (w : World) (p : Nat) (hp : p < 6) (tk : Tok) (news : List (Addr × Obj)) : Fn w none 331 [.int (p : Int) tk] 2 news (SameStr news (saidStr p)) := by
  unfold Fn
  intro pr loose mean mg mb dp un gd env outer A₀ base h₀ L m s Q E B F X N T hf hk hdp hun ret
  refine wpAny_call ?_
  refine' code_def (binds := [(Str.ofString "place", .int (p : Int) tk)]) B F X N T rfl hf hk ?k6 ?k7 ?k8 ?k9 ?kB ?_ ?c2 ?c3 ?c4 ?c5
  case k6 => k_is
  case k7 => k_is
  case k8 => k_room
  case k9 => exact BindsTo.of_eq rfl
  case c5 => decide
  case kB => exact locs rfl
  case c2 => exact rfl
  case c3 => exact rfl
  case c4 => exact rfl
  intro g' L' h' FG' F' N' B' X' T'
  (try dsimp only)
  k_fold
  k_steps
  rename_i tk1 tk2 h2 tk3 ht9 _ _ _
  have hx : (nameStr p).length ≤ 1048576 := by
    rcases p with _ | _ | _ | _ | _ | _ | p <;> first | decide | omega
  refine SC.replaceW (by show @Ne Nat _ _; omega) (by show @Ne Nat _ _; omega) (by show @Ne Nat _ _; omega) (by decide) hx (by decide) ?_
  intro t8 k8
  have hrep : Txt.replace (nameStr p) (Str.ofString "\"") (Str.ofString "\"\"") = quoted p := by
    rcases p with _ | _ | _ | _ | _ | _ | p <;> first | decide +kernel | omega
  rw [hrep]
  have hq : (quoted p).length ≤ 10 := by
    rcases p with _ | _ | _ | _ | _ | _ | p <;> first | decide | omega
  have hsaid : Str.ofString "257 \"" ++ quoted p ++ Str.ofString "\" is the name" = saidStr p := by
    rcases p with _ | _ | _ | _ | _ | _ | p <;> first | decide +kernel | omega
  k_steps
  rw [hsaid]
  exact ret _ _ _ _ (by k_asm) (News.sub1 (by k_asm) (by intro p hp; simp only [List.mem_cons, hp, or_true])) ⟨rfl, _, rfl⟩
theorem said_useI {w : World} {z : Int} {tk : Tok} (h0 : 0 ≤ z) (h6 : z < 6) {news : List (Addr × Obj)} {p : Program} {loose : List Str} {mean : ExcName → Option Value} {mg mb : Str → Option Value} {dp un : Nat} {gd : Option (List Code)} {env : Env} {outer : List Env} {A₀ : Around} {base h₀ : Heap} {L : Addr} {m : Str → Option Value} {s : Shared}
    {Q E : Value → Shared → Prop}
    (B : Below A₀ base outer h₀) (F : Fr h₀ L s.heap m) (X : (heapK w.params).In h₀) (N : News h₀ L s.heap news) (T : Top p loose mean mg mb h₀) (hf : env.frame = some L) (hk : env.scope.kind = .function) (hdp : dp + 2 < recursionLimit) (hun : un + 8 * 2 < cLine)
    (ret : ∀ tk h' tk', Fr h₀ L h' m → News h₀ L h' news → Q (.str (saidStr z.toNat) tk) { s with heap := h', toks := tk' }) :
    wpAny (model pw w) (topA none dp un gd env outer) (call (.ref 331) [.int z tk]) Q E s := by
  obtain ⟨k, rfl⟩ := Int.eq_ofNat_of_zero_le h0
  exact Fn.str (said_fn w k (by omega) tk news) B F X N T hf hk hdp hun ret
end
section
theorem kwXF5_0 : True := by
  w_top off
  k_with_none
  trivial

def showI (n : Int) : Str := Str.ofString (toString n)
def Tm.lines : Tm → List Str
  | .num n => [Str.ofString "229 it is (|||" ++ showI n ++ Str.ofString "|)"]
  | .nam p => [saidStr p.toNat, Str.ofString "200 get"]
  | .less a b => a.lines ++ b.lines ++ [Str.ofString "200 less"]
  | .lett a b p => a.lines ++ [saidStr p.toNat, Str.ofString "200 set"] ++ b.lines ++ [Str.ofString "200 end"]
def Tm.ok : Tm → Prop
  | .num n => 0 ≤ n ∧ n < 97
  | .nam p => 0 ≤ p ∧ p < 6
  | .less a b => a.ok ∧ b.ok
  | .lett a b p => a.ok ∧ b.ok ∧ 0 ≤ p ∧ p < 6

theorem Tm.lines_le : ∀ t : Tm, t.lines.length ≤ 3 * t.size
  | .num _ => by simp [Tm.lines, Tm.size]
  | .nam _ => by simp [Tm.lines, Tm.size]
  | .less a b => by have := a.lines_le; have := b.lines_le; simp only [Tm.lines, Tm.size, List.length_append, List.length_cons, List.length_nil]; omega
  | .lett a b p => by have := a.lines_le; have := b.lines_le; simp only [Tm.lines, Tm.size, List.length_append, List.length_cons, List.length_nil]; omega
def LinesC (w : World) (k : Nat) : Prop := ∀ (t : Tm) (v : Value) (news : List (Addr × Obj)), t.size < k → t.ok → TIn news v t → t.size ≤ 1000 → Fn w none 338 [v] (t.size + 2) news (NewStrs news t.lines)
theorem LinesC.use {w : World} {k : Nat} {t : Tm} {v : Value} {news : List (Addr × Obj)} {p : Program} {loose : List Str} {mean : ExcName → Option Value} {mg mb : Str → Option Value} {dp un : Nat} {gd : Option (List Code)} {env : Env} {outer : List Env} {A₀ : Around} {base h₀ : Heap} {L : Addr} {m : Str → Option Value} {s : Shared} {Q E : Value → Shared → Prop} (C : LinesC w k) (ht : TIn news v t) (ho : t.ok) (hs : t.size < k) (hz : t.size ≤ 1000) (B : Below A₀ base outer h₀) (F : Fr h₀ L s.heap m) (X : (heapK w.params).In h₀) (N : News h₀ L s.heap news) (T : Top p loose mean mg mb h₀) (hf : env.frame = some L) (hk : env.scope.kind = .function) (hdp : dp + (t.size + 2) < recursionLimit) (hun : un + 8 * (t.size + 2) < cLine)
    (ret : ∀ a ws h' tk', Fr h₀ L h' m → News h₀ L h' ((a, listOf (List.toArray ws) 0) :: news) → (∀ p ∈ news, p.1 < a) → StrsAre ws t.lines → ws.length ≤ 3 * t.size → Q (.ref a) { s with heap := h', toks := tk' }) :
    wpAny (model pw w) (topA none dp un gd env outer) (call (.ref 338) [v]) Q E s :=
  Fn.strs' (C t v news hs ho ht hz) B F X N T hf hk hdp hun fun a ws h' tk' F' N' l i => ret a ws h' tk' F' N' l i (by rw [i.length]; exact t.lines_le)
theorem kwXF5_1 : True := by
  k_with "rel" =>
    first | assumption | exact TIn.mono (by assumption) (by intro p hp; simp only [List.mem_cons, hp, or_true])
  k_with "call ref" =>
    (
      k_here
      (with_reducible show wpAny _ _ (call (Value.ref 338) _) _ _ _)
      k_dflt (
      refine' LinesC.use ?ki ?kr ?ko ?kl ?kz ?k3 ?k4 ?k5 ?k6 ?k7 ?k8 ?k9 ?kd ?ku ?_
      (case ki => assumption); (case k3 => k_asm); (case k4 => k_asm); (case k5 => k_asm); (case k6 => k_asm); (case k7 => k_asm); (case k8 => exact rfl); (case k9 => exact rfl); (case kr => ktr_rel); (case ko => assumption)
      (case kl => simp only [Tm.size] at *; omega)
      (case kz => simp only [Tm.size] at *; omega)
      (case kd => (simp only [Tm.size, depth_deeper, recursionLimit] at *; (try dsimp only [topA] at *); omega))
      (case ku => (simp only [Tm.size, units_deeper, cLine] at *; (try dsimp only [topA] at *); omega))
      intro _ _ _ _ _ _ _ _ _; (try dsimp only); (try k_fold)))
  k_with "call ref" =>
    (
      k_here
      (with_reducible show wpAny _ _ (call (Value.ref 331) _) _ _ _)
      k_dflt (
      refine' said_useI ?kp ?kq ?k3 ?k4 ?k5 ?k6 ?k7 ?k8 ?k9 ?kd ?ku ?_
      (case k3 => k_asm); (case k4 => k_asm); (case k5 => k_asm); (case k6 => k_asm); (case k7 => k_asm); (case k8 => exact rfl); (case k9 => exact rfl)
      (case kp => assumption); (case kq => assumption)
      (case kd => (simp only [Tm.size, depth_deeper, recursionLimit] at *; (try dsimp only [topA] at *); omega))
      (case ku => (simp only [Tm.size, units_deeper, cLine] at *; (try dsimp only [topA] at *); omega))
      intro _ _ _ _ _; (try dsimp only); (try k_fold)))
  k_with "binaryOp Add ref ref" =>
    (
      k_here
      k_dflt (
      refine' addL ?k1 ?k2 ?k3 ?k4 ?k5 ?_
      (case k1 => k_asm); (case k2 => k_asm); (case k3 => is_list); (case k4 => is_list)
      (case k5 => (simp only [List.length_append, List.length_cons, List.length_nil, Tm.size, sizeLine, recursionLimit] at *; omega))
      intro _ _ _ _ _; (try dsimp only); (try k_fold)))
  trivial
theorem lines_step (w : World) (k : Nat) (ih : LinesC w k) : LinesC w (k + 1) := by
  intro t v news hsz hok ht hzz
  unfold Fn
  intro p loose mean mg mb dp un gd env outer A₀ base h₀ L m s Q E B F X N T hf hk hdp hun ret
  refine wpAny_call ?_
  refine' code_def (binds := [(Str.ofString "term", v)]) B F X N T rfl hf hk ?k6 ?k7 ?k8 ?k9 ?kB ?_ ?c2 ?c3 ?c4 ?c5
  case k6 => k_is
  case k7 => k_is
  case k8 => k_room
  case k9 => exact BindsTo.of_eq rfl
  case c5 => decide
  case kB => exact locs rfl
  case c2 => exact rfl
  case c3 => exact rfl
  case c4 => exact rfl
  intro g' L' h' FG' F' N' B' X' T'
  (try dsimp only)
  k_fold
  cases ht with
  | @num a n t0 t1 e hm =>
    obtain ⟨hn0, hn1⟩ := hok
    k_steps
    rename_i l1 kF kN
    exact ret _ _ _ _ (by k_asm) (News.sub2 (by k_asm) (by intro p hp; simp only [List.mem_cons, hp, or_true])) ⟨_, [_], rfl, rfl, (by first | assumption | exact ktn_ltOf (by assumption)), .cons _ _ .nil⟩
  | @nam a z t0 t1 e hm =>
    obtain ⟨hn0, hn1⟩ := hok
    k_steps
    exact ret _ _ _ _ (by k_asm) (News.sub2 (by k_asm) (by intro p hp; simp only [List.mem_cons, hp, or_true])) ⟨_, [_, _], rfl, rfl, (by first | assumption | exact ktn_ltOf (by assumption)), .cons _ _ (.cons _ _ .nil)⟩
  | @less a t0 u v x y e hm h1 h2 =>
    obtain ⟨ho1, ho2⟩ := hok
    k_steps
    rename_i l1 kF kN Tc kX
    exact ret _ _ _ _ (by k_asm) (News.sub2 (by k_asm) (by intro p hp; simp only [List.mem_cons, hp, or_true])) ⟨_, _, rfl, rfl, (fun p hp => l1 p (by simp only [List.mem_cons, hp, or_true])), StrsAre.append' (StrsAre.append' (by assumption) (by assumption)) (.cons _ _ .nil)⟩
  | @lett a t0 t1 u v x y z e hm h1 h2 =>
    obtain ⟨ho1, ho2, hn0, hn1⟩ := hok
    k_steps
    rename_i l1 kF kN Tc kX
    exact ret _ _ _ _ (by k_asm) (News.sub2 (by k_asm) (by intro p hp; simp only [List.mem_cons, hp, or_true])) ⟨_, _, rfl, rfl, (fun p hp => l1 p (by simp only [List.mem_cons, hp, or_true])), StrsAre.append' (StrsAre.append' (StrsAre.append' (by assumption) (.cons _ _ (.cons _ _ .nil))) (by assumption)) (.cons _ _ .nil)⟩
theorem lines_all (w : World) : ∀ k, LinesC w k
  | 0 => fun _ _ _ h => absurd h (Nat.not_lt_zero _)
  | k + 1 => lines_step w k (lines_all w k)
end
section
open PySem.Builtin PySem.Builtin.Str
theorem kwXF7_0 : True := by
  w_top off
  k_with_none
  trivial

theorem kwXF7_1 : True := by
  k_with "exec For" =>
    (
      k_here
      k_dflt (refine' forPair ?kl ?kf ?ka ?kb ?kp ?_ ?ks
              (case kl => exact rfl); (case kf => k_asm); (case ka => rfl); (case kb => rfl); (case kp => rfl); (case ks => intro _; rfl)))
  k_with "call builtin:str.lower" =>
    (
      k_here
      k_dflt (refine SC.lower (by assumption) ?_))
  k_with "call ref" =>
    (
      k_here
      (with_reducible show wpAny _ _ (call (Value.ref 70) _ _) _ _ _)
      k_dflt (
      refine' conv_use ?kp ?kq ?k3 ?k4 ?k5 ?k6 ?k7 ?k8 ?k9 ?kd ?ku ?_
      (case k3 => k_asm); (case k4 => k_asm); (case k5 => k_asm); (case k6 => k_asm); (case k7 => k_asm); (case k8 => exact rfl); (case k9 => exact rfl)
      (case kp => assumption); (case kq => assumption)
      (case kd => (simp only [Tm.size, depth_deeper, recursionLimit] at *; (try dsimp only [topA] at *); omega))
      (case ku => (simp only [Tm.size, units_deeper, cLine] at *; (try dsimp only [topA] at *); omega))
      intro _ _ _ _; (try dsimp only); (try k_fold)))
  trivial
def tget (rows : List (Str × Str)) (nm d : Str) : Str := match rows with
  | [] => d
  | r :: rest => if Txt.lower r.1 = nm then r.2 else tget rest nm d
def UpTo2 (a b : Str) (m₀ m : Str → Option Value) : Prop := m = m₀ ∨ ∃ y1 y2, m = fun z => if z = b then some y2 else if z = a then some y1 else m₀ z
theorem UpTo2.next {a b : Str} {m₀ m : Str → Option Value} (h : UpTo2 a b m₀ m) {y1 y2 : Value} : (fun z => if z = b then some y2 else if z = a then some y1 else m z) = fun z => if z = b then some y2 else if z = a then some y1 else m₀ z := by
  rcases h with rfl | ⟨x1, x2, rfl⟩
  · rfl
  · funext z
    by_cases h1 : z = b
    · simp [h1]
    · by_cases h2 : z = a
      · simp [h2]
      · simp [h1, h2]
theorem same_pair {h₀ h : Heap} {L : Addr} {news : List (Addr × Obj)} {v x1 x2 y1 y2 : Value} {T T' : Addr} {e e' : Nat} {q : Addr × Obj} (N : News h₀ L h (q :: news)) (h1 : v = .ref T) (h2 : (T, tupO x1 x2 e) ∈ news) (h1' : v = .ref T') (h2' : (T', tupO y1 y2 e') ∈ news) : y1 = x1 ∧ y2 = x2 := by
  subst h1
  cases h1'
  have z := (N _ (List.mem_cons_of_mem _ h2)).1.symm.trans (N _ (List.mem_cons_of_mem _ h2')).1
  simp only [Option.some.injEq, tupO, Obj.mk.injEq, Data.seq.injEq] at z
  have z' := z.2.2.1.1
  simp only [Array.mk.injEq, List.cons.injEq, and_true] at z'
  exact ⟨z'.1.symm, z'.2.symm⟩
theorem kwXF7_2 : True := by
  k_with "compareOp Eq str str" =>
    (k_here; first | refine eqS_yes (by assumption) ?_ | refine eqS_no (by assumption) ?_)
  trivial
theorem get_fn (w : World) (hd : Option Value) (ha hl : Addr) (rows : List (Str × Str)) (x d : Str) (tk td : Tok) (news : List (Addr × Obj)) (hHu : HushIn hd news) (hH : HdAt news ha hl) (hR : RowsAt news hl rows) (hx : NmOk x) (hrows : ∀ r ∈ rows, tooLong (Txt.lower r.1).length = false) :
    Fn w hd 118 [.ref ha, .str x tk, .str d td] 2 news (SameStr news (tget rows (Txt.lower x) d)) := by
  unfold Fn
  intro p loose mean mg mb dp un gd env outer A₀ base h₀ L m s Q E B F X N T hf hk hdp hun ret
  refine wpAny_call ?_
  refine' code_def (binds := [(Str.ofString "self", .ref ha), (Str.ofString "name", .str x tk), (Str.ofString "default", .str d td)]) B F X N T rfl hf hk ?k6 ?k7 ?k8 ?k9 ?kB ?_ ?c2 ?c3 ?c4 ?c5
  case k6 => k_is
  case k7 => k_is
  case k8 => k_room
  case k9 => exact binds_K (by k_in) rfl (by k_is) rfl rfl rfl
  case c5 => decide
  case kB => exact locs rfl
  case c2 => exact rfl
  case c3 => exact rfl
  case c4 => exact rfl
  intro g' L' h' FG' F' N' B' X' T'
  (try dsimp only)
  k_fold
  obtain ⟨dx, hsh, n, tkh, hi, hdd⟩ := hH
  have hl1 := hx.llen
  have hl2 : cleanIn (if true then code1 else code2) (Txt.lower x) = true := hx.low
  have hl3 := hx.lsz
  k_steps
  obtain ⟨its, e, hml, hP⟩ := hR
  have hlen := hP.length
  refine ⟨hl, its.toArray, fun i m' news' => news' = news ∧ UpTo2 (Str.ofString "k") (Str.ofString "v") _ m' ∧ tget (rows.drop i) (Txt.lower x) d = tget rows (Txt.lower x) d, news, rfl, by k_asm, by k_asm, ⟨rfl, .inl rfl, by rw [List.drop_zero]⟩, ?csrc, ?cok, ?cstep, ?cdone⟩
  case csrc => rintro i m' news' ⟨rfl, _, _⟩; exact ⟨⟨e, hml⟩, hHu⟩
  case cok =>
    rintro i v m' news' hv ⟨rfl, _, _⟩
    obtain ⟨r, hr⟩ : ∃ r, rows[i]? = some r := by
      have : i < its.length := by have := Array.getElem?_eq_some_iff.mp hv; simpa using this.1
      exact ⟨_, List.getElem?_eq_getElem (by omega)⟩
    obtain ⟨T, e, t0, t1, h1, h2⟩ := hP.at_ hr (by simpa using hv)
    exact ⟨T, _, _, e, h1, h2⟩
  case cstep =>
    rintro i v m1 news' m2 hh tk2 I oI hv ⟨rfl, hm1, htg⟩ hup F9 N9 hne
    obtain ⟨r, hr⟩ : ∃ r, rows[i]? = some r := by
      have : i < its.length := by have := Array.getElem?_eq_some_iff.mp hv; simpa using this.1
      exact ⟨_, List.getElem?_eq_getElem (by omega)⟩
    obtain ⟨T, e9, t0, t1, h1, h2⟩ := hP.at_ hr (by simpa using hv)
    obtain ⟨T', y1, y2, e8, h1', h2', rfl⟩ := hup
    obtain ⟨rfl, rfl⟩ := same_pair N9 h1 h2 h1' h2'
    rw [hm1.next] at F9
    clear hm1
    have hlr := hrows r (List.mem_of_getElem? hr)
    have hdrop : rows.drop i = r :: rows.drop (i + 1) := by
      rw [List.getElem?_eq_some_iff] at hr
      obtain ⟨hi, rfl⟩ := hr
      exact List.drop_eq_getElem_cons hi
    rw [hdrop, tget] at htg
    by_cases hq : Txt.lower r.1 = Txt.lower x
    · k_steps
      dsimp only
      unfold BodyEnd
      dsimp only
      rw [if_pos hq] at htg
      k_steps
      exact ret _ _ _ _ (by k_asm) (News.sub1 (by k_asm) (by intro p hp; simp only [List.mem_cons, hp, or_true])) ⟨rfl, t1, by rw [← htg]⟩
    · k_steps
      rw [if_neg hq] at htg
      exact ⟨_, _, _, news', rfl, by k_asm, by k_asm, hne, rfl, .inr ⟨_, _, rfl⟩, htg⟩
  case cdone =>
    rintro hh tk2 m1 news' ⟨rfl, hm1, htg⟩ F9 N9
    have htg' : d = tget rows (Txt.lower x) d := by
      rw [List.drop_of_length_le (by simpa using Nat.le_of_eq hlen)] at htg
      exact htg
    rcases hm1 with rfl | ⟨y1, y2, rfl⟩
    · k_steps
      exact ret _ _ _ _ (by k_asm) (by k_asm) ⟨rfl, td, by rw [← htg']⟩
    · k_steps
      exact ret _ _ _ _ (by k_asm) (by k_asm) ⟨rfl, td, by rw [← htg']⟩
end
section
open PySem.Builtin
abbrev accO (dx : Addr) (items : Array Value) (n : Nat) : Obj := { cls := .ref 255, dict := some dx, data := .seq items n }
def PdAt (imm : List (Addr × Obj)) (dx : Addr) : Prop := ∃ hsh n tk t, (dx, dictOf [⟨hsh, .str (Str.ofString "_initial_size") tk, .int 0 t⟩] n) ∈ imm
theorem instAcc {h₀ h : Heap} {L x dx : Addr} {items : Array Value} {n : Nat} {news : List (Addr × Obj)} {od : Obj} (N : News h₀ L h news) (h1 : (x, accO dx items n) ∈ news) (h2 : (dx, od) ∈ news) : PySem.W.InstAt h x (accO dx items n) 255 (some od) :=
  ⟨(N _ h1).1, rfl, rfl, (N _ h2).1⟩
section
variable {w : World} {A : Around} {E : Value → Shared → Prop} {s : Shared} {K : Frag} {x C L : Addr} {h₀ : Heap} {m : Str → Option Value} {od : Option Obj} {ox : Obj} {name : Str} {pl : Sem Bool} {Q : Value × List Value → Shared → Prop}
theorem methL_fn {f : Addr} (F : Fr h₀ L s.heap m) (X₀ : K.In h₀) (I : PySem.W.InstAt s.heap x ox C od) (hga : findIn K (.ref C) "__getattribute__" = some (some (.builtin "list.__getattribute__"))) (hk : findIn K (.ref C) "__getattr__" = some none)
    (hf : findIn K (.ref C) name = some (some (.ref f))) (ht : typeIn K (.ref f) = some (.type "function")) (hs : shadowIn od name = some false) (h : Q (.ref f, [.ref x]) s) :
    wpAny (model pw w) A (getMethod (.ref x) name pl) Q E s := by
  have X := X₀.keeps F.keep
  have hcan := canon_list_getattribute
  unfold getMethod specialOf
  refine wpAny_bind (wpAny_bind (I.type.here ((looks_findIn X hga).here ?_)))
  dsimp only
  rw [hcan, if_neg (by decide)]
  refine wpAny_bind (wpAny_bind (I.type.here ((looks_findIn X hk).here ?_)))
  refine wpAny_bind (wpAny_bind (I.type.here ((looks_findIn X hf).here (wpAny_bind ((looks_typeIn X ht).here ?_)))))
  rw [if_neg (by decide +kernel)]
  refine wpAny_bind (wpAny_loadPart I.at_ ?_)
  have hd := I.dict
  cases e : ox.dict with
  | none => exact wpAny_bind (wpAny_rule (wpAny_pure h))
  | some dx =>
    cases od with
    | none => rw [e] at hd; exact hd.elim
    | some o =>
      rw [e] at hd
      obtain ⟨r, a, b⟩ := Option.map_eq_some_iff.mp hs
      refine wpAny_bind (wpAny_bind (wpAny_loadPart hd ?_))
      rw [nsLook_of a]
      refine wpAny_pure ?_
      rw [b]
      exact wpAny_bind (wpAny_rule (wpAny_pure h))
theorem methL_bi {id : String} (F : Fr h₀ L s.heap m) (X₀ : K.In h₀) (I : PySem.W.InstAt s.heap x ox C od) (hga : findIn K (.ref C) "__getattribute__" = some (some (.builtin "list.__getattribute__"))) (hk : findIn K (.ref C) "__getattr__" = some none)
    (hf : findIn K (.ref C) name = some (some (.builtin id))) (ht : typeOf (.builtin id) = pure (.type "method_descriptor")) (hs : shadowIn od name = some false) (h : Q (.builtin id, [.ref x]) s) :
    wpAny (model pw w) A (getMethod (.ref x) name pl) Q E s := by
  have X := X₀.keeps F.keep
  have hcan := canon_list_getattribute
  unfold getMethod specialOf
  refine wpAny_bind (wpAny_bind (I.type.here ((looks_findIn X hga).here ?_)))
  dsimp only
  rw [hcan, if_neg (by decide)]
  refine wpAny_bind (wpAny_bind (I.type.here ((looks_findIn X hk).here ?_)))
  refine wpAny_bind (wpAny_bind (I.type.here ((looks_findIn X hf).here (wpAny_bind (wpAny_of_eq ht ?_)))))
  rw [if_neg (by decide +kernel)]
  refine wpAny_bind (wpAny_loadPart I.at_ ?_)
  have hd := I.dict
  cases e : ox.dict with
  | none => exact wpAny_bind (wpAny_rule (wpAny_pure h))
  | some dx =>
    cases od with
    | none => rw [e] at hd; exact hd.elim
    | some o =>
      rw [e] at hd
      obtain ⟨r, a, b⟩ := Option.map_eq_some_iff.mp hs
      refine wpAny_bind (wpAny_bind (wpAny_loadPart hd ?_))
      rw [nsLook_of a]
      refine wpAny_pure ?_
      rw [b]
      exact wpAny_bind (wpAny_rule (wpAny_pure h))
end
theorem callL {w : World} {A : Around} {E : Value → Shared → Prop} {s : Shared} {K : Frag} {x C L : Addr} {h₀ : Heap} {m : Str → Option Value} {od : Option Obj} {ox : Obj} {id n : String} {b : Builtin} {rest : List Value} {Q : Value → Shared → Prop}
    (F : Fr h₀ L s.heap m) (X₀ : K.In h₀) (I : PySem.W.InstAt s.heap x ox C od) (hsub : subIn K (.ref C) (.type "list") = some true)
    (hb : entryFor table id = some b) (hsplit : splitId id = some ("list", n)) (hkind : (Manifest.find? "list").bind (·.attrs.lookup n) = some .slot ∨ (Manifest.find? "list").bind (·.attrs.lookup n) = some .method)
    (hq : plainId id = true) (ha : argsOk id ⟨.ref x :: rest, []⟩)
    (hc : wpAny (model pw w) A.in1 (b ⟨.ref x :: rest, []⟩) (fun fin s' => ∃ v, fin = .done (.ret v) ∧ Q v s') E s) :
    wpAny (model pw w) A (call (.builtin id) (.ref x :: rest)) Q E s := by
  have X := X₀.keeps F.keep
  have hk : builtinKind id = (Manifest.find? "list").bind (·.attrs.lookup n) := by simp only [builtinKind, hsplit]
  refine wpAny_call (codeAny_call_builtin hq hb ?_)
  rcases hkind with h | h <;>
  · simp only [checkBuiltinCall, hk, h, hsplit]
    refine wpAny_bind ?_
    unfold isInstance
    refine wpAny_bind (I.type.here ((looks_subIn X hsub).here ?_))
    simp only [Bool.not_true, Bool.false_eq_true, if_false]
    cases hsig : Manifest.signature? id with
    | none => exact wpAny_pure (wpAny_mono hc (fun fin s' h' => by obtain ⟨v, rfl, hv⟩ := h'; exact hv) fun _ _ h' => h')
    | some sig =>
      simp only [argsOk, hsig] at ha
      have h2 : Bind.checkArgs id sig ⟨.ref x :: rest, []⟩ = pure () := ha
      show wpAny _ _ (Bind.checkArgs id sig ⟨.ref x :: rest, []⟩) _ _ s
      rw [h2]; exact wpAny_pure (wpAny_mono hc (fun fin s' h' => by obtain ⟨v, rfl, hv⟩ := h'; exact hv) fun _ _ h' => h')
theorem appAcc {w : World} {A : Around} {E : Value → Shared → Prop} {s : Shared} {h₀ : Heap} {L l dx : Addr} {m : Str → Option Value} {led : List (Addr × Obj)} {its : List Value} {e : Nat} {x : Value} {od : Obj} {Q : Value → Shared → Prop}
    (F : Fr h₀ L s.heap m) (X₀ : (heapK w.params).In h₀) (hsub : subIn (heapK w.params) (.ref 255) (.type "list") = some true) (N : News h₀ L s.heap led) (hm : (l, accO dx (List.toArray its) e) ∈ led) (hd : (dx, od) ∈ led) (hsz : its.length ≤ sizeLine)
    (h : ∀ h', Fr h₀ L h' m → (∀ led', (∀ p ∈ led', p ∈ led ∧ p.1 ≠ l) → News h₀ L h' ((l, accO dx (List.toArray (its ++ [x])) (e + 1)) :: led')) → Q .none { s with heap := h' }) :
    wpAny (model pw w) A (call (.builtin "list.append") [.ref l, x]) Q E s := by
  have hl := N _ hm
  refine callL (n := "append") F X₀ (instAcc N hm hd) hsub entry_list_append (by decide +kernel) (by first | exact .inl (by decide +kernel) | exact .inr (by decide +kernel)) (by decide +kernel) (args_list_append _ _) ?_
  show wpAny _ _ (updateSeq l (·.push x) >>= fun _ => ret .none) _ _ s
  refine wpAny_bind (wpAny_updateSeq hl.1 rfl ?_ (by rw [List.size_toArray]; exact hsz) (by simp only [List.push_toArray, List.size_toArray, List.length_append, List.length_singleton]; omega))
  refine wpAny_pure ⟨_, rfl, ?_⟩
  have e1 := Heap.get?_update_self (Obj.mapSeq (·.push x)) hl.1 rfl
  have e2 : Obj.mapSeq (·.push x) (accO dx (List.toArray its) e) = accO dx (List.toArray (its ++ [x])) (e + 1) := by
    unfold Obj.mapSeq
    simp
  rw [e2] at e1
  have hs := Heap.SameBut.update s.heap l (Obj.mapSeq (·.push x))
  refine h _ (F.change hs hl.2.1 hl.2.2) fun led' hled p hp => ?_
  rcases List.mem_cons.mp hp with rfl | hp
  · exact ⟨e1, hl.2⟩
  · obtain ⟨h1, h2⟩ := hled p hp
    exact ⟨hs.extBut _ _ h2 (N p h1).1, (N p h1).2⟩
end
section
open PySem.Builtin
theorem slot_wd_get : Slot "wrapper_descriptor" "__get__" "wrapper_descriptor.__get__" := .of (owner := "wrapper_descriptor") (n := "__get__") (by rw [typeLookup_type, builtinLookup_eq_fast]; kernel_rfl) (by decide +kernel) (by decide +kernel) (by decide +kernel)
  (by first | exact .inl (by decide +kernel) | exact .inr (by decide +kernel)) (by rw [isSubtype_type]; kernel_rfl)
theorem entry_wd_get : entryFor table "wrapper_descriptor.__get__" = some Builtin.«wrapper_descriptor.__get__» := entryFor_of_tree (by kernel_rfl)
theorem args_wd_get (a b c : Value) : argsOk "wrapper_descriptor.__get__" ⟨[a, b, c], []⟩ := by unfold argsOk; kernel_rfl
theorem slot_md_get : Slot "method_descriptor" "__get__" "method_descriptor.__get__" := .of (owner := "method_descriptor") (n := "__get__") (by rw [typeLookup_type, builtinLookup_eq_fast]; kernel_rfl) (by decide +kernel) (by decide +kernel) (by decide +kernel)
  (by first | exact .inl (by decide +kernel) | exact .inr (by decide +kernel)) (by rw [isSubtype_type]; kernel_rfl)
theorem entry_md_get : entryFor table "method_descriptor.__get__" = some Builtin.«method_descriptor.__get__» := entryFor_of_tree (by kernel_rfl)
theorem args_md_get (a b c : Value) : argsOk "method_descriptor.__get__" ⟨[a, b, c], []⟩ := by unfold argsOk; kernel_rfl
theorem type_len : typeOf (.builtin "list.__len__") = pure (.type "wrapper_descriptor") := by show builtinType _ = _; rw [builtinType_eq_fast]; kernel_rfl
theorem type_linit : typeOf (.builtin "list.__init__") = pure (.type "wrapper_descriptor") := by show builtinType _ = _; rw [builtinType_eq_fast]; kernel_rfl
theorem type_pop : typeOf (.builtin "list.pop") = pure (.type "method_descriptor") := by show builtinType _ = _; rw [builtinType_eq_fast]; kernel_rfl
theorem notTold : Manifest.toldItsClass.contains "list.pop" = false := by decide +kernel
theorem getW_len (x C : Addr) : Builtin.«wrapper_descriptor.__get__» ⟨[.builtin "list.__len__", .ref x, .ref C], []⟩ = (do
  (do
    if !(← isInstance (.ref x) (.type "list")) then
      rule "descr.get.wrong-instance"
      raiseError "TypeError" s!"descriptor '{(Str.ofString "__len__").toString}' for '{← typeName (.type "list")}' objects doesn't apply to a '{← typeNameOf (.ref x)}' object" : Sem Unit)
  ret (← newFields "method-wrapper" [.builtin "list.__len__", .ref x])) := by rfl
theorem getW_init (x C : Addr) : Builtin.«wrapper_descriptor.__get__» ⟨[.builtin "list.__init__", .ref x, .ref C], []⟩ = (do
  (do
    if !(← isInstance (.ref x) (.type "list")) then
      rule "descr.get.wrong-instance"
      raiseError "TypeError" s!"descriptor '{(Str.ofString "__init__").toString}' for '{← typeName (.type "list")}' objects doesn't apply to a '{← typeNameOf (.ref x)}' object" : Sem Unit)
  ret (← newFields "method-wrapper" [.builtin "list.__init__", .ref x])) := by rfl
theorem getM_pop (x C : Addr) : Builtin.«method_descriptor.__get__» ⟨[.builtin "list.pop", .ref x, .ref C], []⟩ = (do
  (do
    if !(← isInstance (.ref x) (.type "list")) then
      rule "descr.get.wrong-instance"
      raiseError "TypeError" s!"descriptor '{(Str.ofString "pop").toString}' for '{← typeName (.type "list")}' objects doesn't apply to a '{← typeNameOf (.ref x)}' object" : Sem Unit)
  ret (← newFields "builtin_function_or_method" [.builtin "list.pop", .ref x])) := by kernel_rfl
section
variable {w : World} {A : Around} {E : Value → Shared → Prop} {s : Shared} {h₀ : Heap} {L : Addr} {m : Str → Option Value} {K : Frag} {x C D so : Addr} {ox : Obj} {od : Option Obj}
theorem bindB {id bt : String} {X : Sem Unit} {Q : Value → Shared → Prop} (F : Fr h₀ L s.heap m) (X₀ : K.In h₀) (I : PySem.W.InstAt s.heap x ox C od) (hsub : subIn K (.ref C) (.type "list") = some true)
    (h : Q (.ref s.heap.objs.size) { s with heap := s.heap.push { cls := .type bt, data := .fields #[.builtin id, .ref x] } }) :
    wpAny (model pw w) A (do
      (do if !(← isInstance (.ref x) (.type "list")) then X : Sem Unit)
      ret (← newFields bt [.builtin id, .ref x])) (fun fin s' => ∃ v, fin = Fin.done (.ret v) ∧ Q v s') E s := by
  refine wpAny_bind (wpAny_bind ?_)
  unfold isInstance
  refine wpAny_bind (I.type.here ((looks_subIn (X₀.keeps F.keep) hsub).here ?_))
  simp only [Bool.not_true, Bool.false_eq_true, if_false]
  refine wpAny_pure ?_
  refine wpAny_bind ?_
  unfold newFields
  refine wpAny_newObj_type (wpAny_pure ⟨_, rfl, h⟩) (by size_fits)
theorem superGa {id T T2 bt : String} {B : Builtin} {X : Sem Unit} {name : Str} {tk : Tok} {l₀ l : List Value} {Q : Fin → Shared → Prop}
    (F : Fr h₀ L s.heap m) (X₀ : K.In h₀) (I : PySem.W.InstAt s.heap x ox C od) (hsub : subIn K (.ref C) (.type "list") = some true)
    (hso : s.heap.get? so = some (ks_superObj D x C)) (hno : Looks (model pw w) s.heap (opaqueClassAbove (.ref C)) none)
    (hC : Looks (model pw w) s.heap (mroOf (.ref C)) l₀) (hl : (l₀.dropWhile (· != .ref D)).drop 1 = l)
    (hf : alongIn K name l = some (some (.builtin id))) (hT : typeOf (.builtin id) = pure (.type T)) (slot : Slot T "__get__" T2) (he : entryFor table T2 = some B) (ha : argsOk T2 ⟨[.builtin id, .ref x, .ref C], []⟩)
    (hB : B ⟨[.builtin id, .ref x, .ref C], []⟩ = (do
      (do if !(← isInstance (.ref x) (.type "list")) then X : Sem Unit)
      ret (← newFields bt [.builtin id, .ref x])))
    (hxC : x ≠ C) (hn : (name == ("__class__" : Str)) = false)
    (hq : Q (.done (.ret (.ref s.heap.objs.size))) { s with heap := s.heap.push { cls := .type bt, data := .fields #[.builtin id, .ref x] } }) :
    wpAny (model pw w) A (Builtin.«super.__getattribute__» ⟨[.ref so, .str name tk], []⟩) Q E s := by
  have X' := X₀.keeps F.keep
  have hlk := slot.lookup
  have hne : (Value.ref x == Value.ref C) = false := by simp [hxC]
  have hTf : s.TypeIs (.builtin id) T := hT
  have hdt : (ks_superObj D x C).data = .fields #[.ref D, .ref x, .ref C] := rfl
  have f0 : (#[.ref D, .ref x, .ref C] : Array Value)[0]? = some (.ref D) := rfl
  have f1 : (#[.ref D, .ref x, .ref C] : Array Value)[1]? = some (.ref x) := rfl
  have f2 : (#[.ref D, .ref x, .ref C] : Array Value)[2]? = some (.ref C) := rfl
  have hcall : ∀ (Q' : Value → Shared → Prop) (A : Around), Q' (.ref s.heap.objs.size) { s with heap := s.heap.push { cls := .type bt, data := .fields #[.builtin id, .ref x] } } → wpAny (model pw w) A (call (.builtin T2) [.builtin id, .ref x, .ref C]) Q' E s := fun Q' A hq => by
    refine wpAny_call_entry slot hTf he ?_ ha
    rw [hB]
    exact bindB F X₀ I hsub hq
  obtain ⟨hh, g, d, t, os⟩ := s
  unfold Builtin.«super.__getattribute__»
  repeat (first
    | (with_reducible refine wpAny_field hso hdt f0 ?_) | (with_reducible refine wpAny_field hso hdt f1 ?_) | (with_reducible refine wpAny_field hso hdt f2 ?_)
    | (with_reducible refine ks_wpAny_notOpaque hno ?_)
    | (with_reducible refine Looks.at hC ?_; rw [hl])
    | (refine ks_forIn_along X' (fun _ _ => rfl) rfl ?_ hf)
    | (with_reducible refine wpAny_of_eq hT ?_)
    | (with_reducible refine wpAny_of_eq hlk ?_)
    | (with_reducible refine hcall _ _ ?_)
    | (simp only [hn, hne, Bool.or_false, Bool.false_eq_true, if_false])
    | wp_step
    | dsimp only)
  all_goals exact hq
theorem superMeth {id T T2 bt : String} {B : Builtin} {X : Sem Unit} {name : Str} {pl : Sem Bool} {news : List (Addr × Obj)} {Q : Value × List Value → Shared → Prop}
    (F : Fr h₀ L s.heap m) (X₀ : K.In h₀) (N : News h₀ L s.heap news) (I : PySem.W.InstAt s.heap x ox C od) (hsub : subIn K (.ref C) (.type "list") = some true)
    (hso : (so, ks_superObj D x C) ∈ news) (ho : nsIn K cStatics "thirdparty.any" = some none)
    (hf : ks_superIn K C D name = some (some (.builtin id))) (hT : typeOf (.builtin id) = pure (.type T)) (slot : Slot T "__get__" T2) (he : entryFor table T2 = some B) (ha : argsOk T2 ⟨[.builtin id, .ref x, .ref C], []⟩)
    (hB : B ⟨[.builtin id, .ref x, .ref C], []⟩ = (do
      (do if !(← isInstance (.ref x) (.type "list")) then X : Sem Unit)
      ret (← newFields bt [.builtin id, .ref x])))
    (hn : (name == ("__class__" : Str)) = false)
    (h : ∀ q h', Fr h₀ L h' m → News h₀ L h' ((q, ({ cls := .type bt, data := .fields #[.builtin id, .ref x] } : Obj)) :: news) → (∀ p ∈ news, p.1 < q) → Q (.ref q, []) { s with heap := h', toks := s.toks + 1 }) :
    wpAny (model pw w) A (getMethod (.ref so) name pl) Q E s := by
  have X' := X₀.keeps F.keep
  have hlk := PySem.F.ks_slot_super_ga.lookup
  have hcan := PySem.F.ks_canon_super_ga
  have hsoh := (N _ hso).1
  cases hc : clsIn K C with
  | none => unfold ks_superIn at hf; rw [hc] at hf; cases hf
  | some cd =>
  unfold ks_superIn at hf
  rw [hc] at hf
  have hTs : ∀ t', ({ s with toks := t' } : Shared).TypeIs (.ref so) "super" := fun _ => ⟨_, hsoh, rfl⟩
  have hCm : Looks (model pw w) s.heap (mroOf (.ref C)) cd.mro := fun A Q E s k q => wpAny_bind ((looks_clsIn X' hc) A _ E s k (wpAny_pure q))
  unfold getMethod
  refine wpAny_bind (wpAny_specialOf (hTs s.toks) hlk ?_)
  show wpAny _ _ (if (Manifest.canonical "super.__getattribute__" != "object.__getattribute__") = true then _ else _) _ _ _
  rw [if_pos hcan]
  unfold getAttr getAttrBy
  refine wpAny_bind (wpAny_bind (wpAny_mkText (wpAny_holding (wpAny_bind (wpAny_typeOf (hTs _) (wpAny_bind (wpAny_of_eq hlk ?_)))))))
  show wpAny _ _ (getAttrByItsOwn (.ref so) (.str name s.toks) (.type "super") (.builtin "super.__getattribute__") true false) _ _ _
  unfold getAttrByItsOwn hookBefore callGetattribute boundAndCalled
  refine wpAny_bind (wpAny_of_eq (show (if onTheHeap (.type "super") then typeLookup (.type "super") "__getattr__" else pure none) = pure none from rfl) ?_)
  refine wpAny_bind (wpAny_attempt (wpAny_holding ?_))
  show wpAny _ _ (bindSpecial (.builtin "super.__getattribute__") (.ref so) >>= _) _ _ _
  refine wpAny_bind (wpAny_of_eq (PySem.F.ks_slot_super_ga.bind _) ?_)
  refine wpAny_mono (Q := fun v s' => v = .ref s.heap.objs.size ∧ s' = { s with heap := s.heap.push { cls := .type bt, data := .fields #[.builtin id, .ref x] }, toks := s.toks + 1 }) (E := fun _ _ => False)
    (wpAny_call_entry PySem.F.ks_slot_super_ga (hTs _) PySem.F.ks_entry_super_ga (superGa (s := { s with toks := s.toks + 1 }) F X₀ I hsub hsoh (looks_opaque X' ho) hCm rfl hf hT slot he ha hB (ks_ne X' I hc) hn ⟨_, rfl, rfl, rfl⟩) (PySem.F.ks_gaArgs_super _ _)) (fun v s' hv => ?_) fun _ _ z => z.elim
  obtain ⟨rfl, rfl⟩ := hv
  refine wpAny_pure (wpAny_pure ?_)
  obtain ⟨F', N', l'⟩ := ks_newsPush (s := s) (o := { cls := .type bt, data := .fields #[.builtin id, .ref x] }) F N rfl (Heap.get?_push_at rfl rfl) (fun b o e => Heap.get?_push_of_some _ e)
  exact h _ _ F' N' l'
end
section
variable {w : World} {A : Around} {E : Value → Shared → Prop} {s : Shared}
theorem callBoundB {q x : Addr} {id bt : String} {b : Builtin} {rest : List Value} {Q : Value → Shared → Prop} (hb : s.heap.get? q = some { cls := .type bt, dict := none, data := .fields #[.builtin id, .ref x], slots := #[] })
    (hbt : bt = "method-wrapper" ∨ bt = "builtin_function_or_method") (hquiet : (Code.builtin id ⟨.ref x :: rest, []⟩).quiet = true) (hent : entryFor table id = some b)
    (hchk : ∀ (A' : Around) (Q' : Unit → Shared → Prop) (E' : Value → Shared → Prop), Q' () s → wpAny (model pw w) A' (checkBoundCall id ⟨.ref x :: rest, []⟩) Q' E' s)
    (hc : ∀ A', wpAny (model pw w) A' (b ⟨.ref x :: rest, []⟩) (fun fin s' => ∃ v, fin = .done (.ret v) ∧ Q v s') E s) :
    wpAny (model pw w) A (call (.ref q) rest) Q E s := by
  refine wpAny_call (codeAny_of_tree ?_)
  show wpAny _ A.in1 (callAny (.ref q) ⟨rest, []⟩) _ _ _
  unfold callAny
  refine wpAny_bind (wpAny_load hb ?_)
  have h1 : (Value.type bt == Value.type "method") = false := by rcases hbt with rfl | rfl <;> decide
  have h2 : (Value.type bt == Value.type "method" || Value.type bt == Value.type "builtin_function_or_method" || Value.type bt == Value.type "method-wrapper") = true := by rcases hbt with rfl | rfl <;> decide
  have h3 : (Value.type bt != Value.type "method") = true := by rcases hbt with rfl | rfl <;> decide
  dsimp only
  rw [if_pos h2]
  show wpAny _ _ (if (Value.type bt != Value.type "method") = true then _ else _) _ _ _
  rw [if_pos h3]
  refine wpAny_bind (hchk _ _ _ ?_)
  refine wpAny_pure ?_
  refine ⟨hquiet, codeAny_builtin hent ?_⟩
  exact wpAny_mono (hc _) (fun fin s' h' => by obtain ⟨v, rfl, hv⟩ := h'; exact hv) fun _ _ h' => h'
theorem chkSlot {id : String} {x : Addr} {rest : List Value} (hk : builtinKind id = some .slot) (ha : argsOk id ⟨.ref x :: rest, []⟩) (A' : Around) (Q' : Unit → Shared → Prop) (E' : Value → Shared → Prop) (h : Q' () s) :
    wpAny (model pw w) A' (checkBoundCall id ⟨.ref x :: rest, []⟩) Q' E' s := by
  unfold checkBoundCall
  cases hsig : Manifest.signature? id with
  | none => exact wpAny_pure h
  | some sig =>
    simp only [argsOk, hsig] at ha
    have h2 : Bind.checkArgs id sig ⟨.ref x :: rest, []⟩ = pure () := ha
    dsimp only
    rw [hk]
    dsimp only
    rw [if_pos (by decide), h2]
    exact wpAny_pure h
theorem lenB {q x dx : Addr} {items : Array Value} {n : Nat} {Q : Value → Shared → Prop} (hb : s.heap.get? q = some { cls := .type "method-wrapper", dict := none, data := .fields #[.builtin "list.__len__", .ref x], slots := #[] })
    (hx : s.heap.get? x = some (accO dx items n)) (h : ∀ t k, Q (.int items.size t) { s with toks := k }) : wpAny (model pw w) A (call (.ref q) []) Q E s := by
  refine callBoundB hb (.inl rfl) (Code.quiet_builtin _ (by decide +kernel)) entry_list_len (chkSlot (by decide +kernel) (args_list_len _)) fun A' => ?_
  show wpAny _ _ (do retInt (← seqSize x)) _ _ s
  unfold seqSize
  refine wpAny_bind (wpAny_bind (wpAny_load hx ?_))
  refine wpAny_pure ?_
  exact wpAny_bind (wpAny_mkInt (wpAny_pure ⟨_, rfl, h _ _⟩))
theorem callWithB {q x : Addr} {id bt : String} {pos : Pos} {env : Env} {Q : Value → Shared → Prop} (hb : s.heap.get? q = some { cls := .type bt, dict := none, data := .fields #[.builtin id, .ref x], slots := #[] })
    (hbt : bt = "method-wrapper" ∨ bt = "builtin_function_or_method") (h : wpAny (model pw w) A (call (.ref q) []) Q E s) :
    wpAny (model pw w) A (callWith pos (.ref q) [] (backTo pos (starEach [] env)) []) Q E s := by
  unfold callWith
  have he : wpAny (model pw w) A (evalArgs (.ref q) true (backTo pos (starEach [] env)) []) (fun a s' => a = ⟨[], []⟩ ∧ s' = s) E s := evalArgs_empty ⟨rfl, rfl⟩
  refine wpAny_bind (wpAny_holding (wpAny_mono he (fun a s₁ h₁ => ?_) fun _ _ x => x))
  obtain ⟨rfl, rfl⟩ := h₁
  refine wpAny_bind (wpAny_standAt ?_)
  have hpl : (backTo pos (starEach [] env)).any (·.1) = false := rfl
  have h1 : (Value.type bt != Value.type "method") = true := by rcases hbt with rfl | rfl <;> decide
  have h2 : (Value.type bt == Value.type "builtin_function_or_method" || Value.type bt == Value.type "method-wrapper") = true := by rcases hbt with rfl | rfl <;> decide
  simp only [hpl]
  refine wpAny_bind ?_
  unfold keeperOf
  refine wpAny_bind (wpAny_load hb ?_)
  dsimp only
  rw [if_pos h1]
  refine wpAny_pure ?_
  rw [if_pos h2]
  refine wpAny_bind ?_
  refine wpAny_mono (Q := Q) h (fun r s₂ hr => wpAny_bind (wpAny_holding (wpAny_point (wpAny_pure hr)))) fun _ _ x => x
end
end
section
open PySem.Builtin
section
variable {w : World} {A : Around} {E : Value → Shared → Prop} {s : Shared}
theorem chkPop {K : Frag} {x C L : Addr} {h₀ : Heap} {m : Str → Option Value} {ox : Obj} {od : Option Obj} {cd : ClassData} (F : Fr h₀ L s.heap m) (X₀ : K.In h₀) (I : PySem.W.InstAt s.heap x ox C od)
    (hmod : subIn K (.ref C) (.type "module") = some false) (hcl : clsIn K C = some cd) (hty : typeIn K (.ref C) = some (.type "type"))
    (hq : ∀ sig, Manifest.signature? "list.pop" = some sig → Bind.checkArgs "list.pop" { sig with full := s!"{cd.qualname.toString}.{Bind.lastOf "list.pop"}" } ⟨[.ref x], []⟩ = pure ())
    (A' : Around) (Q' : Unit → Shared → Prop) (E' : Value → Shared → Prop) (h : Q' () s) :
    wpAny (model pw w) A' (checkBoundCall "list.pop" ⟨[.ref x], []⟩) Q' E' s := by
  have X := X₀.keeps F.keep
  have hk : builtinKind "list.pop" = some .method := by decide +kernel
  have hva : Manifest.varargsMethods.contains "list.pop" = false := by decide +kernel
  unfold checkBoundCall
  cases hsig : Manifest.signature? "list.pop" with
  | none => exact wpAny_pure h
  | some sig =>
    dsimp only
    rw [hk]
    dsimp only
    rw [if_neg (by decide)]
    refine wpAny_bind ?_
    unfold isInstance
    refine wpAny_bind (I.type.here ((looks_subIn X hmod).here ?_))
    rw [hva]
    simp only [Bool.or_self, Bool.false_eq_true, if_false]
    have hit : wpAny (model pw w) A' (isType (.ref x)) (fun b s' => b = false ∧ s' = s) E' s := by
      obtain ⟨hh, g, d, t, os⟩ := s
      exact ks_wpAny_isType_inst I.at_ (fun c e => by have := I.no; unfold notCls at this; rw [e] at this; exact Bool.noConfusion this) ⟨rfl, rfl⟩
    refine wpAny_bind (m := isType (.ref x)) (wpAny_mono hit (fun b s' hb => ?_) fun _ _ e => e)
    obtain ⟨rfl, rfl⟩ := hb
    simp only [Bool.false_eq_true, if_false]
    refine wpAny_bind (I.type.here ?_)
    dsimp only
    refine wpAny_bind ((looks_clsIn X hcl).here ?_)
    refine wpAny_bind ((looks_typeIn X hty).here ?_)
    rw [if_pos (by decide), hq sig hsig]
    exact wpAny_pure h
theorem popB {q x dx : Addr} {its : List Value} {v : Value} {n : Nat} {Q : Value → Shared → Prop} (hb : s.heap.get? q = some { cls := .type "builtin_function_or_method", dict := none, data := .fields #[.builtin "list.pop", .ref x], slots := #[] })
    (hx : s.heap.get? x = some (accO dx (List.toArray (its ++ [v])) n)) (hsz : its.length ≤ 1000)
    (hchk : ∀ (A' : Around) (Q' : Unit → Shared → Prop) (E' : Value → Shared → Prop), Q' () s → wpAny (model pw w) A' (checkBoundCall "list.pop" ⟨[.ref x], []⟩) Q' E' s)
    (h : ∀ h' n', Heap.SameBut x s.heap h' → h'.get? x = some (accO dx (List.toArray its) n') → Q v { s with heap := h' }) : wpAny (model pw w) A (call (.ref q) []) Q E s := by
  refine callBoundB hb (.inr rfl) (Code.quiet_builtin _ (by decide +kernel)) PySem.F.entry_list_pop hchk fun A' => ?_
  unfold Builtin.«list.pop»
  refine wpAny_bind (wpAny_of_eq (a := (.ref x, [])) rfl ?_)
  dsimp only
  refine wpAny_bind (wpAny_pure ?_)
  rw [if_neg (by decide)]
  refine wpAny_bind (lItems hx rfl ?_)
  rw [if_neg (by simp)]
  have hidx : ((seqIndex? (-1) (List.toArray (its ++ [v])).size).bind fun k => (List.toArray (its ++ [v]))[k]?.map (k, ·)) = some (its.length, v) := by
    have e : seqIndex? (-1) (List.toArray (its ++ [v])).size = some its.length := by
      unfold seqIndex?
      simp
      omega
    rw [e]
    simp
  rw [hidx]
  dsimp only
  unfold Builtin.List.listUpdate
  dsimp only
  have he : (List.toArray (its ++ [v])).eraseIdxIfInBounds its.length = List.toArray its := by
    rw [Array.eraseIdxIfInBounds]
    simp only [List.size_toArray, List.length_append, List.length_singleton, Nat.lt_succ_self, dite_true]
    rw [List.eraseIdx_toArray, List.eraseIdx_append_of_length_le (Nat.le_refl _)]
    simp
  refine wpAny_bind (wpAny_updateSeq hx rfl ?_ (by simp only [List.size_toArray, List.length_append, List.length_singleton, sizeLine]; omega) (by rw [he, List.size_toArray]; simp only [sizeLine]; omega))
  refine wpAny_pure ⟨_, rfl, ?_⟩
  have e1 := Heap.get?_update_self (Obj.mapSeq (·.eraseIdxIfInBounds its.length)) hx rfl
  have e2 : ∃ n', Obj.mapSeq (·.eraseIdxIfInBounds its.length) (accO dx (List.toArray (its ++ [v])) n) = accO dx (List.toArray its) n' := by
    unfold Obj.mapSeq
    dsimp only
    rw [he]
    exact ⟨_, rfl⟩
  obtain ⟨n', e2⟩ := e2
  rw [e2] at e1
  exact h _ n' (Heap.SameBut.update ..) e1
end
end
section
theorem kwXF10_0 : True := by
  w_top off
  k_with_none
  trivial

theorem kwXF10_1 : True := by
  k_with "getMethod ref" =>
    (
      k_here
      k_dflt (first
        | (refine' methL_fn ?F ?X ?I ?ga ?gk ?hf ?ht ?hs ?_; (case F => k_asm); (case X => k_asm); (case I => exact instAcc (by k_asm) (by k_mem) (by k_mem)); (case ga => k_is); (case gk => k_is); (case hf => k_is); (case ht => k_is); (case hs => rfl))
        | (refine' methL_bi ?F ?X ?I ?ga ?gk ?hf ?ht ?hs ?_; (case F => k_asm); (case X => k_asm); (case I => exact instAcc (by k_asm) (by k_mem) (by k_mem)); (case ga => k_is); (case gk => k_is); (case hf => k_is); (case ht => exact PySem.F.type_list_append); (case hs => rfl))))
  trivial
theorem push_fn (w : World) (hd : Option Value) (pa dx : Addr) (its : List Value) (ex : Nat) (x v : Str) (tk tv : Tok) (imm : List (Addr × Obj)) (hdx : PdAt imm dx) (hap : ∀ p ∈ imm, p.1 ≠ pa) (hln : its.length ≤ 900) :
    Fn w hd 199 [.ref pa, .str x tk, .str v tv] 1 ((pa, accO dx (List.toArray its) ex) :: imm) (fun r news' => r = .none ∧ ∃ T, news' = (pa, accO dx (List.toArray (its ++ [.ref T])) (ex + 1)) :: (T, tupO (.str x tk) (.str v tv) 0) :: imm ∧ T ≠ pa) := by
  unfold Fn
  intro p loose mean mg mb dp un gd env outer A₀ base h₀ L m s Q E B F X N T hf hk hdp hun ret
  refine wpAny_call ?_
  refine' code_def (binds := [(Str.ofString "self", .ref pa), (Str.ofString "fws", .str x tk), (Str.ofString "string", .str v tv)]) B F X N T rfl hf hk ?k6 ?k7 ?k8 ?k9 ?kB ?_ ?c2 ?c3 ?c4 ?c5
  case k6 => k_is
  case k7 => k_is
  case k8 => k_room
  case k9 => exact BindsTo.of_eq rfl
  case c5 => decide
  case kB => exact locs rfl
  case c2 => exact rfl
  case c3 => exact rfl
  case c4 => exact rfl
  intro g' L' h' FG' F' N' B' X' T'
  (try dsimp only)
  k_fold
  obtain ⟨hsh, dn, tkd, tdi, hdx⟩ := hdx
  k_steps
  rename _ ∧ AllLt _ imm => l9
  refine' appAcc (od := dictOf _ _) ?F ?X ?hs ?N ?hm ?hd ?hz ?_
  case F => k_asm
  case X => k_asm
  case hs => k_is
  case N => k_asm
  case hm => k_mem
  case hd => k_mem
  case hz => simp only [sizeLine]; omega
  intro h9 F9 NN9
  have N9 := NN9 (_ :: imm) (fun p hp => by
    rcases List.mem_cons.mp hp with rfl | hp
    · exact ⟨List.mem_cons_self, Ne.symm (Nat.ne_of_lt l9.1)⟩
    · exact ⟨by simp only [List.mem_cons, hp, or_true], hap p hp⟩)
  clear NN9
  k_steps
  exact ret _ _ _ _ (by k_asm) (by k_asm) ⟨rfl, _, rfl, Ne.symm (Nat.ne_of_lt l9.1)⟩
end
section
theorem kwXF11_0 : True := by
  w_top off
  k_with_none
  trivial

theorem instAcc' {h₀ h : Heap} {L x dx : Addr} {items : Array Value} {n : Nat} {news : List (Addr × Obj)} {od : Obj} (N : News h₀ L h news) (h1 : (x, accO dx items n) ∈ news) (h2 : (dx, od) ∈ news) : PySem.W.InstAt h x (accO dx items n) 255 (some od) := instAcc N h1 h2
theorem kwXF11_1 : True := by
  k_with "inst" =>
    exact instAcc (by k_asm) (by k_mem) (by k_mem)
  k_with "getMethod ref" =>
    (
      k_here
      k_dflt (first
        | (refine' superMeth ?F ?X ?N ?I ?su ?so ?no ?hf type_len slot_wd_get entry_wd_get (args_wd_get _ _ _) (getW_len _ _) ?hn ?_; (case F => k_asm); (case X => k_asm); (case N => k_asm); (case I => k_inst); (case su => k_is); (case so => k_mem); (case no => k_is); (case hf => ks_is); (case hn => decide); intro _ _ _ _ _)))
  k_with "call ref" =>
    (
      k_here
      k_dflt (refine' lenB (News.get (by k_asm) (by k_mem)) (News.get (by k_asm) (by k_mem)) ?_; intro _ _))
  k_with "callWith" =>
    (
      k_here
      (with_reducible show wpAny _ _ (callWith _ (Value.ref _) [] _ []) _ _ _)
      k_dflt (refine' callWithB (News.get (by k_asm) (by k_mem)) (by first | exact .inl rfl | exact .inr rfl) ?_))
  trivial
theorem count_fn (w : World) (hd : Option Value) (pa dx : Addr) (its : List Value) (ex : Nat) (imm : List (Addr × Obj)) (hdx : PdAt imm dx) (hln : its.length ≤ 900) :
    Fn w hd 252 [.ref pa] 1 ((pa, accO dx (List.toArray its) ex) :: imm) (SameInt ((pa, accO dx (List.toArray its) ex) :: imm) its.length) := by
  unfold Fn
  intro p loose mean mg mb dp un gd env outer A₀ base h₀ L m s Q E B F X N T hf hk hdp hun ret
  refine wpAny_call ?_
  refine' ks_code_super (binds := [(Str.ofString "self", .ref pa)]) B F X N T rfl hf hk ?k6 ?k7 ?k8 ?k9 ?kB ?_ ?c1 ?c2 ?c3 ?c4
  case k6 => k_is
  case k7 => k_is
  case k8 => k_room
  case k9 => exact BindsTo.of_eq rfl
  case kB => exact locs rfl
  case c1 => decide
  case c2 => exact rfl
  case c3 => exact rfl
  case c4 => exact rfl
  intro g' L' h' FG' F' N' B' X' T' l1
  (try dsimp only)
  (try k_fold)
  obtain ⟨hsh, dn, tkd, tdi, hdx⟩ := hdx
  k_steps
  exact ret _ _ _ _ (by k_asm) (News.sub1 (by k_asm) (by intro p hp; simp only [List.mem_cons] at hp ⊢; rcases hp with rfl | hp <;> simp [*])) ⟨rfl, _, by first | rfl | (rw [List.size_toArray])⟩
end
section
theorem kwXF12_0 : True := by
  w_top off
  k_with_none
  trivial

theorem count_use {w : World} {hd : Option Value} {pa dx : Addr} {its : List Value} {ex : Nat} {led : List (Addr × Obj)} (hm : (pa, accO dx (List.toArray its) ex) ∈ led) (hdx : PdAt led dx) (hln : its.length ≤ 900)
    {p : Program} {loose : List Str} {mean : ExcName → Option Value} {mg mb : Str → Option Value} {dp un : Nat} {gd : Option (List Code)} {env : Env} {outer : List Env} {A₀ : Around} {base h₀ : Heap} {L : Addr} {m : Str → Option Value} {s : Shared} {Q E : Value → Shared → Prop}
    (B : Below A₀ base outer h₀) (F : Fr h₀ L s.heap m) (X : (heapK w.params).In h₀) (N : News h₀ L s.heap led) (T : Top p loose mean mg mb h₀) (hf : env.frame = some L) (hk : env.scope.kind = .function) (hdp : dp + 1 < recursionLimit) (hun : un + 8 * 1 < cLine)
    (ret : ∀ tk h' tk', Fr h₀ L h' m → News h₀ L h' led → Q (.int its.length tk) { s with heap := h', toks := tk' }) :
    wpAny (model pw w) (topA hd dp un gd env outer) (call (.ref 252) [.ref pa]) Q E s :=
  Fn.int (count_fn w hd pa dx its ex led hdx hln) B F X (fun q hq => by
    rcases List.mem_cons.mp hq with rfl | hq
    · exact N _ hm
    · exact N q hq) T hf hk hdp hun fun tk h' tk' F' N' => ret tk h' tk' F' fun q hq => N' q (List.mem_cons_of_mem _ hq)
theorem kwXF12_1 : True := by
  k_with "inst" =>
    exact instAcc (by k_asm) (by k_mem) (by k_mem)
  k_with "getMethod ref" =>
    (
      k_here
      k_dflt (first
        | (refine' superMeth ?F ?X ?N ?I ?su ?so ?no ?hf type_pop slot_md_get entry_md_get (args_md_get _ _ _) (getM_pop _ _) ?hn ?_; (case F => k_asm); (case X => k_asm); (case N => k_asm); (case I => k_inst); (case su => k_is); (case so => k_mem); (case no => k_is); (case hf => ks_is); (case hn => decide); intro _ _ _ _ _)
        | (refine' methL_fn ?F ?X ?I ?ga ?gk ?hf ?ht ?hs ?_; (case F => k_asm); (case X => k_asm); (case I => exact instAcc (by k_asm) (by k_mem) (by k_mem)); (case ga => k_is); (case gk => k_is); (case hf => k_is); (case ht => k_is); (case hs => rfl))))
  k_with "callWith" =>
    (
      k_here
      (with_reducible show wpAny _ _ (callWith _ (Value.ref _) [] _ []) _ _ _)
      k_dflt (refine' callWithB (News.get (by k_asm) (by k_mem)) (by first | exact .inl rfl | exact .inr rfl) ?_))
  k_with "call ref" =>
    (
      k_here
      (with_reducible show wpAny _ _ (call (Value.ref 252) _ _) _ _ _)
      k_dflt (
      refine' count_use ?ka ?kb ?kc ?k3 ?k4 ?k5 ?k6 ?k7 ?k8 ?k9 ?kd ?ku ?_
      (case k3 => k_asm); (case k4 => k_asm); (case k5 => k_asm); (case k6 => k_asm); (case k7 => k_asm); (case k8 => exact rfl); (case k9 => exact rfl)
      (case ka => k_mem)
      (case kb => exact ⟨_, _, _, _, by k_mem⟩)
      (case kc => (simp only [List.length_append, List.length_singleton]; omega))
      (case kd => (simp only [Tm.size, depth_deeper, recursionLimit] at *; (try dsimp only [topA] at *); omega))
      (case ku => (simp only [Tm.size, units_deeper, cLine] at *; (try dsimp only [topA] at *); omega))
      intro _ _ _ _ _; (try dsimp only); (try k_fold)))
  trivial
theorem eqI_no {w : World} {A : Around} {E : Value → Shared → Prop} {s : Shared} {x y : Int} {t u : Tok} {Q : Value → Shared → Prop} (e : ¬ x = y) (h : Q (.bool false) s) : wpAny (model pw w) A (compareOp .Eq (.int x t) (.int y u)) Q E s := by
  refine PyProof.Rows.eq_int ?_
  rw [beq_eq_false_iff_ne.mpr e]; exact h
theorem kwXF12_2 : True := by
  k_with "compareOp Eq int int" =>
    (k_here; refine eqI_no (by assumption) ?_)
  trivial
theorem pop_fn (w : World) (hd : Option Value) (pa dx : Addr) (its : List Value) (v : Value) (ex : Nat) (imm : List (Addr × Obj)) (hdx : PdAt imm dx) (hap : ∀ p ∈ imm, p.1 ≠ pa) (hln : its.length ≤ 800) :
    Fn w hd 215 [.ref pa] 2 ((pa, accO dx (List.toArray (its ++ [v])) ex) :: imm) (fun r news' => r = v ∧ ∃ e', news' = (pa, accO dx (List.toArray its) e') :: imm) := by
  unfold Fn
  intro p loose mean mg mb dp un gd env outer A₀ base h₀ L m s Q E B F X N T hf hk hdp hun ret
  refine wpAny_call ?_
  refine' ks_code_super (binds := [(Str.ofString "self", .ref pa)]) B F X N T rfl hf hk ?k6 ?k7 ?k8 ?k9 ?kB ?_ ?c1 ?c2 ?c3 ?c4
  case k6 => k_is
  case k7 => k_is
  case k8 => k_room
  case k9 => exact BindsTo.of_eq rfl
  case kB => exact locs rfl
  case c1 => decide
  case c2 => exact rfl
  case c3 => exact rfl
  case c4 => exact rfl
  intro g' L' h' FG' F' N' B' X' T' l1
  (try dsimp only)
  (try k_fold)
  obtain ⟨hsh, dn, tkd, tdi, hdx⟩ := hdx
  refine ks_wpAt_execs_cons (ks_wpAt_mono (Q := fun f s' => f = .next ∧ ∃ hh tk, s' = { s with heap := hh, toks := tk } ∧ Fr g' L' hh (fun y => List.lookup y [(Str.ofString "self", Value.ref pa)].reverse) ∧ News g' L' hh ((pa, accO dx (List.toArray (its ++ [v])) ex) :: imm)) ?first ?rest (fun _ _ e => e))
  case first =>
    refine ks_wpAt_If ?_
    refine wpAt_of_wpAny ?_
    have hne : ¬ ((its ++ [v]).length : Int) = 0 := by rw [List.length_append, List.length_singleton]; omega
    k_steps
    all_goals first
      | k_asm
      | (exact News.sub1 (by k_asm) (by intro p hp; simp only [List.mem_cons] at hp ⊢; rcases hp with rfl | hp <;> simp [*]))
      | trace_state
  case rest =>
    rintro f s' ⟨rfl, hh, tk, rfl, F9, N9⟩
    clear F' N'
    dsimp only
    refine ks_wpAt_execs_cons ?_
    refine ks_wpAt_Return_some ?_
    refine ks_wpAt_MethodCall ?_
    k_steps
    rename News _ _ _ _ => kN
    rename Fr _ _ _ _ => kF
    have hpm := kN (pa, accO dx (List.toArray (its ++ [v])) ex) (by k_mem)
    have himm : ∀ q ∈ imm, _ := fun q hq => kN q (by simp only [List.mem_cons, hq, or_true])
    refine' popB (News.get kN (by k_mem)) hpm.1 ?hsz ?hchk ?_
    case hsz => omega
    case hchk =>
      refine' chkPop kF X' (instAcc kN (by k_mem) (by k_mem)) ?c1 ?c2 ?c3 ?c4
      case c1 => k_is
      case c2 => k_is
      case c3 => k_is
      case c4 =>
        intro sig hsig
        rw [signature?_of (id := "list.pop") (n := ['p', 'o', 'p']) (o := ['t', 's', 'i', 'l']) (by kernel_rfl) PySem.F.owner_list] at hsig
        cases hsig
        kernel_rfl
    intro h8 n8 hs8 hx8
    have F8 := kF.change hs8 hpm.2.1 hpm.2.2
    have N8 : News g' L' h8 ((pa, accO dx (List.toArray its) n8) :: imm) := fun q hq => by
      rcases List.mem_cons.mp hq with rfl | hq
      · exact ⟨hx8, hpm.2⟩
      · exact ⟨hs8.extBut _ _ (hap q hq) (himm q hq).1, (himm q hq).2⟩
    clear kN kF hpm himm N9 F9
    dsimp only
    k_steps
    exact ret _ _ _ _ (by k_asm) (by k_asm) ⟨rfl, _, rfl⟩
end
section
theorem kwXD_0 : True := by
  w_top off
  k_with_none
  trivial

open PySem.Builtin PySem.Builtin.Str
theorem asgT {w : World} {A : Around} {E : Value → Shared → Prop} {s : Shared} {env : Env} {h₀ : Heap} {L : Addr} {m : Str → Option Value} {led : List (Addr × Obj)} {a b : Str} {pa pb tp : Pos} {kk : Nat} {T : Addr} {y1 y2 : Value} {e : Nat} {Q : Unit → Shared → Prop}
    (F : Fr h₀ L s.heap m) (N : News h₀ L s.heap led) (hT : (T, tupO y1 y2 e) ∈ led) (hH : HushIn A.handled led) (hL : env.locals = L) (ha : env.kindOf a = some .local) (hb : env.kindOf b = some .local) (hp : (env.scope.kind == .class || (env.scope.kind == .module && env.locals != env.globals)) = false)
    (h : ∀ h' tk', Fr h₀ L h' (fun z => if z = b then some y2 else if z = a then some y1 else m z) → News h₀ L h' led → Q () { s with heap := h', toks := tk' }) :
    wpAny (model pw w) A (assign (.Tuple [.Name a pa, .Name b pb] kk tp) env (.ref T)) Q E s := by
  subst hL
  obtain ⟨lc, Hc, _⟩ := hH.hush N
  refine assign2 Hc ⟨_, (N _ hT).1, rfl, _, rfl⟩ ha hb hp F.ns fun h' tk' hn' hk' => ?_
  exact h h' tk' (frUp F hn' hk') fun p hp => ⟨hk' _ _ (N p hp).2.1 (N p hp).1, (N p hp).2⟩
theorem HdAt.mono {news news' : List (Addr × Obj)} {ha hl : Addr} (h : HdAt news ha hl) (hs : ∀ p ∈ news, p ∈ news') : HdAt news' ha hl :=
  let ⟨dx, hsh, n, tk, h1, h2⟩ := h; ⟨dx, hsh, n, tk, hs _ h1, hs _ h2⟩
theorem SPairAt.mono {news news' : List (Addr × Obj)} {p : Str × Str} {x : Value} (h : SPairAt news p x) (hs : ∀ p ∈ news, p ∈ news') : SPairAt news' p x :=
  let ⟨t, e, t0, t1, h1, h2⟩ := h; ⟨t, e, t0, t1, h1, hs _ h2⟩
theorem rowsAt {imm news : List (Addr × Obj)} {hl : Addr} {rows : List (Str × Str)} {its : List Value} {e : Nat} (hR : Paired (SPairAt imm) rows its) (hm : (hl, listOf (List.toArray its) e) ∈ news) (hs : ∀ p ∈ imm, p ∈ news) : RowsAt news hl rows :=
  ⟨its, e, hm, hR.mono fun _ _ z => z.mono hs⟩
section
variable {w : World} {hd : Option Value} {p : Program} {loose : List Str} {mean : ExcName → Option Value} {mg mb : Str → Option Value} {dp un : Nat} {gd : Option (List Code)} {env : Env} {outer : List Env} {A₀ : Around} {base h₀ : Heap} {L : Addr} {m : Str → Option Value} {s : Shared} {Q E : Value → Shared → Prop}
theorem pop_use {pa dx : Addr} {its : List Value} {v : Value} {ex : Nat} {imm : List (Addr × Obj)} (hdx : PdAt imm dx) (hap : ∀ p ∈ imm, p.1 ≠ pa) (hln : its.length ≤ 800)
    (B : Below A₀ base outer h₀) (F : Fr h₀ L s.heap m) (X : (heapK w.params).In h₀) (N : News h₀ L s.heap ((pa, accO dx (List.toArray (its ++ [v])) ex) :: imm)) (T : Top p loose mean mg mb h₀) (hf : env.frame = some L) (hk : env.scope.kind = .function) (hdp : dp + 2 < recursionLimit) (hun : un + 8 * 2 < cLine)
    (ret : ∀ e' h' tk', Fr h₀ L h' m → News h₀ L h' ((pa, accO dx (List.toArray its) e') :: imm) → Q v { s with heap := h', toks := tk' }) :
    wpAny (model pw w) (topA hd dp un gd env outer) (call (.ref 215) [.ref pa]) Q E s :=
  Fn.use (pop_fn w hd pa dx its v ex imm hdx hap hln) B F X N T hf hk hdp hun fun r news' h' tk' F' N' ⟨e1, e', e2⟩ => by subst e1 e2; exact ret e' h' tk' F' N'
theorem push_use {pa dx : Addr} {its : List Value} {ex : Nat} {x v : Str} {tk tv : Tok} {imm : List (Addr × Obj)} (hdx : PdAt imm dx) (hap : ∀ p ∈ imm, p.1 ≠ pa) (hln : its.length ≤ 900)
    (B : Below A₀ base outer h₀) (F : Fr h₀ L s.heap m) (X : (heapK w.params).In h₀) (N : News h₀ L s.heap ((pa, accO dx (List.toArray its) ex) :: imm)) (T : Top p loose mean mg mb h₀) (hf : env.frame = some L) (hk : env.scope.kind = .function) (hdp : dp + 1 < recursionLimit) (hun : un + 8 * 1 < cLine)
    (ret : ∀ T' h' tk', Fr h₀ L h' m → News h₀ L h' ((pa, accO dx (List.toArray (its ++ [.ref T'])) (ex + 1)) :: (T', tupO (.str x tk) (.str v tv) 0) :: imm) → T' ≠ pa → Q .none { s with heap := h', toks := tk' }) :
    wpAny (model pw w) (topA hd dp un gd env outer) (call (.ref 199) [.ref pa, .str x tk, .str v tv]) Q E s :=
  Fn.use (push_fn w hd pa dx its ex x v tk tv imm hdx hap hln) B F X N T hf hk hdp hun fun r news' h' tk' F' N' ⟨e1, T', e2, hne⟩ => by subst e1 e2; exact ret T' h' tk' F' N' hne
theorem get_use {ha hl : Addr} {rows : List (Str × Str)} {x d : Str} {tk td : Tok} {news : List (Addr × Obj)} (hHu : HushIn hd news) (hH : HdAt news ha hl) (hR : RowsAt news hl rows) (hx : NmOk x) (hrows : ∀ r ∈ rows, tooLong (Txt.lower r.1).length = false)
    (B : Below A₀ base outer h₀) (F : Fr h₀ L s.heap m) (X : (heapK w.params).In h₀) (N : News h₀ L s.heap news) (T : Top p loose mean mg mb h₀) (hf : env.frame = some L) (hk : env.scope.kind = .function) (hdp : dp + 2 < recursionLimit) (hun : un + 8 * 2 < cLine)
    (ret : ∀ t h' tk', Fr h₀ L h' m → News h₀ L h' news → Q (.str (tget rows (Txt.lower x) d) t) { s with heap := h', toks := tk' }) :
    wpAny (model pw w) (topA hd dp un gd env outer) (call (.ref 118) [.ref ha, .str x tk, .str d td]) Q E s :=
  Fn.str (get_fn w hd ha hl rows x d tk td news hHu hH hR hx hrows) B F X N T hf hk hdp hun ret
theorem set_use {ha hl : Addr} {rows : List (Str × Str)} {its : List Value} {ex : Nat} {x v : Str} {tk tv : Tok} {imm : List (Addr × Obj)} (hHu : HushIn hd imm) (hH : HdAt imm ha hl) (hR : Paired (SPairAt imm) rows its) (hap : ∀ p ∈ imm, p.1 ≠ hl) (hx : NmOk x) (hv : cleanIn code2 v = true) (hvz : v.cps.size ≤ 1000) (hrows : ∀ r ∈ rows, tooLong (Txt.lower r.1).length = false) (hln : rows.length ≤ 900)
    (B : Below A₀ base outer h₀) (F : Fr h₀ L s.heap m) (X : (heapK w.params).In h₀) (N : News h₀ L s.heap ((hl, listOf (List.toArray its) ex) :: imm)) (T : Top p loose mean mg mb h₀) (hf : env.frame = some L) (hk : env.scope.kind = .function) (hdp : dp + 3 < recursionLimit) (hun : un + 8 * 3 < cLine)
    (ret : ∀ its' e' T' h' tk', Fr h₀ L h' m → News h₀ L h' ((hl, listOf (List.toArray its') e') :: (T', tupO (.str x tk) (.str v tv) 0) :: imm) → T' ≠ hl → Paired (SPairAt ((T', tupO (.str x tk) (.str v tv) 0) :: imm)) (rows.filter (fun r => !(Txt.lower r.1 == Txt.lower x)) ++ [(x, v)]) its' → Q .none { s with heap := h', toks := tk' }) :
    wpAny (model pw w) (topA hd dp un gd env outer) (call (.ref 84) [.ref ha, .str x tk, .str v tv]) Q E s :=
  Fn.use (set_fn w hd ha hl rows its ex x v tk tv imm hHu hH hR hap hx hv hvz hrows hln) B F X N T hf hk hdp hun fun r news' h' tk' F' N' ⟨e1, its', e', T', e2, hne, hP⟩ => by subst e1 e2; exact ret its' e' T' h' tk' F' N' hne hP
theorem led_ne {h₀ h : Heap} {L a b : Addr} {o1 o2 : Obj} {led : List (Addr × Obj)} (N : News h₀ L h led) (h1 : (a, o1) ∈ led) (h2 : (b, o2) ∈ led) (hc : o1.cls ≠ o2.cls) : a ≠ b := by
  rintro rfl
  have := (N _ h1).1.symm.trans (N _ h2).1
  cases this
  exact hc rfl
theorem set_use3 {ha hl pa T1 : Addr} {po o1 : Obj} {rows : List (Str × Str)} {its : List Value} {ex : Nat} {x v : Str} {tk tv : Tok} {imm : List (Addr × Obj)} (hHu : HushIn hd imm) (hH : HdAt imm ha hl) (hR : Paired (SPairAt imm) rows its) (hap : ∀ p ∈ imm, p.1 ≠ hl) (hx : NmOk x) (hv : cleanIn code2 v = true) (hvz : v.cps.size ≤ 1000) (hrows : ∀ r ∈ rows, tooLong (Txt.lower r.1).length = false) (hln : rows.length ≤ 900)
    (B : Below A₀ base outer h₀) (F : Fr h₀ L s.heap m) (X : (heapK w.params).In h₀) (N : News h₀ L s.heap ((pa, po) :: (T1, o1) :: (hl, listOf (List.toArray its) ex) :: imm)) (hpa : pa ≠ hl) (hc1 : o1.cls ≠ .type "list") (hcp : po.cls ≠ .type "tuple") (T : Top p loose mean mg mb h₀) (hf : env.frame = some L) (hk : env.scope.kind = .function) (hdp : dp + 3 < recursionLimit) (hun : un + 8 * 3 < cLine)
    (ret : ∀ its' e' T' h' tk', Fr h₀ L h' m → News h₀ L h' ((pa, po) :: (hl, listOf (List.toArray its') e') :: (T', tupO (.str x tk) (.str v tv) 0) :: (T1, o1) :: imm) → T' ≠ hl → T1 ≠ hl → Paired (SPairAt ((T', tupO (.str x tk) (.str v tv) 0) :: (T1, o1) :: imm)) (rows.filter (fun r => !(Txt.lower r.1 == Txt.lower x)) ++ [(x, v)]) its' → Q .none { s with heap := h', toks := tk' }) :
    wpAny (model pw w) (topA hd dp un gd env outer) (call (.ref 84) [.ref ha, .str x tk, .str v tv]) Q E s := by
  have hT1 : T1 ≠ hl := led_ne N (by simp) (by simp) (b := hl) (o2 := listOf (List.toArray its) ex) hc1
  have sub : ∀ q ∈ imm, q ∈ (pa, po) :: (T1, o1) :: imm := fun q hq => by simp [hq]
  refine set_use (ex := ex) (imm := (pa, po) :: (T1, o1) :: imm) (hHu.mono sub) (hH.mono sub) (hR.mono fun _ _ z => z.mono sub) (fun q hq => ?_) hx hv hvz hrows hln B F X (fun q hq => N q ?_) T hf hk hdp hun fun its' e' T' h' tk' F' N' hne hP => ?_
  · simp only [List.mem_cons] at hq
    rcases hq with rfl | rfl | hq
    · exact hpa
    · exact hT1
    · exact hap q hq
  · simp only [List.mem_cons] at hq ⊢
    rcases hq with h | h | h | h <;> simp [h]
  · refine ret its' e' T' h' tk' F' (fun q hq => N' q ?_) hne hT1 ?_
    · simp only [List.mem_cons] at hq ⊢
      rcases hq with h | h | h | h | h <;> simp [h]
    · refine hP.mono fun _ _ ⟨t, e, t0, t1, z1, z2⟩ => ⟨t, e, t0, t1, z1, ?_⟩
      simp only [List.mem_cons] at z2 ⊢
      rcases z2 with z | z | z | z
      · exact .inl z
      · cases z; exact absurd rfl hcp
      · exact .inr (.inl z)
      · exact .inr (.inr z)
end
end
section
theorem kwXD2_0 : True := by
  w_top off
  k_with_none
  trivial

open PySem.Builtin PySem.Builtin.Str

section
variable {w : World} {hd : Option Value} {p : Program} {loose : List Str} {mean : ExcName → Option Value} {mg mb : Str → Option Value} {dp un : Nat} {gd : Option (List Code)} {env : Env} {outer : List Env} {A₀ : Around} {base h₀ : Heap} {L : Addr} {m : Str → Option Value} {s : Shared} {Q E : Value → Shared → Prop}
theorem kwXD2_1 : True := by
  k_with "inst" =>
    exact instAcc (by k_asm) (by k_mem) (by k_mem)
  k_with "getMethod ref" =>
    (
      k_here
      k_dflt (refine' methL_fn ?F ?X ?I ?ga ?gk ?hf ?ht ?hs ?_; (case F => k_asm); (case X => k_asm); (case I => exact instAcc (by k_asm) (by k_mem) (by k_mem)); (case ga => k_is); (case gk => k_is); (case hf => k_is); (case ht => k_is); (case hs => rfl)))
  k_with "assign Tuple" =>
    (
      k_here
      k_dflt (refine' asgT ?F ?N ?hT ?hH ?hL ?ha ?hb ?hp ?_; (case F => k_asm); (case N => k_asm); (case hT => k_mem); (case hH => exact HushIn.mono (by assumption) (by intro _ hp; simp only [List.mem_cons, hp, or_true])); (case hL => exact rfl); (case ha => exact rfl); (case hb => exact rfl); (case hp => exact rfl); intro _ _ _ _; (try dsimp only); (try k_fold)))
  k_with "call ref" =>
    (
      k_here
      (with_reducible show wpAny _ _ (call (Value.ref 215) _ _) _ _ _)
      k_dflt (
      refine' pop_use ?ka ?kb ?kc ?k3 ?k4 ?k5 ?k6 ?k7 ?k8 ?k9 ?kd ?ku ?_
      (case k3 => k_asm); (case k4 => k_asm); (case k5 => k_asm); (case k6 => k_asm); (case k7 => k_asm); (case k8 => exact rfl); (case k9 => exact rfl)
      (case ka => exact ⟨_, _, _, _, by k_mem⟩)
      (case kb => assumption)
      (case kc => omega)
      (case kd => (simp only [Tm.size, depth_deeper, recursionLimit] at *; (try dsimp only [topA] at *); omega))
      (case ku => (simp only [Tm.size, units_deeper, cLine] at *; (try dsimp only [topA] at *); omega))
      intro _ _ _ _ _; (try dsimp only); (try k_fold)))
  k_with "call ref" =>
    (
      k_here
      (with_reducible show wpAny _ _ (call (Value.ref 118) _ _) _ _ _)
      k_dflt (
      refine' get_use (rows := _) ?ka ?kb ?kc ?ke ?kg ?k3 ?k4 ?k5 ?k6 ?k7 ?k8 ?k9 ?kd ?ku ?_
      (case k3 => k_asm); (case k4 => k_asm); (case k5 => k_asm); (case k6 => k_asm); (case k7 => k_asm); (case k8 => exact rfl); (case k9 => exact rfl)
      (case ka => exact HushIn.mono (by assumption) (by intro p hp; simp only [List.mem_cons, hp, or_true]))
      (case kb => exact HdAt.mono (by assumption) (by intro p hp; simp only [List.mem_cons, hp, or_true]))
      (case kc => (refine' rowsAt ?za ?zb ?zc; (case za => assumption); (case zb => k_mem); (case zc => (intro p hp; simp only [List.mem_cons, hp, or_true]))))
      (case ke => assumption)
      (case kg => assumption)
      (case kd => (simp only [Tm.size, depth_deeper, recursionLimit] at *; (try dsimp only [topA] at *); omega))
      (case ku => (simp only [Tm.size, units_deeper, cLine] at *; (try dsimp only [topA] at *); omega))
      intro _ _ _ _ _; (try dsimp only); (try k_fold)))
  k_with "call ref" =>
    (
      k_here
      (with_reducible show wpAny _ _ (call (Value.ref 199) _ _) _ _ _)
      k_dflt (
      refine' push_use ?ka ?kb ?kc ?k3 ?k4 ?k5 ?k6 ?k7 ?k8 ?k9 ?kd ?ku ?_
      (case k3 => k_asm); (case k4 => k_asm); (case k5 => k_asm); (case k6 => k_asm); (case k7 => k_asm); (case k8 => exact rfl); (case k9 => exact rfl)
      (case ka => exact ⟨_, _, _, _, by k_mem⟩)
      (case kb => assumption)
      (case kc => omega)
      (case kd => (simp only [Tm.size, depth_deeper, recursionLimit] at *; (try dsimp only [topA] at *); omega))
      (case ku => (simp only [Tm.size, units_deeper, cLine] at *; (try dsimp only [topA] at *); omega))
      intro _ _ _ _ _ _; (try dsimp only); (try k_fold)))
  trivial
theorem set_use2 {ha hl pa : Addr} {po : Obj} {rows : List (Str × Str)} {its : List Value} {ex : Nat} {x v : Str} {tk tv : Tok} {imm : List (Addr × Obj)} (hHu : HushIn hd imm) (hH : HdAt imm ha hl) (hR : Paired (SPairAt imm) rows its) (hap : ∀ p ∈ imm, p.1 ≠ hl) (hx : NmOk x) (hv : cleanIn code2 v = true) (hvz : v.cps.size ≤ 1000) (hrows : ∀ r ∈ rows, tooLong (Txt.lower r.1).length = false) (hln : rows.length ≤ 900)
    (B : Below A₀ base outer h₀) (F : Fr h₀ L s.heap m) (X : (heapK w.params).In h₀) (N : News h₀ L s.heap ((pa, po) :: (hl, listOf (List.toArray its) ex) :: imm)) (hpa : pa ≠ hl) (hcp : po.cls ≠ .type "tuple") (T : Top p loose mean mg mb h₀) (hf : env.frame = some L) (hk : env.scope.kind = .function) (hdp : dp + 3 < recursionLimit) (hun : un + 8 * 3 < cLine)
    (ret : ∀ its' e' T' h' tk', Fr h₀ L h' m → News h₀ L h' ((pa, po) :: (hl, listOf (List.toArray its') e') :: (T', tupO (.str x tk) (.str v tv) 0) :: imm) → T' ≠ hl → T' ≠ pa → Paired (SPairAt ((T', tupO (.str x tk) (.str v tv) 0) :: imm)) (rows.filter (fun r => !(Txt.lower r.1 == Txt.lower x)) ++ [(x, v)]) its' → Q .none { s with heap := h', toks := tk' }) :
    wpAny (model pw w) (topA hd dp un gd env outer) (call (.ref 84) [.ref ha, .str x tk, .str v tv]) Q E s := by
  have sub : ∀ q ∈ imm, q ∈ (pa, po) :: imm := fun q hq => by simp [hq]
  refine set_use (ex := ex) (imm := (pa, po) :: imm) (hHu.mono sub) (hH.mono sub) (hR.mono fun _ _ z => z.mono sub) (fun q hq => ?_) hx hv hvz hrows hln B F X (fun q hq => N q ?_) T hf hk hdp hun fun its' e' T' h' tk' F' N' hne hP => ?_
  · simp only [List.mem_cons] at hq
    rcases hq with rfl | hq
    · exact hpa
    · exact hap q hq
  · simp only [List.mem_cons] at hq ⊢
    rcases hq with h | h | h <;> simp [h]
  · refine ret its' e' T' h' tk' F' (fun q hq => N' q ?_) hne ?_ ?_
    · simp only [List.mem_cons] at hq ⊢
      rcases hq with h | h | h | h <;> simp [h]
    · exact led_ne N' (a := T') (o1 := tupO (.str x tk) (.str v tv) 0) (b := pa) (o2 := po) (by simp) (by simp) (Ne.symm hcp)
    · refine hP.mono fun _ _ ⟨t, e, t0, t1, z1, z2⟩ => ⟨t, e, t0, t1, z1, ?_⟩
      simp only [List.mem_cons] at z2 ⊢
      rcases z2 with z | z | z
      · exact .inl z
      · cases z; exact absurd rfl hcp
      · exact .inr z
theorem del_use2 {ha hl pa : Addr} {po : Obj} {rows : List (Str × Str)} {its : List Value} {ex : Nat} {x : Str} {tk : Tok} {imm : List (Addr × Obj)} (hHu : HushIn hd imm) (hH : HdAt imm ha hl) (hR : Paired (SPairAt imm) rows its) (hap : ∀ p ∈ imm, p.1 ≠ hl) (hx : NmOk x) (hrows : ∀ r ∈ rows, tooLong (Txt.lower r.1).length = false) (hln : rows.length ≤ 1000)
    (B : Below A₀ base outer h₀) (F : Fr h₀ L s.heap m) (X : (heapK w.params).In h₀) (N : News h₀ L s.heap ((pa, po) :: (hl, listOf (List.toArray its) ex) :: imm)) (hpa : pa ≠ hl) (hcp : po.cls ≠ .type "tuple") (T : Top p loose mean mg mb h₀) (hf : env.frame = some L) (hk : env.scope.kind = .function) (hdp : dp + 2 < recursionLimit) (hun : un + 8 * 2 < cLine)
    (ret : ∀ its' e' h' tk', Fr h₀ L h' m → News h₀ L h' ((pa, po) :: (hl, listOf (List.toArray its') e') :: imm) → Paired (SPairAt imm) (rows.filter fun r => !(Txt.lower r.1 == Txt.lower x)) its' → Q .none { s with heap := h', toks := tk' }) :
    wpAny (model pw w) (topA hd dp un gd env outer) (call (.ref 89) [.ref ha, .str x tk]) Q E s := by
  have sub : ∀ q ∈ imm, q ∈ (pa, po) :: imm := fun q hq => by simp [hq]
  refine del_use (ex := ex) (imm := (pa, po) :: imm) (hHu.mono sub) (hH.mono sub) (hR.mono fun _ _ z => z.mono sub) (fun q hq => ?_) hx hrows hln B F X (fun q hq => N q ?_) T hf hk hdp hun fun its' e' h' tk' F' N' hP => ?_
  · simp only [List.mem_cons] at hq
    rcases hq with rfl | hq
    · exact hpa
    · exact hap q hq
  · simp only [List.mem_cons] at hq ⊢
    rcases hq with h | h | h <;> simp [h]
  · refine ret its' e' h' tk' F' (fun q hq => N' q ?_) ?_
    · simp only [List.mem_cons] at hq ⊢
      rcases hq with h | h | h <;> simp [h]
    · refine hP.mono fun _ _ ⟨t, e, t0, t1, z1, z2⟩ => ⟨t, e, t0, t1, z1, ?_⟩
      simp only [List.mem_cons] at z2
      rcases z2 with z | z
      · cases z; exact absurd rfl hcp
      · exact z
end
end
section
open PySem.Builtin PySem.Builtin.Str
inductive Ln where
  | num (n : Int)
  | nam (p : Int)
  | get
  | less
  | set
  | fin
def Ln.str : Ln → Str
  | .num n => Str.ofString "229 it is (|||" ++ showI n ++ Str.ofString "|)"
  | .nam p => saidStr p.toNat
  | .get => Str.ofString "200 get"
  | .less => Str.ofString "200 less"
  | .set => Str.ofString "200 set"
  | .fin => Str.ofString "200 end"
inductive It where
  | val (n : Int)
  | nm (p : Int)
  | old (p : Int) (v : Option Int)
def oldS : Option Int → Str
  | none => Str.ofString ""
  | some n => showI n
def It.pr : It → Str × Str
  | .val n => (Str.ofString "", showI n)
  | .nm p => (nameStr p.toNat, Str.ofString "")
  | .old p v => (nameStr p.toNat, oldS v)
inductive Rw where
  | kv (p n : Int)
  | other
def Rw.pr : Rw → Str × Str
  | .kv p n => (nameStr p.toNat, showI n)
  | .other => (Str.ofString "Other", Str.ofString "kept")
def Rw.at : Rw → Int → Bool
  | .kv p _, k => p / 2 == k
  | .other, _ => false
def lk : List Rw → Int → Option Int
  | [], _ => none
  | .kv p n :: r, k => if p / 2 = k then some n else lk r k
  | .other :: r, k => lk r k
def off (rows : List Rw) (k : Int) : List Rw := rows.filter fun r => !r.at k
def n97 (n : Int) : Prop := 0 ≤ n ∧ n < 97
def p6 (p : Int) : Prop := 0 ≤ p ∧ p < 6
def It.ok : It → Prop
  | .val n => n97 n
  | .nm p => p6 p
  | .old p v => p6 p ∧ ∀ n, v = some n → n97 n
def Rw.ok : Rw → Prop
  | .kv p n => p6 p ∧ n97 n
  | .other => True
inductive Step : Ln → List It → List Rw → List It → List Rw → Prop where
  | num {n st rows} : n97 n → Step (.num n) st rows (.val n :: st) rows
  | nam {p st rows} : p6 p → Step (.nam p) st rows (.nm p :: st) rows
  | get {p st rows} : Step .get (.nm p :: st) rows (.val ((lk rows (p / 2)).getD 7) :: st) rows
  | less {a b st rows} : Step .less (.val b :: .val a :: st) rows (.val ((a - b) % 97) :: st) rows
  | set {p n st rows} : Step .set (.nm p :: .val n :: st) rows (.old p (lk rows (p / 2)) :: st) (off rows (p / 2) ++ [.kv p n])
  | fin0 {p n st rows} : Step .fin (.val n :: .old p none :: st) rows (.val n :: st) (off rows (p / 2))
  | fin1 {p n v st rows} : Step .fin (.val n :: .old p (some v) :: st) rows (.val n :: st) (off rows (p / 2) ++ [.kv p v])
theorem lk_ok : ∀ {rows : List Rw} {k n : Int}, (∀ r ∈ rows, r.ok) → lk rows k = some n → n97 n
  | [], _, _, _, h => by cases h
  | .kv p m :: r, k, n, hr, h => by
    unfold lk at h
    split at h
    · cases h; exact (hr (.kv p m) List.mem_cons_self).2
    · exact lk_ok (fun x hx => hr x (List.mem_cons_of_mem _ hx)) h
  | .other :: r, k, n, hr, h => by
    unfold lk at h
    exact lk_ok (fun x hx => hr x (List.mem_cons_of_mem _ hx)) h
theorem off_ok {rows : List Rw} {k : Int} (hr : ∀ r ∈ rows, r.ok) : ∀ r ∈ off rows k, r.ok := fun r h => hr r (List.mem_filter.mp h).1
theorem off_le (rows : List Rw) (k : Int) : (off rows k).length ≤ rows.length := List.length_filter_le ..
theorem Step.ok {l : Ln} {st rows st' rows'} (h : Step l st rows st' rows') (hs : ∀ i ∈ st, i.ok) (hr : ∀ r ∈ rows, r.ok) : (∀ i ∈ st', i.ok) ∧ (∀ r ∈ rows', r.ok) ∧ rows'.length ≤ rows.length + 1 ∧ st'.length ≤ st.length + 1 := by
  cases h with
  | num h => exact ⟨List.forall_mem_cons.mpr ⟨h, hs⟩, hr, by omega, by simp⟩
  | nam h => exact ⟨List.forall_mem_cons.mpr ⟨h, hs⟩, hr, by omega, by simp⟩
  | get =>
    refine ⟨List.forall_mem_cons.mpr ⟨?_, (List.forall_mem_cons.mp hs).2⟩, hr, by omega, by simp⟩
    cases e : lk rows _ with
    | none => exact ⟨by decide, by decide⟩
    | some n => exact lk_ok hr e
  | less => exact ⟨List.forall_mem_cons.mpr ⟨⟨Int.emod_nonneg _ (by decide), Int.emod_lt_of_pos _ (by decide)⟩, (List.forall_mem_cons.mp (List.forall_mem_cons.mp hs).2).2⟩, hr, by omega, by simp⟩
  | set =>
    have h1 := (List.forall_mem_cons.mp hs)
    have h2 := (List.forall_mem_cons.mp h1.2)
    refine ⟨List.forall_mem_cons.mpr ⟨⟨h1.1, fun n e => lk_ok hr e⟩, h2.2⟩, fun r hm => ?_, ?_, by simp⟩
    · rcases List.mem_append.mp hm with hm | hm
      · exact off_ok hr r hm
      · rw [List.mem_singleton] at hm; subst hm; exact ⟨h1.1, h2.1⟩
    · rw [List.length_append, List.length_singleton]; have := off_le rows; simp only [Nat.add_le_add_iff_right]; exact this _
  | fin0 =>
    have h1 := (List.forall_mem_cons.mp hs)
    have h2 := (List.forall_mem_cons.mp h1.2)
    exact ⟨List.forall_mem_cons.mpr ⟨h1.1, h2.2⟩, off_ok hr, Nat.le_succ_of_le (off_le _ _), by simp⟩
  | fin1 =>
    have h1 := (List.forall_mem_cons.mp hs)
    have h2 := (List.forall_mem_cons.mp h1.2)
    refine ⟨List.forall_mem_cons.mpr ⟨h1.1, h2.2⟩, fun r hm => ?_, ?_, by simp⟩
    · rcases List.mem_append.mp hm with hm | hm
      · exact off_ok hr r hm
      · rw [List.mem_singleton] at hm; subst hm; exact ⟨h2.1.1, h2.1.2 _ rfl⟩
    · rw [List.length_append, List.length_singleton]; have := off_le rows; simp only [Nat.add_le_add_iff_right]; exact this _
theorem p6_cases {P : Int → Prop} (h : ∀ q < 6, P (q : Nat)) {p : Int} (hp : p6 p) : P p := by
  obtain ⟨k, rfl⟩ := Int.eq_ofNat_of_zero_le hp.1
  exact h k (by have := hp.2; omega)
theorem n97_cases {P : Int → Prop} (h : ∀ q < 97, P (q : Nat)) {p : Int} (hp : n97 p) : P p := by
  obtain ⟨k, rfl⟩ := Int.eq_ofNat_of_zero_le hp.1
  exact h k (by have := hp.2; omega)
theorem low_name : ∀ q < 6, ∀ p < 6, (Txt.lower (nameStr q) = Txt.lower (nameStr p)) ↔ ((q : Int) / 2 = (p : Int) / 2) := by decide +kernel
theorem low_other : ∀ p < 6, ¬ Txt.lower (Str.ofString "Other") = Txt.lower (nameStr p) := by decide +kernel
theorem low_iff {q p : Int} (hq : p6 q) (hp : p6 p) : (Txt.lower (nameStr q.toNat) = Txt.lower (nameStr p.toNat)) ↔ q / 2 = p / 2 :=
  p6_cases (P := fun q => (Txt.lower (nameStr q.toNat) = Txt.lower (nameStr p.toNat)) ↔ q / 2 = p / 2) (fun k hk => p6_cases (P := fun p => (Txt.lower (nameStr (k : Int).toNat) = Txt.lower (nameStr p.toNat)) ↔ (k : Int) / 2 = p / 2) (fun j hj => low_name k hk j hj) hp) hq
theorem low_no {p : Int} (hp : p6 p) : ¬ Txt.lower (Str.ofString "Other") = Txt.lower (nameStr p.toNat) := p6_cases (P := fun p => ¬ Txt.lower (Str.ofString "Other") = Txt.lower (nameStr p.toNat)) low_other hp
theorem at_iff {r : Rw} {p : Int} (hr : r.ok) (hp : p6 p) : (Txt.lower r.pr.1 == Txt.lower (nameStr p.toNat)) = r.at (p / 2) := by
  cases r with
  | kv q n => 
    show (Txt.lower (nameStr q.toNat) == Txt.lower (nameStr p.toNat)) = (q / 2 == p / 2)
    rw [Bool.eq_iff_iff, beq_iff_eq, beq_iff_eq]; exact low_iff hr.1 hp
  | other => exact beq_eq_false_iff_ne.mpr (low_no hp)
theorem filter_pr {rows : List Rw} {p : Int} (hr : ∀ r ∈ rows, r.ok) (hp : p6 p) : (rows.map Rw.pr).filter (fun r => !(Txt.lower r.1 == Txt.lower (nameStr p.toNat))) = (off rows (p / 2)).map Rw.pr := by
  rw [List.filter_map]
  congr 1
  exact List.filter_congr fun r hm => by rw [Function.comp, at_iff (hr r hm) hp]
theorem tget_pr {p : Int} {d : Str} (hp : p6 p) : ∀ {rows : List Rw}, (∀ r ∈ rows, r.ok) → tget (rows.map Rw.pr) (Txt.lower (nameStr p.toNat)) d = match lk rows (p / 2) with | some n => showI n | none => d
  | [], _ => rfl
  | .kv q n :: r, hr => by
    have ih := tget_pr (d := d) hp (rows := r) fun x hx => hr x (List.mem_cons_of_mem _ hx)
    show (if Txt.lower (nameStr q.toNat) = Txt.lower (nameStr p.toNat) then showI n else tget (r.map Rw.pr) (Txt.lower (nameStr p.toNat)) d) = _
    rw [lk]
    by_cases h : q / 2 = p / 2
    · rw [if_pos h, if_pos ((low_iff (hr (.kv q n) List.mem_cons_self).1 hp).mpr h)]
    · rw [if_neg h, if_neg fun z => h ((low_iff (hr (.kv q n) List.mem_cons_self).1 hp).mp z), ih]
  | .other :: r, hr => by
    have ih := tget_pr (d := d) hp (rows := r) fun x hx => hr x (List.mem_cons_of_mem _ hx)
    show (if Txt.lower (Str.ofString "Other") = Txt.lower (nameStr p.toNat) then _ else tget (r.map Rw.pr) (Txt.lower (nameStr p.toNat)) d) = _
    rw [lk, if_neg (low_no hp), ih]
theorem name_ok0 : ∀ p < 6, tooLong (Txt.lower (nameStr p)).length = false ∧ cleanIn code1 (Txt.lower (nameStr p)) = true ∧ (Txt.lower (nameStr p)).cps.size ≤ 1000 ∧ cleanIn code1 (nameStr p) = true ∧ (nameStr p).cps.size ≤ 1000 := by decide +kernel
theorem name_ok {p : Int} (hp : p6 p) : NmOk (nameStr p.toNat) := by
  obtain ⟨a, b, c, d, e⟩ := p6_cases (P := fun p => tooLong (Txt.lower (nameStr p.toNat)).length = false ∧ cleanIn code1 (Txt.lower (nameStr p.toNat)) = true ∧ (Txt.lower (nameStr p.toNat)).cps.size ≤ 1000 ∧ cleanIn code1 (nameStr p.toNat) = true ∧ (nameStr p.toNat).cps.size ≤ 1000) name_ok0 hp
  exact ⟨a, b, c, d, e⟩
theorem show_ok0 : ∀ n < 97, cleanIn code2 (showI (n : Nat)) = true ∧ (showI (n : Nat)).cps.size ≤ 1000 ∧ ¬ showI (n : Nat) = Str.ofString "" := by decide +kernel
theorem show_ok {n : Int} (hn : n97 n) : cleanIn code2 (showI n) = true ∧ (showI n).cps.size ≤ 1000 ∧ ¬ showI n = Str.ofString "" := n97_cases (P := fun n => cleanIn code2 (showI n) = true ∧ (showI n).cps.size ≤ 1000 ∧ ¬ showI n = Str.ofString "") show_ok0 hn
theorem row_ok {rows : List Rw} (hr : ∀ r ∈ rows, r.ok) : ∀ r ∈ rows.map Rw.pr, tooLong (Txt.lower r.1).length = false := by
  intro r hm
  obtain ⟨x, hx, rfl⟩ := List.mem_map.mp hm
  cases x with
  | kv q n => exact (name_ok (hr _ hx).1).llen
  | other => decide +kernel
end
section
theorem kwXF16_0 : True := by
  w_top off
  k_with_none
  trivial

open PySem.Builtin PySem.Builtin.Str
theorem kwXF16_1 : True := by
  k_with "inst" =>
    exact instAcc (by k_asm) (by k_mem) (by k_mem)
  k_with "getMethod ref" =>
    (
      k_here
      k_dflt (refine' methL_fn ?F ?X ?I ?ga ?gk ?hf ?ht ?hs ?_; (case F => k_asm); (case X => k_asm); (case I => exact instAcc (by k_asm) (by k_mem) (by k_mem)); (case ga => k_is); (case gk => k_is); (case hf => k_is); (case ht => k_is); (case hs => rfl)))
  k_with "assign Tuple" =>
    (
      k_here
      k_dflt (refine' asgT ?F ?N ?hT ?hH ?hL ?ha ?hb ?hp ?_; (case F => k_asm); (case N => k_asm); (case hT => k_mem); (case hH => exact HushIn.mono (by assumption) (by intro _ hp; simp only [List.mem_cons, hp, or_true])); (case hL => exact rfl); (case ha => exact rfl); (case hb => exact rfl); (case hp => exact rfl); intro _ _ _ _; (try dsimp only); (try k_fold)))
  k_with "call ref" =>
    (
      k_here
      (with_reducible show wpAny _ _ (call (Value.ref 215) _ _) _ _ _)
      k_dflt (
      refine' pop_use ?ka ?kb ?kc ?k3 ?k4 ?k5 ?k6 ?k7 ?k8 ?k9 ?kd ?ku ?_
      (case k3 => k_asm); (case k4 => k_asm); (case k5 => k_asm); (case k6 => k_asm); (case k7 => k_asm); (case k8 => exact rfl); (case k9 => exact rfl)
      (case ka => exact ⟨_, _, _, _, by k_mem⟩)
      (case kb => assumption)
      (case kc => omega)
      (case kd => (simp only [Tm.size, depth_deeper, recursionLimit] at *; (try dsimp only [topA] at *); omega))
      (case ku => (simp only [Tm.size, units_deeper, cLine] at *; (try dsimp only [topA] at *); omega))
      intro _ _ _ _ _; (try dsimp only); (try k_fold)))
  k_with "call ref" =>
    (
      k_here
      (with_reducible show wpAny _ _ (call (Value.ref 118) _ _) _ _ _)
      k_dflt (
      refine' get_use (rows := _) ?ka ?kb ?kc ?ke ?kg ?k3 ?k4 ?k5 ?k6 ?k7 ?k8 ?k9 ?kd ?ku ?_
      (case k3 => k_asm); (case k4 => k_asm); (case k5 => k_asm); (case k6 => k_asm); (case k7 => k_asm); (case k8 => exact rfl); (case k9 => exact rfl)
      (case ka => exact HushIn.mono (by assumption) (by intro p hp; simp only [List.mem_cons, hp, or_true]))
      (case kb => exact HdAt.mono (by assumption) (by intro p hp; simp only [List.mem_cons, hp, or_true]))
      (case kc => (refine' rowsAt ?za ?zb ?zc; (case za => assumption); (case zb => k_mem); (case zc => (intro p hp; simp only [List.mem_cons, hp, or_true]))))
      (case ke => assumption)
      (case kg => assumption)
      (case kd => (simp only [Tm.size, depth_deeper, recursionLimit] at *; (try dsimp only [topA] at *); omega))
      (case ku => (simp only [Tm.size, units_deeper, cLine] at *; (try dsimp only [topA] at *); omega))
      intro _ _ _ _ _; (try dsimp only); (try k_fold)))
  k_with "call ref" =>
    (
      k_here
      (with_reducible show wpAny _ _ (call (Value.ref 199) _ _) _ _ _)
      k_dflt (
      refine' push_use ?ka ?kb ?kc ?k3 ?k4 ?k5 ?k6 ?k7 ?k8 ?k9 ?kd ?ku ?_
      (case k3 => k_asm); (case k4 => k_asm); (case k5 => k_asm); (case k6 => k_asm); (case k7 => k_asm); (case k8 => exact rfl); (case k9 => exact rfl)
      (case ka => exact ⟨_, _, _, _, by k_mem⟩)
      (case kb => assumption)
      (case kc => omega)
      (case kd => (simp only [Tm.size, depth_deeper, recursionLimit] at *; (try dsimp only [topA] at *); omega))
      (case ku => (simp only [Tm.size, units_deeper, cLine] at *; (try dsimp only [topA] at *); omega))
      intro _ _ _ _ _ _; (try dsimp only); (try k_fold)))
  trivial
theorem deed_get (w : World) (hd : Option Value) (pa dx ha hl Tp : Addr) (ex eh et : Nat) (its hits : List Value) (rows : List (Str × Str)) (x tx : Str) (tk t0 t1 : Tok) (imm : List (Addr × Obj)) (hHu : HushIn hd imm) (hH : HdAt imm ha hl) (hdx : PdAt imm dx) (hR : Paired (SPairAt imm) rows hits) (hx : NmOk x) (hrows : ∀ r ∈ rows, tooLong (Txt.lower r.1).length = false)
    (hT : (Tp, tupO (.str x t0) (.str tx t1) et) ∈ imm) (hap : ∀ p ∈ (hl, listOf (List.toArray hits) eh) :: imm, p.1 ≠ pa) (hln : its.length ≤ 700) :
    Fn w hd 345 [.str (Str.ofString "get") tk, .ref pa, .ref ha] 6 ((pa, accO dx (List.toArray (its ++ [.ref Tp])) ex) :: (hl, listOf (List.toArray hits) eh) :: imm)
      (fun r news' => r = .none ∧ ∃ T' ex' tk1 tk2, news' = (pa, accO dx (List.toArray (its ++ [.ref T'])) ex') :: (T', tupO (.str (Str.ofString "") tk1) (.str (tget rows (Txt.lower x) (Str.ofString "7")) tk2) 0) :: (hl, listOf (List.toArray hits) eh) :: imm ∧ T' ≠ pa) := by
  unfold Fn
  intro p loose mean mg mb dp un gd env outer A₀ base h₀ L m s Q E B F X N T hf hk hdp hun ret
  refine wpAny_call ?_
  refine' code_def (binds := [(Str.ofString "deed", .str (Str.ofString "get") tk), (Str.ofString "pile", .ref pa), (Str.ofString "table", .ref ha)]) B F X N T rfl hf hk ?k6 ?k7 ?k8 ?k9 ?kB ?_ ?c2 ?c3 ?c4 ?c5
  case k6 => k_is
  case k7 => k_is
  case k8 => k_room
  case k9 => exact BindsTo.of_eq rfl
  case c5 => decide
  case kB => exact locs rfl
  case c2 => exact rfl
  case c3 => exact rfl
  case c4 => exact rfl
  intro g' L' h' FG' F' N' B' X' T'
  (try dsimp only)
  k_fold
  obtain ⟨hsh, dn, tkd, tdi, hdx⟩ := hdx
  obtain ⟨dxh, hsh2, n2, tkh2, hi2, hdd2⟩ := id hH
  k_steps
  exact ret _ _ _ _ (by k_asm) (by k_asm) ⟨rfl, _, _, _, _, rfl, by assumption⟩
end
section
theorem kwXF17_0 : True := by
  w_top off
  k_with_none
  trivial

open PySem.Builtin PySem.Builtin.Str

theorem kwXF17_1 : True := by
  k_with "inst" =>
    exact instAcc (by k_asm) (by k_mem) (by k_mem)
  k_with "getMethod ref" =>
    (
      k_here
      k_dflt (refine' methL_fn ?F ?X ?I ?ga ?gk ?hf ?ht ?hs ?_; (case F => k_asm); (case X => k_asm); (case I => exact instAcc (by k_asm) (by k_mem) (by k_mem)); (case ga => k_is); (case gk => k_is); (case hf => k_is); (case ht => k_is); (case hs => rfl)))
  k_with "assign Tuple" =>
    (
      k_here
      k_dflt (refine' asgT ?F ?N ?hT ?hH ?hL ?ha ?hb ?hp ?_; (case F => k_asm); (case N => k_asm); (case hT => k_mem); (case hH => exact HushIn.mono (by assumption) (by intro _ hp; simp only [List.mem_cons, hp, or_true])); (case hL => exact rfl); (case ha => exact rfl); (case hb => exact rfl); (case hp => exact rfl); intro _ _ _ _; (try dsimp only); (try k_fold)))
  k_with "call ref" =>
    (
      k_here
      (with_reducible show wpAny _ _ (call (Value.ref 215) _ _) _ _ _)
      k_dflt (
      refine' pop_use ?ka ?kb ?kc ?k3 ?k4 ?k5 ?k6 ?k7 ?k8 ?k9 ?kd ?ku ?_
      (case k3 => k_asm); (case k4 => k_asm); (case k5 => k_asm); (case k6 => k_asm); (case k7 => k_asm); (case k8 => exact rfl); (case k9 => exact rfl)
      (case ka => exact ⟨_, _, _, _, by k_mem⟩)
      (case kb => assumption)
      (case kc => omega)
      (case kd => (simp only [Tm.size, depth_deeper, recursionLimit] at *; (try dsimp only [topA] at *); omega))
      (case ku => (simp only [Tm.size, units_deeper, cLine] at *; (try dsimp only [topA] at *); omega))
      intro _ _ _ _ _; (try dsimp only); (try k_fold)))
  k_with "call ref" =>
    (
      k_here
      (with_reducible show wpAny _ _ (call (Value.ref 118) _ _) _ _ _)
      k_dflt (
      refine' get_use (rows := _) ?ka ?kb ?kc ?ke ?kg ?k3 ?k4 ?k5 ?k6 ?k7 ?k8 ?k9 ?kd ?ku ?_
      (case k3 => k_asm); (case k4 => k_asm); (case k5 => k_asm); (case k6 => k_asm); (case k7 => k_asm); (case k8 => exact rfl); (case k9 => exact rfl)
      (case ka => exact HushIn.mono (by assumption) (by intro p hp; simp only [List.mem_cons, hp, or_true]))
      (case kb => exact HdAt.mono (by assumption) (by intro p hp; simp only [List.mem_cons, hp, or_true]))
      (case kc => (refine' rowsAt ?za ?zb ?zc; (case za => assumption); (case zb => k_mem); (case zc => (intro p hp; simp only [List.mem_cons, hp, or_true]))))
      (case ke => assumption)
      (case kg => assumption)
      (case kd => (simp only [Tm.size, depth_deeper, recursionLimit] at *; (try dsimp only [topA] at *); omega))
      (case ku => (simp only [Tm.size, units_deeper, cLine] at *; (try dsimp only [topA] at *); omega))
      intro _ _ _ _ _; (try dsimp only); (try k_fold)))
  k_with "call ref" =>
    (
      k_here
      (with_reducible show wpAny _ _ (call (Value.ref 199) _ _) _ _ _)
      k_dflt (
      refine' push_use ?ka ?kb ?kc ?k3 ?k4 ?k5 ?k6 ?k7 ?k8 ?k9 ?kd ?ku ?_
      (case k3 => k_asm); (case k4 => k_asm); (case k5 => k_asm); (case k6 => k_asm); (case k7 => k_asm); (case k8 => exact rfl); (case k9 => exact rfl)
      (case ka => exact ⟨_, _, _, _, by k_mem⟩)
      (case kb => assumption)
      (case kc => omega)
      (case kd => (simp only [Tm.size, depth_deeper, recursionLimit] at *; (try dsimp only [topA] at *); omega))
      (case ku => (simp only [Tm.size, units_deeper, cLine] at *; (try dsimp only [topA] at *); omega))
      intro _ _ _ _ _ _; (try dsimp only); (try k_fold)))
  trivial
theorem deed_less (w : World) (hd : Option Value) (pa dx ha hl Tp Tq : Addr) (ex eh et eq : Nat) (its hits : List Value) (x x2 : Str) (na nb : Int) (tk t0 t1 t2 t3 : Tok) (imm : List (Addr × Obj)) (hHu : HushIn hd imm) (hdx : PdAt imm dx) (ha0 : 0 ≤ na ∧ na < 97) (hb0 : 0 ≤ nb ∧ nb < 97)
    (hT : (Tp, tupO (.str x t0) (.str (Str.ofString (toString nb)) t1) et) ∈ imm) (hT2 : (Tq, tupO (.str x2 t2) (.str (Str.ofString (toString na)) t3) eq) ∈ imm) (hap : ∀ p ∈ (hl, listOf (List.toArray hits) eh) :: imm, p.1 ≠ pa) (hln : its.length ≤ 700) :
    Fn w hd 345 [.str (Str.ofString "less") tk, .ref pa, .ref ha] 6 ((pa, accO dx (List.toArray ((its ++ [.ref Tq]) ++ [.ref Tp])) ex) :: (hl, listOf (List.toArray hits) eh) :: imm)
      (fun r news' => r = .none ∧ ∃ T' ex' tk1 tk2, news' = (pa, accO dx (List.toArray (its ++ [.ref T'])) ex') :: (T', tupO (.str (Str.ofString "") tk1) (.str (Str.ofString (toString ((na - nb).fmod 97))) tk2) 0) :: (hl, listOf (List.toArray hits) eh) :: imm ∧ T' ≠ pa) := by
  unfold Fn
  intro p loose mean mg mb dp un gd env outer A₀ base h₀ L m s Q E B F X N T hf hk hdp hun ret
  refine wpAny_call ?_
  refine' code_def (binds := [(Str.ofString "deed", .str (Str.ofString "less") tk), (Str.ofString "pile", .ref pa), (Str.ofString "table", .ref ha)]) B F X N T rfl hf hk ?k6 ?k7 ?k8 ?k9 ?kB ?_ ?c2 ?c3 ?c4 ?c5
  case k6 => k_is
  case k7 => k_is
  case k8 => k_room
  case k9 => exact BindsTo.of_eq rfl
  case c5 => decide
  case kB => exact locs rfl
  case c2 => exact rfl
  case c3 => exact rfl
  case c4 => exact rfl
  intro g' L' h' FG' F' N' B' X' T'
  (try dsimp only)
  k_fold
  obtain ⟨hsh, dn, tkd, tdi, hdx⟩ := hdx
  have hln2 : (its ++ [Value.ref Tq]).length ≤ 800 := by rw [List.length_append, List.length_singleton]; omega
  k_steps
  exact ret _ _ _ _ (by k_asm) (by k_asm) ⟨rfl, _, _, _, _, rfl, by assumption⟩
end
section
theorem kwXF18_0 : True := by
  w_top off
  k_with_none
  trivial

open PySem.Builtin PySem.Builtin.Str

theorem kwXF18_1 : True := by
  k_with "inst" =>
    exact instAcc (by k_asm) (by k_mem) (by k_mem)
  k_with "getMethod ref" =>
    (
      k_here
      k_dflt (refine' methL_fn ?F ?X ?I ?ga ?gk ?hf ?ht ?hs ?_; (case F => k_asm); (case X => k_asm); (case I => exact instAcc (by k_asm) (by k_mem) (by k_mem)); (case ga => k_is); (case gk => k_is); (case hf => k_is); (case ht => k_is); (case hs => rfl)))
  k_with "assign Tuple" =>
    (
      k_here
      k_dflt (refine' asgT ?F ?N ?hT ?hH ?hL ?ha ?hb ?hp ?_; (case F => k_asm); (case N => k_asm); (case hT => k_mem); (case hH => exact HushIn.mono (by assumption) (by intro _ hp; simp only [List.mem_cons, hp, or_true])); (case hL => exact rfl); (case ha => exact rfl); (case hb => exact rfl); (case hp => exact rfl); intro _ _ _ _; (try dsimp only); (try k_fold)))
  k_with "call ref" =>
    (
      k_here
      (with_reducible show wpAny _ _ (call (Value.ref 215) _ _) _ _ _)
      k_dflt (
      refine' pop_use ?ka ?kb ?kc ?k3 ?k4 ?k5 ?k6 ?k7 ?k8 ?k9 ?kd ?ku ?_
      (case k3 => k_asm); (case k4 => k_asm); (case k5 => k_asm); (case k6 => k_asm); (case k7 => k_asm); (case k8 => exact rfl); (case k9 => exact rfl)
      (case ka => exact ⟨_, _, _, _, by k_mem⟩)
      (case kb => assumption)
      (case kc => omega)
      (case kd => (simp only [Tm.size, depth_deeper, recursionLimit] at *; (try dsimp only [topA] at *); omega))
      (case ku => (simp only [Tm.size, units_deeper, cLine] at *; (try dsimp only [topA] at *); omega))
      intro _ _ _ _ _; (try dsimp only); (try k_fold)))
  k_with "call ref" =>
    (
      k_here
      (with_reducible show wpAny _ _ (call (Value.ref 118) _ _) _ _ _)
      k_dflt (
      refine' get_use (rows := _) ?ka ?kb ?kc ?ke ?kg ?k3 ?k4 ?k5 ?k6 ?k7 ?k8 ?k9 ?kd ?ku ?_
      (case k3 => k_asm); (case k4 => k_asm); (case k5 => k_asm); (case k6 => k_asm); (case k7 => k_asm); (case k8 => exact rfl); (case k9 => exact rfl)
      (case ka => exact HushIn.mono (by assumption) (by intro p hp; simp only [List.mem_cons, hp, or_true]))
      (case kb => exact HdAt.mono (by assumption) (by intro p hp; simp only [List.mem_cons, hp, or_true]))
      (case kc => (refine' rowsAt ?za ?zb ?zc; (case za => assumption); (case zb => k_mem); (case zc => (intro p hp; simp only [List.mem_cons, hp, or_true]))))
      (case ke => assumption)
      (case kg => assumption)
      (case kd => (simp only [Tm.size, depth_deeper, recursionLimit] at *; (try dsimp only [topA] at *); omega))
      (case ku => (simp only [Tm.size, units_deeper, cLine] at *; (try dsimp only [topA] at *); omega))
      intro _ _ _ _ _; (try dsimp only); (try k_fold)))
  k_with "call ref" =>
    (
      k_here
      (with_reducible show wpAny _ _ (call (Value.ref 199) _ _) _ _ _)
      k_dflt (
      refine' push_use ?ka ?kb ?kc ?k3 ?k4 ?k5 ?k6 ?k7 ?k8 ?k9 ?kd ?ku ?_
      (case k3 => k_asm); (case k4 => k_asm); (case k5 => k_asm); (case k6 => k_asm); (case k7 => k_asm); (case k8 => exact rfl); (case k9 => exact rfl)
      (case ka => exact ⟨_, _, _, _, by k_mem⟩)
      (case kb => assumption)
      (case kc => omega)
      (case kd => (simp only [Tm.size, depth_deeper, recursionLimit] at *; (try dsimp only [topA] at *); omega))
      (case ku => (simp only [Tm.size, units_deeper, cLine] at *; (try dsimp only [topA] at *); omega))
      intro _ _ _ _ _ _; (try dsimp only); (try k_fold)))
  k_with "call ref" =>
    (
      k_here
      (with_reducible show wpAny _ _ (call (Value.ref 84) _ _) _ _ _)
      k_dflt (
      refine' set_use3 ?ka ?kb ?kc ?ke ?kg ?kh ?ki ?kj ?kk ?k3 ?k4 ?k5 ?k6 ?kp ?kq ?ks ?k7 ?k8 ?k9 ?kd ?ku ?_
      (case k3 => k_asm); (case k4 => k_asm); (case k5 => k_asm); (case k6 => k_asm); (case k7 => k_asm); (case k8 => exact rfl); (case k9 => exact rfl)
      (case ka => assumption); (case kb => assumption); (case kc => assumption); (case ke => assumption); (case kg => assumption); (case kh => assumption); (case ki => assumption); (case kj => assumption)
      (case kk => omega)
      (case kp => assumption)
      (case kq => exact fun q => absurd (Value.type.inj q) (by decide))
      (case ks => (intro q; cases q))
      (case kd => (simp only [Tm.size, depth_deeper, recursionLimit] at *; (try dsimp only [topA] at *); omega))
      (case ku => (simp only [Tm.size, units_deeper, cLine] at *; (try dsimp only [topA] at *); omega))
      intro _ _ _ _ _ _ _ _ _ _; (try dsimp only); (try k_fold)))
  trivial
theorem deed_set (w : World) (hd : Option Value) (pa dx ha hl Tp Tq : Addr) (ex eh et eq : Nat) (its hits : List Value) (rows : List (Str × Str)) (x tx x2 wv : Str) (tk t0 t1 t2 t3 : Tok) (imm : List (Addr × Obj)) (hHu : HushIn hd imm) (hH : HdAt imm ha hl) (hdx : PdAt imm dx) (hR : Paired (SPairAt imm) rows hits) (hx : NmOk x) (hrows : ∀ r ∈ rows, tooLong (Txt.lower r.1).length = false) (hrl : rows.length ≤ 800) (hw : cleanIn code2 wv = true) (hwz : wv.cps.size ≤ 1000)
    (hT : (Tp, tupO (.str x t0) (.str tx t1) et) ∈ imm) (hT2 : (Tq, tupO (.str x2 t2) (.str wv t3) eq) ∈ imm) (hap : ∀ p ∈ (hl, listOf (List.toArray hits) eh) :: imm, p.1 ≠ pa) (hah : ∀ p ∈ imm, p.1 ≠ hl) (hln : its.length ≤ 700) :
    Fn w hd 345 [.str (Str.ofString "set") tk, .ref pa, .ref ha] 6 ((pa, accO dx (List.toArray ((its ++ [.ref Tq]) ++ [.ref Tp])) ex) :: (hl, listOf (List.toArray hits) eh) :: imm)
      (fun r news' => r = .none ∧ ∃ T1 T2 ex' eh' its' k0 k1 k2 k3, news' = (pa, accO dx (List.toArray (its ++ [.ref T1])) ex') :: (hl, listOf (List.toArray its') eh') :: (T2, tupO (.str x k2) (.str wv k3) 0) :: (T1, tupO (.str x k0) (.str (tget rows (Txt.lower x) (Str.ofString "")) k1) 0) :: imm ∧ T1 ≠ pa ∧ T2 ≠ hl ∧ T1 ≠ hl ∧
        Paired (SPairAt ((T2, tupO (.str x k2) (.str wv k3) 0) :: (T1, tupO (.str x k0) (.str (tget rows (Txt.lower x) (Str.ofString "")) k1) 0) :: imm)) (rows.filter (fun r => !(Txt.lower r.1 == Txt.lower x)) ++ [(x, wv)]) its') := by
  unfold Fn
  intro p loose mean mg mb dp un gd env outer A₀ base h₀ L m s Q E B F X N T hf hk hdp hun ret
  refine wpAny_call ?_
  refine' code_def (binds := [(Str.ofString "deed", .str (Str.ofString "set") tk), (Str.ofString "pile", .ref pa), (Str.ofString "table", .ref ha)]) B F X N T rfl hf hk ?k6 ?k7 ?k8 ?k9 ?kB ?_ ?c2 ?c3 ?c4 ?c5
  case k6 => k_is
  case k7 => k_is
  case k8 => k_room
  case k9 => exact BindsTo.of_eq rfl
  case c5 => decide
  case kB => exact locs rfl
  case c2 => exact rfl
  case c3 => exact rfl
  case c4 => exact rfl
  intro g' L' h' FG' F' N' B' X' T'
  (try dsimp only)
  k_fold
  obtain ⟨hsh, dn, tkd, tdi, hdx⟩ := hdx
  obtain ⟨dxh, hsh2, n2, tkh2, hi2, hdd2⟩ := id hH
  have hpahl : pa ≠ hl := Ne.symm (hap (hl, listOf (List.toArray hits) eh) List.mem_cons_self)
  have hln2 : (its ++ [Value.ref Tq]).length ≤ 800 := by rw [List.length_append, List.length_singleton]; omega
  k_steps
  exact ret _ _ _ _ (by k_asm) (by k_asm) ⟨rfl, _, _, _, _, _, _, _, _, _, rfl, by assumption, by assumption, by assumption, by assumption⟩
end
section
theorem kwXF19_0 : True := by
  w_top off
  k_with_none
  trivial

open PySem.Builtin PySem.Builtin.Str

theorem kwXF19_1 : True := by
  k_with "inst" =>
    exact instAcc (by k_asm) (by k_mem) (by k_mem)
  k_with "getMethod ref" =>
    (
      k_here
      k_dflt (refine' methL_fn ?F ?X ?I ?ga ?gk ?hf ?ht ?hs ?_; (case F => k_asm); (case X => k_asm); (case I => exact instAcc (by k_asm) (by k_mem) (by k_mem)); (case ga => k_is); (case gk => k_is); (case hf => k_is); (case ht => k_is); (case hs => rfl)))
  k_with "assign Tuple" =>
    (
      k_here
      k_dflt (refine' asgT ?F ?N ?hT ?hH ?hL ?ha ?hb ?hp ?_; (case F => k_asm); (case N => k_asm); (case hT => k_mem); (case hH => exact HushIn.mono (by assumption) (by intro _ hp; simp only [List.mem_cons, hp, or_true])); (case hL => exact rfl); (case ha => exact rfl); (case hb => exact rfl); (case hp => exact rfl); intro _ _ _ _; (try dsimp only); (try k_fold)))
  k_with "call ref" =>
    (
      k_here
      (with_reducible show wpAny _ _ (call (Value.ref 215) _ _) _ _ _)
      k_dflt (
      refine' pop_use ?ka ?kb ?kc ?k3 ?k4 ?k5 ?k6 ?k7 ?k8 ?k9 ?kd ?ku ?_
      (case k3 => k_asm); (case k4 => k_asm); (case k5 => k_asm); (case k6 => k_asm); (case k7 => k_asm); (case k8 => exact rfl); (case k9 => exact rfl)
      (case ka => exact ⟨_, _, _, _, by k_mem⟩)
      (case kb => assumption)
      (case kc => omega)
      (case kd => (simp only [Tm.size, depth_deeper, recursionLimit] at *; (try dsimp only [topA] at *); omega))
      (case ku => (simp only [Tm.size, units_deeper, cLine] at *; (try dsimp only [topA] at *); omega))
      intro _ _ _ _ _; (try dsimp only); (try k_fold)))
  k_with "call ref" =>
    (
      k_here
      (with_reducible show wpAny _ _ (call (Value.ref 118) _ _) _ _ _)
      k_dflt (
      refine' get_use (rows := _) ?ka ?kb ?kc ?ke ?kg ?k3 ?k4 ?k5 ?k6 ?k7 ?k8 ?k9 ?kd ?ku ?_
      (case k3 => k_asm); (case k4 => k_asm); (case k5 => k_asm); (case k6 => k_asm); (case k7 => k_asm); (case k8 => exact rfl); (case k9 => exact rfl)
      (case ka => exact HushIn.mono (by assumption) (by intro p hp; simp only [List.mem_cons, hp, or_true]))
      (case kb => exact HdAt.mono (by assumption) (by intro p hp; simp only [List.mem_cons, hp, or_true]))
      (case kc => (refine' rowsAt ?za ?zb ?zc; (case za => assumption); (case zb => k_mem); (case zc => (intro p hp; simp only [List.mem_cons, hp, or_true]))))
      (case ke => assumption)
      (case kg => assumption)
      (case kd => (simp only [Tm.size, depth_deeper, recursionLimit] at *; (try dsimp only [topA] at *); omega))
      (case ku => (simp only [Tm.size, units_deeper, cLine] at *; (try dsimp only [topA] at *); omega))
      intro _ _ _ _ _; (try dsimp only); (try k_fold)))
  k_with "call ref" =>
    (
      k_here
      (with_reducible show wpAny _ _ (call (Value.ref 199) _ _) _ _ _)
      k_dflt (
      refine' push_use ?ka ?kb ?kc ?k3 ?k4 ?k5 ?k6 ?k7 ?k8 ?k9 ?kd ?ku ?_
      (case k3 => k_asm); (case k4 => k_asm); (case k5 => k_asm); (case k6 => k_asm); (case k7 => k_asm); (case k8 => exact rfl); (case k9 => exact rfl)
      (case ka => exact ⟨_, _, _, _, by k_mem⟩)
      (case kb => first | assumption | apply_assumption)
      (case kc => omega)
      (case kd => (simp only [Tm.size, depth_deeper, recursionLimit] at *; (try dsimp only [topA] at *); omega))
      (case ku => (simp only [Tm.size, units_deeper, cLine] at *; (try dsimp only [topA] at *); omega))
      intro _ _ _ _ _ _; (try dsimp only); (try k_fold)))
  trivial
theorem delI2 : True := trivial
theorem kwXF19_2 : True := by
  k_with "delItem ref str" =>
    (
      k_here
      k_dflt (refine' delI ?F ?X ?I ?q ?s ?f ?_; (case F => k_asm); (case X => k_asm); (case I => (refine' InstAt.of_news ?N ?h1 ?h2; (case N => k_asm); (case h1 => k_mem); (case h2 => k_mem))); (case q => k_is); (case s => k_is); (case f => k_is)))
  k_with "call ref" =>
    (
      k_here
      (with_reducible show wpAny _ _ (call (Value.ref 89) _ _) _ _ _)
      k_dflt (
      refine' del_use2 ?ka ?kb ?kc ?ke ?kg ?kj ?kk ?k3 ?k4 ?k5 ?k6 ?kp ?ks ?k7 ?k8 ?k9 ?kd ?ku ?_
      (case k3 => k_asm); (case k4 => k_asm); (case k5 => k_asm); (case k6 => k_asm); (case k7 => k_asm); (case k8 => exact rfl); (case k9 => exact rfl)
      (case ka => assumption); (case kb => assumption); (case kc => assumption); (case ke => assumption); (case kg => assumption); (case kj => assumption)
      (case kk => omega)
      (case kp => assumption)
      (case ks => (intro q; cases q))
      (case kd => (simp only [Tm.size, depth_deeper, recursionLimit] at *; (try dsimp only [topA] at *); omega))
      (case ku => (simp only [Tm.size, units_deeper, cLine] at *; (try dsimp only [topA] at *); omega))
      intro _ _ _ _ _ _ _; (try dsimp only); (try k_fold)))
  trivial
theorem deed_end0 (w : World) (hd : Option Value) (pa dx ha hl Tp Tq : Addr) (ex eh et eq : Nat) (its hits : List Value) (rows : List (Str × Str)) (x x2 tx : Str) (tk t0 t1 t2 t3 : Tok) (imm : List (Addr × Obj)) (hHu : HushIn hd imm) (hH : HdAt imm ha hl) (hdx : PdAt imm dx) (hR : Paired (SPairAt imm) rows hits) (hx : NmOk x) (hrows : ∀ r ∈ rows, tooLong (Txt.lower r.1).length = false) (hrl : rows.length ≤ 800)
    (hT : (Tp, tupO (.str x2 t0) (.str tx t1) et) ∈ imm) (hT2 : (Tq, tupO (.str x t2) (.str (Str.ofString "") t3) eq) ∈ imm) (hap : ∀ p ∈ (hl, listOf (List.toArray hits) eh) :: imm, p.1 ≠ pa) (hah : ∀ p ∈ imm, p.1 ≠ hl) (hln : its.length ≤ 700) :
    Fn w hd 345 [.str (Str.ofString "end") tk, .ref pa, .ref ha] 6 ((pa, accO dx (List.toArray ((its ++ [.ref Tq]) ++ [.ref Tp])) ex) :: (hl, listOf (List.toArray hits) eh) :: imm)
      (fun r news' => r = .none ∧ ∃ T1 ex' eh' its' k0 k1, news' = (pa, accO dx (List.toArray (its ++ [.ref T1])) ex') :: (T1, tupO (.str (Str.ofString "") k0) (.str tx k1) 0) :: (hl, listOf (List.toArray its') eh') :: imm ∧ T1 ≠ pa ∧ Paired (SPairAt imm) (rows.filter (fun r => !(Txt.lower r.1 == Txt.lower x))) its') := by
  unfold Fn
  intro p loose mean mg mb dp un gd env outer A₀ base h₀ L m s Q E B F X N T hf hk hdp hun ret
  refine wpAny_call ?_
  refine' code_def (binds := [(Str.ofString "deed", .str (Str.ofString "end") tk), (Str.ofString "pile", .ref pa), (Str.ofString "table", .ref ha)]) B F X N T rfl hf hk ?k6 ?k7 ?k8 ?k9 ?kB ?_ ?c2 ?c3 ?c4 ?c5
  case k6 => k_is
  case k7 => k_is
  case k8 => k_room
  case k9 => exact BindsTo.of_eq rfl
  case c5 => decide
  case kB => exact locs rfl
  case c2 => exact rfl
  case c3 => exact rfl
  case c4 => exact rfl
  intro g' L' h' FG' F' N' B' X' T'
  (try dsimp only)
  k_fold
  obtain ⟨hsh, dn, tkd, tdi, hdx⟩ := hdx
  obtain ⟨dxh, hsh2, n2, tkh2, hi2, hdd2⟩ := id hH
  have hpahl : pa ≠ hl := Ne.symm (hap (hl, listOf (List.toArray hits) eh) List.mem_cons_self)
  have hap2 : ∀ e' (h8 : List Value), ∀ p ∈ (hl, listOf (List.toArray h8) e') :: imm, p.1 ≠ pa := fun e' h8 p hp => by
    rcases List.mem_cons.mp hp with rfl | hp
    · exact Ne.symm hpahl
    · exact hap p (List.mem_cons_of_mem _ hp)
  have hln2 : (its ++ [Value.ref Tq]).length ≤ 800 := by rw [List.length_append, List.length_singleton]; omega
  k_steps
  exact ret _ _ _ _ (by k_asm) (by k_asm) ⟨rfl, _, _, _, _, _, _, rfl, by assumption, by assumption⟩
end
section
theorem kwXF20_0 : True := by
  w_top off
  k_with_none
  trivial

open PySem.Builtin PySem.Builtin.Str

theorem kwXF20_1 : True := by
  k_with "inst" =>
    exact instAcc (by k_asm) (by k_mem) (by k_mem)
  k_with "getMethod ref" =>
    (
      k_here
      k_dflt (refine' methL_fn ?F ?X ?I ?ga ?gk ?hf ?ht ?hs ?_; (case F => k_asm); (case X => k_asm); (case I => exact instAcc (by k_asm) (by k_mem) (by k_mem)); (case ga => k_is); (case gk => k_is); (case hf => k_is); (case ht => k_is); (case hs => rfl)))
  k_with "assign Tuple" =>
    (
      k_here
      k_dflt (refine' asgT ?F ?N ?hT ?hH ?hL ?ha ?hb ?hp ?_; (case F => k_asm); (case N => k_asm); (case hT => k_mem); (case hH => exact HushIn.mono (by assumption) (by intro _ hp; simp only [List.mem_cons, hp, or_true])); (case hL => exact rfl); (case ha => exact rfl); (case hb => exact rfl); (case hp => exact rfl); intro _ _ _ _; (try dsimp only); (try k_fold)))
  k_with "call ref" =>
    (
      k_here
      (with_reducible show wpAny _ _ (call (Value.ref 215) _ _) _ _ _)
      k_dflt (
      refine' pop_use ?ka ?kb ?kc ?k3 ?k4 ?k5 ?k6 ?k7 ?k8 ?k9 ?kd ?ku ?_
      (case k3 => k_asm); (case k4 => k_asm); (case k5 => k_asm); (case k6 => k_asm); (case k7 => k_asm); (case k8 => exact rfl); (case k9 => exact rfl)
      (case ka => exact ⟨_, _, _, _, by k_mem⟩)
      (case kb => assumption)
      (case kc => omega)
      (case kd => (simp only [Tm.size, depth_deeper, recursionLimit] at *; (try dsimp only [topA] at *); omega))
      (case ku => (simp only [Tm.size, units_deeper, cLine] at *; (try dsimp only [topA] at *); omega))
      intro _ _ _ _ _; (try dsimp only); (try k_fold)))
  k_with "call ref" =>
    (
      k_here
      (with_reducible show wpAny _ _ (call (Value.ref 118) _ _) _ _ _)
      k_dflt (
      refine' get_use (rows := _) ?ka ?kb ?kc ?ke ?kg ?k3 ?k4 ?k5 ?k6 ?k7 ?k8 ?k9 ?kd ?ku ?_
      (case k3 => k_asm); (case k4 => k_asm); (case k5 => k_asm); (case k6 => k_asm); (case k7 => k_asm); (case k8 => exact rfl); (case k9 => exact rfl)
      (case ka => exact HushIn.mono (by assumption) (by intro p hp; simp only [List.mem_cons, hp, or_true]))
      (case kb => exact HdAt.mono (by assumption) (by intro p hp; simp only [List.mem_cons, hp, or_true]))
      (case kc => (refine' rowsAt ?za ?zb ?zc; (case za => assumption); (case zb => k_mem); (case zc => (intro p hp; simp only [List.mem_cons, hp, or_true]))))
      (case ke => assumption)
      (case kg => assumption)
      (case kd => (simp only [Tm.size, depth_deeper, recursionLimit] at *; (try dsimp only [topA] at *); omega))
      (case ku => (simp only [Tm.size, units_deeper, cLine] at *; (try dsimp only [topA] at *); omega))
      intro _ _ _ _ _; (try dsimp only); (try k_fold)))
  k_with "call ref" =>
    (
      k_here
      (with_reducible show wpAny _ _ (call (Value.ref 199) _ _) _ _ _)
      k_dflt (
      refine' push_use ?ka ?kb ?kc ?k3 ?k4 ?k5 ?k6 ?k7 ?k8 ?k9 ?kd ?ku ?_
      (case k3 => k_asm); (case k4 => k_asm); (case k5 => k_asm); (case k6 => k_asm); (case k7 => k_asm); (case k8 => exact rfl); (case k9 => exact rfl)
      (case ka => exact ⟨_, _, _, _, by k_mem⟩)
      (case kb => first | assumption | (apply_assumption <;> assumption) | apply_assumption)
      (case kc => omega)
      (case kd => (simp only [Tm.size, depth_deeper, recursionLimit] at *; (try dsimp only [topA] at *); omega))
      (case ku => (simp only [Tm.size, units_deeper, cLine] at *; (try dsimp only [topA] at *); omega))
      intro _ _ _ _ _ _; (try dsimp only); (try k_fold)))
  k_with "delItem ref str" =>
    (
      k_here
      k_dflt (refine' delI ?F ?X ?I ?q ?s ?f ?_; (case F => k_asm); (case X => k_asm); (case I => (refine' InstAt.of_news ?N ?h1 ?h2; (case N => k_asm); (case h1 => k_mem); (case h2 => k_mem))); (case q => k_is); (case s => k_is); (case f => k_is)))
  k_with "call ref" =>
    (
      k_here
      (with_reducible show wpAny _ _ (call (Value.ref 89) _ _) _ _ _)
      k_dflt (
      refine' del_use2 ?ka ?kb ?kc ?ke ?kg ?kj ?kk ?k3 ?k4 ?k5 ?k6 ?kp ?ks ?k7 ?k8 ?k9 ?kd ?ku ?_
      (case k3 => k_asm); (case k4 => k_asm); (case k5 => k_asm); (case k6 => k_asm); (case k7 => k_asm); (case k8 => exact rfl); (case k9 => exact rfl)
      (case ka => assumption); (case kb => assumption); (case kc => assumption); (case ke => assumption); (case kg => assumption); (case kj => assumption)
      (case kk => omega)
      (case kp => assumption)
      (case ks => (intro q; cases q))
      (case kd => (simp only [Tm.size, depth_deeper, recursionLimit] at *; (try dsimp only [topA] at *); omega))
      (case ku => (simp only [Tm.size, units_deeper, cLine] at *; (try dsimp only [topA] at *); omega))
      intro _ _ _ _ _ _ _; (try dsimp only); (try k_fold)))
  k_with "compareOp Eq str str" =>
    (k_here; first | refine eqS_no (by assumption) ?_)
  k_with "call ref" =>
    (
      k_here
      (with_reducible show wpAny _ _ (call (Value.ref 84) _ _) _ _ _)
      k_dflt (
      refine' set_use2 ?ka ?kb ?kc ?ke ?kg ?kh ?ki ?kj ?kk ?k3 ?k4 ?k5 ?k6 ?kp ?ks ?k7 ?k8 ?k9 ?kd ?ku ?_
      (case k3 => k_asm); (case k4 => k_asm); (case k5 => k_asm); (case k6 => k_asm); (case k7 => k_asm); (case k8 => exact rfl); (case k9 => exact rfl)
      (case ka => assumption); (case kb => assumption); (case kc => assumption); (case ke => assumption); (case kg => assumption); (case kh => assumption); (case ki => assumption); (case kj => assumption)
      (case kk => omega)
      (case kp => assumption)
      (case ks => (intro q; cases q))
      (case kd => (simp only [Tm.size, depth_deeper, recursionLimit] at *; (try dsimp only [topA] at *); omega))
      (case ku => (simp only [Tm.size, units_deeper, cLine] at *; (try dsimp only [topA] at *); omega))
      intro _ _ _ _ _ _ _ _ _ _; (try dsimp only); (try k_fold)))
  trivial
theorem deed_end1 (w : World) (hd : Option Value) (pa dx ha hl Tp Tq : Addr) (ex eh et eq : Nat) (its hits : List Value) (rows : List (Str × Str)) (x x2 tx old : Str) (tk t0 t1 t2 t3 : Tok) (imm : List (Addr × Obj)) (hHu : HushIn hd imm) (hH : HdAt imm ha hl) (hdx : PdAt imm dx) (hR : Paired (SPairAt imm) rows hits) (hx : NmOk x) (hrows : ∀ r ∈ rows, tooLong (Txt.lower r.1).length = false) (hrl : rows.length ≤ 800)
    (hT : (Tp, tupO (.str x2 t0) (.str tx t1) et) ∈ imm) (hT2 : (Tq, tupO (.str x t2) (.str old t3) eq) ∈ imm) (hold : ¬ old = Str.ofString "") (hw : cleanIn code2 old = true) (hwz : old.cps.size ≤ 1000) (hap : ∀ p ∈ (hl, listOf (List.toArray hits) eh) :: imm, p.1 ≠ pa) (hah : ∀ p ∈ imm, p.1 ≠ hl) (hln : its.length ≤ 700) :
    Fn w hd 345 [.str (Str.ofString "end") tk, .ref pa, .ref ha] 6 ((pa, accO dx (List.toArray ((its ++ [.ref Tq]) ++ [.ref Tp])) ex) :: (hl, listOf (List.toArray hits) eh) :: imm)
      (fun r news' => r = .none ∧ ∃ T1 T2 ex' eh' its' k0 k1 k2 k3, news' = (pa, accO dx (List.toArray (its ++ [.ref T1])) ex') :: (T1, tupO (.str (Str.ofString "") k0) (.str tx k1) 0) :: (hl, listOf (List.toArray its') eh') :: (T2, tupO (.str x k2) (.str old k3) 0) :: imm ∧ T1 ≠ pa ∧ T2 ≠ hl ∧ Paired (SPairAt ((T2, tupO (.str x k2) (.str old k3) 0) :: imm)) (rows.filter (fun r => !(Txt.lower r.1 == Txt.lower x)) ++ [(x, old)]) its') := by
  unfold Fn
  intro p loose mean mg mb dp un gd env outer A₀ base h₀ L m s Q E B F X N T hf hk hdp hun ret
  refine wpAny_call ?_
  refine' code_def (binds := [(Str.ofString "deed", .str (Str.ofString "end") tk), (Str.ofString "pile", .ref pa), (Str.ofString "table", .ref ha)]) B F X N T rfl hf hk ?k6 ?k7 ?k8 ?k9 ?kB ?_ ?c2 ?c3 ?c4 ?c5
  case k6 => k_is
  case k7 => k_is
  case k8 => k_room
  case k9 => exact BindsTo.of_eq rfl
  case c5 => decide
  case kB => exact locs rfl
  case c2 => exact rfl
  case c3 => exact rfl
  case c4 => exact rfl
  intro g' L' h' FG' F' N' B' X' T'
  (try dsimp only)
  k_fold
  obtain ⟨hsh, dn, tkd, tdi, hdx⟩ := hdx
  obtain ⟨dxh, hsh2, n2, tkh2, hi2, hdd2⟩ := id hH
  have hpahl : pa ≠ hl := Ne.symm (hap (hl, listOf (List.toArray hits) eh) List.mem_cons_self)
  have hap2 : ∀ e' (h8 : List Value), ∀ p ∈ (hl, listOf (List.toArray h8) e') :: imm, p.1 ≠ pa := fun e' h8 p hp => by
    rcases List.mem_cons.mp hp with rfl | hp
    · exact Ne.symm hpahl
    · exact hap p (List.mem_cons_of_mem _ hp)
  have hap3 : ∀ e' (h8 : List Value) (T : Addr) (o : Obj), T ≠ pa → ∀ p ∈ (hl, listOf (List.toArray h8) e') :: (T, o) :: imm, p.1 ≠ pa := fun e' h8 T o hT p hp => by
    simp only [List.mem_cons] at hp
    rcases hp with rfl | rfl | hp
    · exact Ne.symm hpahl
    · exact hT
    · exact hap p (List.mem_cons_of_mem _ hp)
  have hln2 : (its ++ [Value.ref Tq]).length ≤ 800 := by rw [List.length_append, List.length_singleton]; omega
  k_steps
  exact ret _ _ _ _ (by k_asm) (by k_asm) ⟨rfl, _, _, _, _, _, _, _, _, _, rfl, by assumption, by assumption, by assumption⟩
end
section
open PySem.Builtin PySem.Builtin.Str
theorem paired_inv {α β : Type} {F : α → β → Prop} : ∀ {xs : List α} {x : α} {ys : List β}, Paired F (xs ++ [x]) ys → ∃ ys0 y, ys = ys0 ++ [y] ∧ Paired F xs ys0 ∧ F x y
  | [], x, _, .cons h .nil => ⟨[], _, rfl, .nil, h⟩
  | a :: xs, x, _, .cons h t => by
    obtain ⟨ys0, y, rfl, h1, h2⟩ := paired_inv t
    exact ⟨_ :: ys0, y, rfl, .cons h h1, h2⟩
abbrev led2 (pa dx hl : Addr) (its hits : List Value) (ex eh : Nat) (imm : List (Addr × Obj)) : List (Addr × Obj) := (pa, accO dx (List.toArray its) ex) :: (hl, listOf (List.toArray hits) eh) :: imm
structure StAt (pa dx ha hl : Addr) (st : List It) (rows : List Rw) (its hits : List Value) (imm : List (Addr × Obj)) : Prop where
  pile : Paired (SPairAt imm) (st.reverse.map It.pr) its
  tab : Paired (SPairAt imm) (rows.map Rw.pr) hits
  hd : HdAt imm ha hl
  pd : PdAt imm dx
  apa : ∀ p ∈ imm, p.1 ≠ pa
  ahl : ∀ p ∈ imm, p.1 ≠ hl
  ne : pa ≠ hl
  ist : ∀ i ∈ st, i.ok
  irw : ∀ r ∈ rows, r.ok
theorem StAt.len {pa dx ha hl : Addr} {st : List It} {rows : List Rw} {its hits : List Value} {imm : List (Addr × Obj)} (S : StAt pa dx ha hl st rows its hits imm) : its.length = st.length := by
  have := S.pile.length
  rw [List.length_map, List.length_reverse] at this
  exact this.symm
theorem StAt.grow {pa dx ha hl : Addr} {st : List It} {rows : List Rw} {its hits : List Value} {imm imm' : List (Addr × Obj)} (S : StAt pa dx ha hl st rows its hits imm) (hs : ∀ p ∈ imm, p ∈ imm') (h1 : ∀ p ∈ imm', p.1 ≠ pa) (h2 : ∀ p ∈ imm', p.1 ≠ hl) : StAt pa dx ha hl st rows its hits imm' :=
  ⟨S.pile.mono fun _ _ z => z.mono hs, S.tab.mono fun _ _ z => z.mono hs, S.hd.mono hs, (let ⟨a, b, c, d, e⟩ := S.pd; ⟨a, b, c, d, hs _ e⟩), h1, h2, S.ne, S.ist, S.irw⟩
theorem PdAt.mono {imm imm' : List (Addr × Obj)} {dx : Addr} (h : PdAt imm dx) (hs : ∀ p ∈ imm, p ∈ imm') : PdAt imm' dx := let ⟨a, b, c, d, e⟩ := h; ⟨a, b, c, d, hs _ e⟩
def Ln.word : Ln → Option Str
  | .get => some (Str.ofString "get")
  | .less => some (Str.ofString "less")
  | .set => some (Str.ofString "set")
  | .fin => some (Str.ofString "end")
  | _ => none
section
variable {w : World} {hd : Option Value} {p : Program} {loose : List Str} {mean : ExcName → Option Value} {mg mb : Str → Option Value} {dp un : Nat} {gd : Option (List Code)} {env : Env} {outer : List Env} {A₀ : Around} {base h₀ : Heap} {L : Addr} {m : Str → Option Value} {s : Shared} {Q E : Value → Shared → Prop}
theorem deed_run {pa dx ha hl : Addr} {l : Ln} {st st' : List It} {rows rows' : List Rw} {its hits : List Value} {ex eh : Nat} {x : Str} {tk : Tok} {imm : List (Addr × Obj)} (hs : Step l st rows st' rows') (hl9 : l.word = some x) (S : StAt pa dx ha hl st rows its hits imm) (hHu : HushIn hd imm) (h1 : st.length ≤ 600) (h2 : rows.length ≤ 600)
    (B : Below A₀ base outer h₀) (F : Fr h₀ L s.heap m) (X : (heapK w.params).In h₀) (N : News h₀ L s.heap (led2 pa dx hl its hits ex eh imm)) (T : Top p loose mean mg mb h₀) (hf : env.frame = some L) (hk : env.scope.kind = .function) (hdp : dp + 6 < recursionLimit) (hun : un + 8 * 6 < cLine)
    (ret : ∀ its' hits' ex' eh' imm' h' tk', Fr h₀ L h' m → News h₀ L h' (led2 pa dx hl its' hits' ex' eh' imm') → (∀ p ∈ imm, p ∈ imm') → StAt pa dx ha hl st' rows' its' hits' imm' → Q .none { s with heap := h', toks := tk' }) :
    wpAny (model pw w) (topA hd dp un gd env outer) (call (.ref 345) [.str x tk, .ref pa, .ref ha]) Q E s := by
  obtain ⟨ist', irw', _, _⟩ := hs.ok S.ist S.irw
  have hlen := S.len
  have hrl := S.tab.length
  rw [List.length_map] at hrl
  have hap : ∀ q ∈ (hl, listOf (List.toArray hits) eh) :: imm, q.1 ≠ pa := fun q hq => by
    rcases List.mem_cons.mp hq with rfl | hq
    · exact Ne.symm S.ne
    · exact S.apa q hq
  have s1 : ∀ (c : Addr × Obj), ∀ q ∈ imm, q ∈ c :: imm := fun c q hq => List.mem_cons_of_mem _ hq
  have s2 : ∀ (c d : Addr × Obj), ∀ q ∈ imm, q ∈ c :: d :: imm := fun c d q hq => List.mem_cons_of_mem _ (List.mem_cons_of_mem _ hq)
  have tne : ∀ {h' : Heap} {led : List (Addr × Obj)} {T : Addr} {y1 y2 : Value} {e : Nat} {b : Addr} {ys : Array Value} {n : Nat}, News h₀ L h' led → (T, tupO y1 y2 e) ∈ led → (b, listOf ys n) ∈ led → T ≠ b := fun N h1 h2 => led_ne N h1 h2 (show (Value.type "tuple") ≠ Value.type "list" by decide)
  have tpa : ∀ {h' : Heap} {led : List (Addr × Obj)} {T : Addr} {y1 y2 : Value} {e : Nat} {b d : Addr} {ys : Array Value} {n : Nat}, News h₀ L h' led → (T, tupO y1 y2 e) ∈ led → (b, accO d ys n) ∈ led → T ≠ b := fun N h1 h2 => led_ne N h1 h2 (by simp)
  cases hs with
  | num => cases hl9
  | nam => cases hl9
  | @get p st rows =>
    cases hl9
    have hp : p6 p := (List.forall_mem_cons.mp S.ist).1
    have hP := S.pile
    rw [List.reverse_cons, List.map_append, List.map_singleton] at hP
    obtain ⟨its0, y, rfl, hP0, Tp, et, t0, t1, rfl, hT⟩ := paired_inv hP
    have hlen' : its0.length ≤ 700 := by rw [List.length_append] at hlen; simp only [List.length_cons, List.length_nil] at hlen h1; omega
    refine Fn.use (deed_get w hd pa dx ha hl Tp ex eh et its0 hits (rows.map Rw.pr) _ _ tk t0 t1 imm hHu S.hd S.pd S.tab (name_ok hp) (row_ok S.irw) hT hap hlen') B F X N T hf hk hdp hun ?_
    rintro r news' h' tk' F' N' ⟨rfl, T', ex', k1, k2, rfl, hne⟩
    have e9 : tget (rows.map Rw.pr) (Txt.lower (nameStr p.toNat)) (Str.ofString "7") = showI ((lk rows (p / 2)).getD 7) := by
      rw [tget_pr hp S.irw]; cases lk rows (p / 2) <;> rfl
    replace N' : News h₀ L h' ((pa, accO dx (its0 ++ [Value.ref T']).toArray ex') :: (T', tupO (.str (Str.ofString "") k1) (.str (tget (rows.map Rw.pr) (Txt.lower (nameStr p.toNat)) (Str.ofString "7")) k2) 0) :: (hl, listOf hits.toArray eh) :: imm) := N'
    rw [e9] at N'
    refine ret (its0 ++ [.ref T']) hits ex' eh ((T', tupO (.str (Str.ofString "") k1) (.str (showI ((lk rows (p / 2)).getD 7)) k2) 0) :: imm) h' tk' F' (fun q hq => N' q ?_) (s1 _) ⟨?_, S.tab.mono fun _ _ z => z.mono (s1 _), S.hd.mono (s1 _), S.pd.mono (s1 _), ?_, ?_, S.ne, ist', irw'⟩
    · simp only [led2, List.mem_cons] at hq ⊢
      rcases hq with h | h | h | h <;> simp [h]
    · rw [List.reverse_cons, List.map_append, List.map_singleton]
      exact Paired.snoc (hP0.mono fun _ _ z => z.mono (s1 _)) ⟨T', 0, k1, k2, rfl, List.mem_cons_self⟩
    · exact List.forall_mem_cons.mpr ⟨hne, S.apa⟩
    · exact List.forall_mem_cons.mpr ⟨tne N' (T := T') (.tail _ (.head _)) (b := hl) (.tail _ (.tail _ (.head _))), S.ahl⟩
  | @less a b st rows =>
    cases hl9
    have hb : n97 b := (List.forall_mem_cons.mp S.ist).1
    have ha : n97 a := (List.forall_mem_cons.mp (List.forall_mem_cons.mp S.ist).2).1
    have hP := S.pile
    rw [List.reverse_cons, List.reverse_cons, List.map_append, List.map_append, List.map_singleton, List.map_singleton] at hP
    obtain ⟨its1, y, rfl, hP1, Tp, et, t0, t1, rfl, hT⟩ := paired_inv hP
    obtain ⟨its0, y, rfl, hP0, Tq, eq, t2, t3, rfl, hT2⟩ := paired_inv hP1
    have hlen' : its0.length ≤ 700 := by simp only [List.length_append, List.length_cons, List.length_nil] at hlen h1; omega
    refine Fn.use (deed_less w hd pa dx _ hl Tp Tq ex eh et eq its0 hits _ _ a b tk t0 t1 t2 t3 imm hHu S.pd ha hb hT hT2 hap hlen') B F X N T hf hk hdp hun ?_
    rintro r news' h' tk' F' N' ⟨rfl, T', ex', k1, k2, rfl, hne⟩
    rw [Int.fmod_eq_emod_of_nonneg _ (by decide : (0:Int) ≤ 97)] at N'
    refine ret (its0 ++ [.ref T']) hits ex' eh ((T', tupO (.str (Str.ofString "") k1) (.str (showI ((a - b) % 97)) k2) 0) :: imm) h' tk' F' (fun q hq => N' q ?_) (s1 _) ⟨?_, S.tab.mono fun _ _ z => z.mono (s1 _), S.hd.mono (s1 _), S.pd.mono (s1 _), ?_, ?_, S.ne, ist', irw'⟩
    · simp only [led2, List.mem_cons] at hq ⊢
      rcases hq with h | h | h | h <;> simp [h, showI]
    · rw [List.reverse_cons, List.map_append, List.map_singleton]
      exact Paired.snoc (hP0.mono fun _ _ z => z.mono (s1 _)) ⟨T', 0, k1, k2, rfl, List.mem_cons_self⟩
    · exact List.forall_mem_cons.mpr ⟨hne, S.apa⟩
    · exact List.forall_mem_cons.mpr ⟨tne N' (T := T') (.tail _ (.head _)) (b := hl) (.tail _ (.tail _ (.head _))), S.ahl⟩
  | @set p n st rows =>
    cases hl9
    have hp : p6 p := (List.forall_mem_cons.mp S.ist).1
    have hn : n97 n := (List.forall_mem_cons.mp (List.forall_mem_cons.mp S.ist).2).1
    have hP := S.pile
    rw [List.reverse_cons, List.reverse_cons, List.map_append, List.map_append, List.map_singleton, List.map_singleton] at hP
    obtain ⟨its1, y, rfl, hP1, Tp, et, t0, t1, rfl, hT⟩ := paired_inv hP
    obtain ⟨its0, y, rfl, hP0, Tq, eq, t2, t3, rfl, hT2⟩ := paired_inv hP1
    have hlen' : its0.length ≤ 700 := by simp only [List.length_append, List.length_cons, List.length_nil] at hlen h1; omega
    refine Fn.use (deed_set w hd pa dx ha hl Tp Tq ex eh et eq its0 hits (rows.map Rw.pr) _ _ _ _ tk t0 t1 t2 t3 imm hHu S.hd S.pd S.tab (name_ok hp) (row_ok S.irw) (by rw [List.length_map]; omega) (show_ok hn).1 (show_ok hn).2.1 hT hT2 hap S.ahl hlen') B F X N T hf hk hdp hun ?_
    rintro r news' h' tk' F' N' ⟨rfl, T1, T2, ex', eh', its', k0, k1, k2, k3, rfl, hne1, hne2, hne3, hPt⟩
    have e9 : tget (rows.map Rw.pr) (Txt.lower (nameStr p.toNat)) (Str.ofString "") = oldS (lk rows (p / 2)) := by
      rw [tget_pr hp S.irw]; cases lk rows (p / 2) <;> rfl
    replace N' : News h₀ L h' ((pa, accO dx (its0 ++ [Value.ref T1]).toArray ex') :: (hl, listOf its'.toArray eh') :: (T2, tupO (.str (nameStr p.toNat) k2) (.str (showI n) k3) 0) :: (T1, tupO (.str (nameStr p.toNat) k0) (.str (tget (rows.map Rw.pr) (Txt.lower (nameStr p.toNat)) (Str.ofString "")) k1) 0) :: imm) := N'
    rw [filter_pr S.irw hp] at hPt
    replace hPt : Paired (SPairAt ((T2, tupO (.str (nameStr p.toNat) k2) (.str (showI n) k3) 0) :: (T1, tupO (.str (nameStr p.toNat) k0) (.str (tget (rows.map Rw.pr) (Txt.lower (nameStr p.toNat)) (Str.ofString "")) k1) 0) :: imm)) ((off rows (p / 2)).map Rw.pr ++ [(nameStr p.toNat, showI n)]) its' := hPt
    rw [e9] at N' hPt
    refine ret (its0 ++ [.ref T1]) its' ex' eh' ((T2, tupO (.str (nameStr p.toNat) k2) (.str (showI n) k3) 0) :: (T1, tupO (.str (nameStr p.toNat) k0) (.str (oldS (lk rows (p / 2))) k1) 0) :: imm) h' tk' F' N' (s2 _ _) ⟨?_, ?_, S.hd.mono (s2 _ _), S.pd.mono (s2 _ _), ?_, ?_, S.ne, ist', irw'⟩
    · rw [List.reverse_cons, List.map_append, List.map_singleton]
      exact Paired.snoc (hP0.mono fun _ _ z => z.mono (s2 _ _)) ⟨T1, 0, k0, k1, rfl, List.mem_cons_of_mem _ List.mem_cons_self⟩
    · rw [List.map_append, List.map_singleton]; exact hPt
    · exact List.forall_mem_cons.mpr ⟨tpa N' (T := T2) (b := pa) (.tail _ (.tail _ (.head _))) (.head _), List.forall_mem_cons.mpr ⟨hne1, S.apa⟩⟩
    · exact List.forall_mem_cons.mpr ⟨hne2, List.forall_mem_cons.mpr ⟨hne3, S.ahl⟩⟩
  | @fin0 p n st rows =>
    cases hl9
    have hn : n97 n := (List.forall_mem_cons.mp S.ist).1
    have hp : p6 p := (List.forall_mem_cons.mp (List.forall_mem_cons.mp S.ist).2).1.1
    have hP := S.pile
    rw [List.reverse_cons, List.reverse_cons, List.map_append, List.map_append, List.map_singleton, List.map_singleton] at hP
    obtain ⟨its1, y, rfl, hP1, Tp, et, t0, t1, rfl, hT⟩ := paired_inv hP
    obtain ⟨its0, y, rfl, hP0, Tq, eq, t2, t3, rfl, hT2⟩ := paired_inv hP1
    have hlen' : its0.length ≤ 700 := by simp only [List.length_append, List.length_cons, List.length_nil] at hlen h1; omega
    refine Fn.use (deed_end0 w hd pa dx ha hl Tp Tq ex eh et eq its0 hits (rows.map Rw.pr) _ _ _ tk t0 t1 t2 t3 imm hHu S.hd S.pd S.tab (name_ok hp) (row_ok S.irw) (by rw [List.length_map]; omega) hT hT2 hap S.ahl hlen') B F X N T hf hk hdp hun ?_
    rintro r news' h' tk' F' N' ⟨rfl, T1, ex', eh', its', k0, k1, rfl, hne1, hPt⟩
    rw [filter_pr S.irw hp] at hPt
    refine ret (its0 ++ [.ref T1]) its' ex' eh' ((T1, tupO (.str (Str.ofString "") k0) (.str (showI n) k1) 0) :: imm) h' tk' F' (fun q hq => N' q ?_) (s1 _) ⟨?_, hPt.mono fun _ _ z => z.mono (s1 _), S.hd.mono (s1 _), S.pd.mono (s1 _), ?_, ?_, S.ne, ist', irw'⟩
    · simp only [led2, List.mem_cons] at hq ⊢
      rcases hq with h | h | h | h <;> simp [h, It.pr]
    · rw [List.reverse_cons, List.map_append, List.map_singleton]
      exact Paired.snoc (hP0.mono fun _ _ z => z.mono (s1 _)) ⟨T1, 0, k0, k1, rfl, List.mem_cons_self⟩
    · exact List.forall_mem_cons.mpr ⟨hne1, S.apa⟩
    · exact List.forall_mem_cons.mpr ⟨tne N' (T := T1) (.tail _ (.head _)) (b := hl) (.tail _ (.tail _ (.head _))), S.ahl⟩
  | @fin1 p n v st rows =>
    cases hl9
    have hn : n97 n := (List.forall_mem_cons.mp S.ist).1
    have hpv := (List.forall_mem_cons.mp (List.forall_mem_cons.mp S.ist).2).1
    have hp : p6 p := hpv.1
    have hv : n97 v := hpv.2 v rfl
    have hP := S.pile
    rw [List.reverse_cons, List.reverse_cons, List.map_append, List.map_append, List.map_singleton, List.map_singleton] at hP
    obtain ⟨its1, y, rfl, hP1, Tp, et, t0, t1, rfl, hT⟩ := paired_inv hP
    obtain ⟨its0, y, rfl, hP0, Tq, eq, t2, t3, rfl, hT2⟩ := paired_inv hP1
    have hlen' : its0.length ≤ 700 := by simp only [List.length_append, List.length_cons, List.length_nil] at hlen h1; omega
    refine Fn.use (deed_end1 w hd pa dx ha hl Tp Tq ex eh et eq its0 hits (rows.map Rw.pr) _ _ _ (showI v) tk t0 t1 t2 t3 imm hHu S.hd S.pd S.tab (name_ok hp) (row_ok S.irw) (by rw [List.length_map]; omega) hT hT2 (show_ok hv).2.2 (show_ok hv).1 (show_ok hv).2.1 hap S.ahl hlen') B F X N T hf hk hdp hun ?_
    rintro r news' h' tk' F' N' ⟨rfl, T1, T2, ex', eh', its', k0, k1, k2, k3, rfl, hne1, hne2, hPt⟩
    rw [filter_pr S.irw hp] at hPt
    refine ret (its0 ++ [.ref T1]) its' ex' eh' ((T1, tupO (.str (Str.ofString "") k0) (.str (showI n) k1) 0) :: (T2, tupO (.str (nameStr p.toNat) k2) (.str (showI v) k3) 0) :: imm) h' tk' F' (fun q hq => N' q ?_) (s2 _ _) ⟨?_, ?_, S.hd.mono (s2 _ _), S.pd.mono (s2 _ _), ?_, ?_, S.ne, ist', irw'⟩
    · simp only [led2, List.mem_cons] at hq ⊢
      rcases hq with h | h | h | h | h <;> simp [h, It.pr]
    · rw [List.reverse_cons, List.map_append, List.map_singleton]
      exact Paired.snoc (hP0.mono fun _ _ z => z.mono (s2 _ _)) ⟨T1, 0, k0, k1, rfl, List.mem_cons_self⟩
    · rw [List.map_append, List.map_singleton]
      exact hPt.mono fun _ _ z => z.mono fun q hq => by simp only [List.mem_cons] at hq ⊢; rcases hq with h | h <;> simp [h, It.pr]
    · exact List.forall_mem_cons.mpr ⟨hne1, List.forall_mem_cons.mpr ⟨tpa N' (T := T2) (b := pa) (.tail _ (.tail _ (.tail _ (.head _)))) (.head _), S.apa⟩⟩
    · exact List.forall_mem_cons.mpr ⟨tne N' (T := T1) (.tail _ (.head _)) (b := hl) (.tail _ (.tail _ (.head _))), List.forall_mem_cons.mpr ⟨hne2, S.ahl⟩⟩
end
end
section
theorem kwXF21_0 : True := by
  w_top off
  k_with_none
  trivial

open PySem.Builtin PySem.Builtin.Str
section
variable {w : World} {A : Around} {E : Value → Shared → Prop} {s : Shared} {Q : Value → Shared → Prop} {x y : Str} {t u v : Tok}
theorem neS_no (e : x = y) (h : Q (.bool false) s) : wpAny (model pw w) A (compareOp .NotEq (.str x t) (.str y u)) Q E s := by
  refine PyProof.Rows.ne_str ?_
  rw [bne_eq_false_iff_eq.mpr e]; exact h
theorem neS_of (e : ¬ x = y) (h : Q (.bool true) s) : wpAny (model pw w) A (compareOp .NotEq (.str x t) (.str y u)) Q E s := by
  refine PyProof.Rows.ne_str ?_
  rw [bne_iff_ne.mpr e]; exact h
theorem findK {k : Int} (e : Txt.find x y = k) (hq : Q (.int k s.toks) { s with toks := s.toks + 1 }) : wpAny (model pw w) A (call (.builtin "str.find") [.str x t, .str y u]) Q E s := SC.find (by rw [e]; exact hq)
theorem find3K {k i : Int} (e : Txt.find3 x y i = k) (hq : Q (.int k s.toks) { s with toks := s.toks + 1 }) : wpAny (model pw w) A (call (.builtin "str.find") [.str x t, .str y u, .int i v]) Q E s := SC.find3 (by rw [e]; exact hq)
end
theorem kwXF21_1 : True := by
  k_with "compareOp NotEq str str" =>
    (k_here; k_dflt (first | refine neS_no (by first | assumption | rfl) ?_ | refine neS_of (by assumption) ?_))
  k_with "call builtin:str.find" =>
    (k_here; k_dflt (first | refine findK (by assumption) ?_ | refine find3K (by assumption) ?_))
  trivial
theorem p229v (w : World) (hd : Option Value) (r : Str) (n R : Int) (tk : Tok) (pt : Addr) (t0 t1 : Tok) (e : Nat) (news : List (Addr × Obj)) (hm : (pt, tupO (.str (Str.ofString "") t0) (.int 21 t1) e) ∈ news) (hl : r.length ≤ 100) (hn0 : 0 ≤ n) (hn1 : n < 97)
    (f1 : Txt.slice r none (some 3) = Str.ofString "229") (f2 : Txt.find r (Str.ofString "(") = 10) (f3 : Txt.find3 r (Str.ofString ")") (10 + 1) = R) (hR0 : 12 ≤ R) (hR1 : R < r.length) (f4 : Txt.item r (10 + 1) = Str.ofString "|") (f5 : Txt.item r (R - 1) = Str.ofString "|")
    (f7 : Txt.split (Txt.slice r (some (10 + 1)) (some R)) (Txt.item r (10 + 1)) = [Str.ofString "", Str.ofString "", Str.ofString "", Str.ofString (toString n), Str.ofString ""]) :
    Fn w hd 303 [.str r tk, .ref pt] 2 news (fun x news' => ∃ T k0 k1, x = .ref T ∧ news' = (T, tupO (.str (Str.ofString "") k0) (.int n k1) 0) :: news) := by
  unfold Fn
  intro p loose mean mg mb dp un gd env outer A₀ base h₀ L m s Q E B F X N T hf hk hdp hun ret
  refine wpAny_call ?_
  refine' code_def (binds := [(Str.ofString "resp", .str r tk), (Str.ofString "peer", .ref pt)]) B F X N T rfl hf hk ?k6 ?k7 ?k8 ?k9 ?kB ?_ ?c2 ?c3 ?c4 ?c5
  case k6 => k_is
  case k7 => k_is
  case k8 => k_room
  case k9 => exact BindsTo.of_eq rfl
  case c5 => decide
  case kB => exact locs rfl
  case c2 => exact rfl
  case c3 => exact rfl
  case c4 => exact rfl
  intro g' L' h' FG' F' N' B' X' T'
  (try dsimp only)
  k_fold
  k_steps
  · rename ((_ != _) = true) => hh
    rw [f4, f5] at hh
    exact absurd hh (by decide)
  · rename List.map _ _ = Txt.split _ _ => hs
    rw [f7] at hs
    have := congrArg List.length hs
    simp only [List.length_map, List.length_cons, List.length_nil] at this
    omega
  · rename List.map _ _ = Txt.split _ _ => hs
    rename _ = some _ => hy
    rw [hs, f7] at hy
    cases hy
    k_steps
    exact ret _ _ _ _ (by k_asm) (News.sub2 (by k_asm) (by intro p hp; simp only [List.mem_cons, hp, or_true])) ⟨_, _, _, rfl, rfl⟩
end
section
section
variable {M : Model} {A : Around} {E : Value → Shared → Prop} {s : Shared}

def TrC (h base : Heap) (e : Addr) (cls c fl : Value) : Prop :=
  ∃ oe vs T oT ts, h.get? e = some oe ∧ (oe.cls = cls ∧ vs[2]? = some c) ∧ oe.data = .fields vs ∧ vs[1]? = some (.ref T) ∧ base.get? T = none ∧ T ≠ e ∧ h.get? T = some oT ∧ oT.data = .fields ts ∧ ts[3]? = some fl
def FlyC (base : Heap) (l : List Env) (e : Addr) (cls c fl : Value) (h : Heap) : Prop :=
  base.StaysIn h ∧ base.get? e = none ∧ h.FunFrames base l ∧ TrC h base e cls c fl
theorem FlyC.first {base h : Heap} {l : List Env} {e : Addr} {cls c fl : Value} (x : FlyC base l e cls c fl h) : ∃ oe vs, h.get? e = some oe ∧ oe.cls = cls ∧ oe.data = .fields vs ∧ vs[2]? = some c :=
  let ⟨_, _, _, oe, vs, _, _, _, he, hc, hd, _⟩ := x; ⟨oe, vs, he, hc.1, hd, hc.2⟩

theorem entryC {base : Heap} {env : Env} {outer : List Env} {L e : Addr} {oe : Obj} {vs : Array Value} {head c : Value} {hadNext : Bool} {Q : Unit → Shared → Prop}
    (hfr : A.frames = some (env :: outer)) (hl : s.heap.FunFrames base (env :: outer)) (hf : env.frame = some L)
    (he : s.heap.get? e = some oe) (hkb : base.StaysIn s.heap) (hen : base.get? e = none) (hd : oe.data = .fields vs) (hsz : 1 < vs.size) (h2 : vs[2]? = some c)
    (h : ∀ h', FlyC base (env :: outer) e oe.cls c (rawInt L) h' → s.heap.UpToSlots h' → Q () { s with heap := h' }) :
    wpAny M A (do let a ← frameOf env; let pl ← entryPlaceOf L hadNext; let b ← EntryCells.newEntry head a .none (rawInt L) .none pl; setField (.ref e) 1 b) Q E s := by
  have hene : e ∉ (env :: outer).filterMap (·.frame) := fun hm => by
    obtain ⟨_, o, ho, hnf⟩ := hl.mem hm
    rw [he] at ho; injection ho with ho; subst ho; exact hnf vs hd
  refine wpAny_bind (wpAny_frameOf_fun hfr hl hf fun h₁ hs₁ => ?_)
  refine wpAny_bind (wpAny_entryPlaceOf fun pl hpl => ?_)
  unfold EntryCells.newEntry newFields
  refine wpAny_bind (wpAny_newObj_type ?_ (hpl.sizeOk5 _ _ _ _ _))
  have he₁ : h₁.get? e = some oe := (hs₁.2.1 e hene).trans he
  have kb₁ : base.StaysIn h₁ := fun b o hbo => (hs₁.2.1 b fun hm => by rw [(hl.mem hm).1] at hbo; cases hbo).trans (hkb b o hbo)
  generalize hts : ([head, .ref L, .none, rawInt L, .none] ++ (if pl.isEmpty then List.replicate 6 Value.none else pl)) = ts
  have h3 : ts.toArray[3]? = some (rawInt L) := by rw [← hts]; simp
  have he₂ := Heap.get?_push_of_some (h := h₁) { cls := .type "traceback", dict := none, data := .fields ts.toArray } he₁
  refine wpAny_setField he₂ hd hsz ?_
  have hTe : h₁.objs.size ≠ e := Nat.ne_of_gt (Heap.lt_size he₁)
  have hd₃ := Obj.data_mapFields hd (·.setIfInBounds 1 (Value.ref h₁.objs.size))
  have he₃ := Heap.get?_update_self (Obj.mapFields (·.setIfInBounds 1 (Value.ref h₁.objs.size))) he₂ (Obj.isFreed_of_fields hd₃)
  have hT₃ := (Heap.get?_update_other (h₁.push { cls := .type "traceback", dict := none, data := .fields ts.toArray })
    (Obj.mapFields (·.setIfInBounds 1 (Value.ref h₁.objs.size))) (Ne.symm hTe)).trans (Heap.get?_push_size h₁ rfl)
  have keep : ∀ b o, b ≠ e → h₁.get? b = some o →
      ((h₁.push { cls := .type "traceback", dict := none, data := .fields ts.toArray }).update e (Obj.mapFields (·.setIfInBounds 1 (Value.ref h₁.objs.size)))).get? b = some o := fun b o hbe hb => by
    rw [Heap.get?_update_other _ _ (Ne.symm hbe)]
    exact Heap.get?_push_of_some _ hb
  have noRec : ∀ b o, s.heap.get? b = some o → (∀ vs, o.data ≠ .fields vs) → b ≠ e := fun b o hb hnf q => by
    rw [q, he] at hb; injection hb with hb; subst hb; exact hnf vs hd
  refine h _ ⟨fun b o hbo => keep b o (fun q => by rw [q, hen] at hbo; cases hbo) (kb₁ b o hbo), hen, hl.of_keeps fun b o hb hnf => ?_, ?_⟩ fun b o hb hnf => ?_
  · obtain ⟨sl, hs⟩ := hs₁.2.2 b o hb
    exact ⟨_, keep b _ (noRec b o hb hnf) hs, rfl⟩
  · exact ⟨_, _, h₁.objs.size, _, _, he₃, ⟨Obj.cls_mapFields _ _, by rw [Array.getElem?_setIfInBounds_ne (by decide)]; exact h2⟩, hd₃, by simp [hsz], kb₁.fresh, hTe, hT₃, rfl, h3⟩
  · obtain ⟨sl, hs⟩ := hs₁.2.2 b o hb
    exact ⟨sl, keep b _ (noRec b o hb hnf) hs⟩

theorem noteFirstC {base : Heap} {env : Env} {outer : List Env} {L e : Addr} {oe : Obj} {vs : Array Value} {c : Value} {Q : Unit → Shared → Prop}
    (hfr : A.frames = some (env :: outer)) (hl : s.heap.FunFrames base (env :: outer)) (hf : env.frame = some L)
    (he : s.heap.get? e = some oe) (hkb : base.StaysIn s.heap) (hen : base.get? e = none) (hd : oe.data = .fields vs) (h1 : vs[1]? = some .none) (h2 : vs[2]? = some c)
    (h : ∀ h', FlyC base (env :: outer) e oe.cls c (rawInt L) h' → s.heap.UpToSlots h' → Q () { s with heap := h' }) : wpAny M A (noteFrame (.ref e) env) Q E s := by
  unfold noteFrame
  simp only [hf]
  refine wpAny_bind (wpAny_field he hd h1 ?_)
  rw [if_neg (by decide)]
  exact entryC hfr hl hf he hkb hen hd (Array.getElem?_eq_some_iff.mp h1).1 h2 h
theorem noteOnC {base : Heap} {env : Env} {outer : List Env} {L e : Addr} {cls c : Value} {Q : Unit → Shared → Prop}
    (hfr : A.frames = some (env :: outer)) (hf : env.frame = some L) (R : FlyC base (env :: outer) e cls c .none s.heap)
    (h : ∀ h', FlyC base (env :: outer) e cls c (rawInt L) h' → s.heap.UpToSlots h' → Q () { s with heap := h' }) : wpAny M A (noteFrame (.ref e) env) Q E s := by
  obtain ⟨hkb, hen, hl, oe, vs, T, oT, ts, he, ⟨hcls, h2⟩, hd, h1, hnT, hTe, hT, hdT, h3⟩ := R
  subst hcls
  unfold noteFrame
  simp only [hf]
  refine wpAny_bind (wpAny_field he hd h1 ?_)
  rw [if_pos (show (Value.ref T != Value.none) = true from by simp)]
  refine wpAny_bind (wpAny_field hT hdT h3 ?_)
  rw [if_neg (show ¬ ((Value.none == rawInt L) = true) from by simp [rawInt])]
  refine wpAny_bind (wpAny_setField hT hdT (Array.getElem?_eq_some_iff.mp h3).1 ?_)
  have other : ∀ b, b ≠ T → (s.heap.update T (Obj.mapFields (·.setIfInBounds 3 Value.none))).get? b = s.heap.get? b := fun b hb => Heap.get?_update_other _ _ (Ne.symm hb)
  have noRec : ∀ b o, s.heap.get? b = some o → (∀ vs, o.data ≠ .fields vs) → b ≠ T := fun b o hb hnf q => by
    rw [q, hT] at hb; injection hb with hb; subst hb; exact hnf ts hdT
  exact entryC hfr (hl.of_keeps fun b o hb hnf => ⟨o, (other b (noRec b o hb hnf)).trans hb, rfl⟩) hf ((other e (Ne.symm hTe)).trans he)
    (fun b o hbo => (other b fun q => by rw [q, hnT] at hbo; cases hbo).trans (hkb b o hbo)) hen hd (Array.getElem?_eq_some_iff.mp h1).1 h2
    fun h' x1 x2 => h h' x1 fun b o hb hnf => x2 b o ((other b (noRec b o hb hnf)).trans hb) hnf
theorem flightC {base : Heap} {l : List Env} {e : Addr} {cls c fl : Value} {Q : Unit → Shared → Prop} (R : FlyC base l e cls c fl s.heap)
    (h : ∀ h', FlyC base l e cls c .none h' → s.heap.UpToSlots h' → Q () { s with heap := h' }) : wpAny M A (setFlight (.ref e) none) Q E s := by
  obtain ⟨hkb, hen, hl, oe, vs, T, oT, ts, he, hcls, hd, h1, hnT, hTe, hT, hdT, h3⟩ := R
  have hsz3 : 3 < ts.size := (Array.getElem?_eq_some_iff.mp h3).1
  have other : ∀ b, b ≠ T → (s.heap.update T (Obj.mapFields (·.setIfInBounds 3 ((none : Option Addr).elim Value.none fun f => rawInt f)))).get? b = s.heap.get? b :=
    fun b hb => Heap.get?_update_other _ _ (Ne.symm hb)
  have noRec : ∀ b o, s.heap.get? b = some o → (∀ vs, o.data ≠ .fields vs) → b ≠ T := fun b o hb hnf q => by
    rw [q, hT] at hb; injection hb with hb; subst hb; exact hnf ts hdT
  unfold setFlight
  refine wpAny_bind (wpAny_field he hd h1 ?_)
  rw [if_pos (show (Value.ref T != Value.none) = true from by simp)]
  refine wpAny_setField hT hdT hsz3 (h _ ⟨fun b o hbo => (other b fun q => by rw [q, hnT] at hbo; cases hbo).trans (hkb b o hbo), hen,
    hl.of_keeps fun b o hb hnf => ⟨o, (other b (noRec b o hb hnf)).trans hb, rfl⟩, ?_⟩ fun b o hb hnf => ⟨o.slots, (other b (noRec b o hb hnf)).trans hb⟩)
  exact ⟨oe, vs, T, _, _, (other e (Ne.symm hTe)).trans he, hcls, hd, h1, hnT, hTe, Heap.get?_update_self _ hT (Obj.isFreed_of_fields (Obj.data_mapFields hdT _)), Obj.data_mapFields hdT _, by simp [hsz3]⟩
theorem leavingC {base : Heap} {env : Env} {outer : List Env} {L e : Addr} {oe : Obj} {vs : Array Value} {c : Value} {Q : Unit → Shared → Prop}
    (hfr : A.frames = some (env :: outer)) (hl : s.heap.FunFrames base (env :: outer)) (hf : env.frame = some L)
    (he : s.heap.get? e = some oe) (hkb : base.StaysIn s.heap) (hen : base.get? e = none) (hd : oe.data = .fields vs) (h1 : vs[1]? = some .none) (h2 : vs[2]? = some c)
    (h : ∀ h', FlyC base outer e oe.cls c .none h' → s.heap.UpToSlots h' → Q () { s with heap := h' }) : wpAny M A (leaving env (.ref e)) Q E s := by
  unfold leaving
  refine wpAny_bind (noteFirstC hfr hl hf he hkb hen hd h1 h2 fun h₁ R₁ u₁ => ?_)
  refine flightC R₁ fun h₂ R₂ u₂ => ?_
  obtain ⟨k1, k2, k3, k4⟩ := R₂
  exact h h₂ ⟨k1, k2, k3.2.2, k4⟩ (u₁.trans u₂)
end

structure MadeX (h h' : Heap) (e : Addr) (cls c : Value) : Prop where
  keeps : ∀ b o, h.get? b = some o → h'.get? b = some o
  new : h.get? e = none
  there : ∃ oe vs, h'.get? e = some oe ∧ oe.cls = cls ∧ oe.data = .fields vs ∧ vs[1]? = some .none ∧ vs[2]? = some c

section
variable {w : World} {A : Around} {E : Value → Shared → Prop} {s : Shared} {env : Env}
variable {nm q : Str} {C N : Addr} {bs bm bmB : List Value} {hdct : Bool} {sn : List Str} {sub : List Value} {ab : Bool} {col : Option Bool} {dd : Option Addr} {k0 k1 k2 k3 k5 : Option Value} {B newId nid initId : String}

theorem raiseStmtH {x : Sem Value} {Q : Flow → Shared → Prop} (hbase : bm.contains (.type "BaseException") = true)
    (h : wpAny (model pw w) A x (fun v s₁ => ∃ e t l h₁, v = .ref e ∧ s₁.heap.get? C = some (excClassObj nm q C N bs bm hdct sn sub ab col dd k0 k1 k2 k3 k5 newId) ∧
      s₁.heap.get? e = some { cls := .ref C, data := .fields #[.ref t, .none, .none, .none, .bool false, .none] } ∧ (∀ b o, h₁.get? b = some o → s₁.heap.get? b = some o) ∧ h₁.get? e = none ∧ Hush A l h₁ ∧
      ∀ h', MadeX h₁ h' e (.ref C) (A.handled.getD .none) → E (.ref e) { s₁ with heap := h' }) E s) :
    wpAny (model pw w) A (raiseStmt env (some x) none) Q E s := by
  have hcB : (Value.ref C :: bm).contains (.type "BaseException") = true := by rw [List.contains_cons, hbase, Bool.or_true]
  unfold raiseStmt
  refine wpAny_bind (wpAny_mono h (fun v s₁ h₁ => ?_) fun _ _ x => x)
  obtain ⟨e, t, l, hh, rfl, hC, he, hk, hn, H, hE⟩ := h₁
  obtain ⟨hp, g, d, tk, os⟩ := s₁
  repeat (first | with_reducible refine wpAny_loadPart_at he ?_ | with_reducible refine wpAny_loadPart_at hC ?_ | (with_reducible refine wpAny_isSubtype_exc hC ?_; rw [hcB]) | wp_step)
  refine raiseHush (l := l) (H.keeps fun b _ o z => hk b o z) (fun hm => ?_) he rfl (Nat.lt_of_lt_of_le (by decide : 2 < 6) (Nat.le_refl _)) ?_
  · obtain ⟨o, vs, ho, _⟩ := H.mem _ hm
    rw [hn] at ho; cases ho
  intro h' oe' vs' hs hoe hc _ _ hd hv
  refine hE h' ⟨fun b o z => (hs.extBut b o (fun y => by rw [y, hn] at z; cases z)) (hk b o z), hn, oe', vs', hoe, hc, hd, ?_⟩
  rcases hv with ⟨y, rfl⟩ | ⟨x, y, rfl⟩
  · rw [y]; exact ⟨rfl, rfl⟩
  · rw [y]; exact ⟨rfl, rfl⟩

theorem Raise_callH (F : ExcBaseFacts B newId initId bmB) {mN : Str → Option Value} {x : Str} {np cpos pos : Pos} {args : List Expr} {Q : Flow → Shared → Prop}
    (hbase : bm.contains (.type "BaseException") = true) (hplain : (backTo cpos (starEach args env)).any (·.1) = false) (hni : mN "__init__" = none)
    (h : wpAny (model pw w) A (eval (.Name x np) env) (fun f s₁ => f = .ref C ∧ wpAny (model pw w) A (evalArgs (.ref C) true (backTo cpos (starEach args env)) [])
      (fun a s₂ => a.kw = [] ∧ a.pos.length ≤ sizeLine ∧ s₂.heap.get? C = some (excClassObj nm q C N bs bm hdct sn sub ab col dd k0 k1 k2 k3 k5 newId) ∧ s₂.heap.Ns N mN ∧ OwnTail s₂.heap bmB bm ∧ (∃ l, Hush A l s₂.heap) ∧
        ∀ h' e, MadeX s₂.heap h' e (.ref C) (A.handled.getD .none) → E (.ref e) { s₂ with heap := h' }) E s₁) E s) :
    wpAny (model pw w) A (exec (.Raise (some (.Call (.Name x np) args [] cpos)) none pos) env) Q E s := by
  rw [arm_exec_Raise]
  refine wpAny_bind (wpAny_standAt (raiseStmtH (C := C) (nm := nm) (q := q) (N := N) (bs := bs) (bm := bm) (hdct := hdct) (sn := sn) (sub := sub) (ab := ab) (col := col) (dd := dd) (k0 := k0) (k1 := k1) (k2 := k2) (k3 := k3) (k5 := k5) (newId := newId) hbase ?_))
  refine wpAny_bind (wpAny_mono (wpAny_Call_ofName (wpAny_mono h (fun f s₁ h₁ => ?_) fun _ _ x => x)) (fun v s₃ h₃ => wpAny_bind (wpAny_standAt (wpAny_pure h₃))) fun _ _ x => x)
  obtain ⟨rfl, h₁⟩ := h₁
  unfold callWith
  refine wpAny_bind (wpAny_holding (wpAny_mono h₁ (fun a s₂ h₂ => wpAny_bind (wpAny_standAt ?_)) fun _ _ x => x))
  obtain ⟨apos, akw⟩ := a
  obtain ⟨hkw, hlen, hC, hn, T, ⟨l, H⟩, h₂⟩ := h₂
  obtain rfl : akw = [] := hkw
  obtain ⟨hp, g, d, tk, os⟩ := s₂
  simp only [hplain]
  refine wpAny_bind (wpAny_keeperOf_exc hC ?_)
  refine wpAny_bind (wpAny_call_exc_subT (hrest := hlen) F T hC hn hni fun h' e hm => wpAny_bind (wpAny_holding (wpAny_point (wpAny_pure ?_))))
  obtain ⟨t, ht, _, _⟩ := hm.there
  exact ⟨e, t, l, hp, rfl, hm.keeps _ _ hC, ht, hm.keeps, hm.new, H, fun h'' hx => h₂ h'' e hx⟩
end
section
variable {w : World} {A : Around} {E : Value → Shared → Prop} {s : Shared} {name : Str} {scope : Scope} {L a : Addr} {cd : Value} {h₀ : Heap} {m mg : Str → Option Value}
  {x : Str} {C : Addr} {B newId initId : String} {bm : List Value} {np cpos pos : Pos} {Q : Flow → Shared → Prop}
theorem Raise_ownH {e₀ : Expr} {rest : List Expr} (F : Fr h₀ L s.heap m) (hg : h₀.Ns mainGlobals mg) (O : OwnCls x C bm newId mg h₀) (FB : ExcBaseFacts B newId initId bm)
    (h : wpAny (model pw w) A (spliced (backTo cpos (starEach (e₀ :: rest) (envOf name scope L a cd)))) (fun vs s₂ => vs.length ≤ sizeLine ∧ (∀ b o, h₀.get? b = some o → s₂.heap.get? b = some o) ∧ (∃ l, Hush A l s₂.heap) ∧
      ∀ h' e, MadeX s₂.heap h' e (.ref C) (A.handled.getD .none) → E (.ref e) { s₂ with heap := h' }) E s)
    (he : starEach (e₀ :: rest) (envOf name scope L a cd) = (false, eval e₀ (envOf name scope L a cd)) :: starEach rest (envOf name scope L a cd) := by rfl)
    (hplain : (backTo cpos (starEach rest (envOf name scope L a cd))).any (·.1) = false := by rfl)
    (hk : scope.kind = .function := by rfl) (hx : (envOf name scope L a cd).kindOf x = some .globalImplicit := by rfl) (hd : (x == ("__debug__" : Str)) = false := by decide) :
    wpAny (model pw w) A (exec (.Raise (some (.Call (.Name x np) (e₀ :: rest) [] cpos)) none pos) (envOf name scope L a cd)) Q E s := by
  obtain ⟨tl, N, nm, q, bs, hdct, sn, sub, ab, col, dd, k0, k1, k2, k3, k5, mN, hC, hN, hni, T⟩ := O.obj
  refine Raise_callH (C := C) (nm := nm) (q := q) (N := N) (bs := bs) (bm := tl) (hdct := hdct) (sn := sn) (sub := sub) (ab := ab) (col := col) (dd := dd) (k0 := k0) (k1 := k1) (k2 := k2) (k3 := k3) (k5 := k5)
    FB (mN := mN) (T.hasType FB.hasBase) (by rw [he]; show (false || (backTo cpos (starEach rest (envOf name scope L a cd))).any (·.1)) = false; rw [hplain]; rfl) hni (ld_own F hg O ⟨rfl, ?_⟩ hk hx hd)
  rw [he] at h ⊢
  exact Calls.evalArgs_plain (wpAny_mono h (fun vs s₂ h₂ => ⟨rfl, h₂.1, h₂.2.1 _ _ hC, hN.keeps h₂.2.1, T.keeps h₂.2.1, h₂.2.2.1, h₂.2.2.2⟩) fun _ _ y => y)
end

def RaisedC (base G : Heap) (l : List Env) (e : Addr) (cls c : Value) (news : List (Addr × Obj)) (h : Heap) : Prop :=
  ∃ B, base.StaysIn B ∧ (∀ b o, G.get? b = some o → b ∉ l.filterMap (·.frame) → B.get? b = some o) ∧ (∀ q ∈ news, B.get? q.1 = some q.2 ∧ G.get? q.1 = none ∧ base.get? q.1 = none) ∧ FlyC B l e cls c .none h

section
variable {M : Model} {A : Around} {E : Value → Shared → Prop} {s' : Shared} {base g g₂ h : Heap} {outer : List Env} {L a e t : Addr} {m : Str → Option Value} {name : Str} {scope : Scope} {cd : Value} {Q : Unit → Shared → Prop} {news : List (Addr × Obj)}
theorem leave_raiseC {cls c : Value} (K : Below A base outer g) (hx : MadeX h s'.heap e cls c) (F : Fr g L h m) (N : News g L h news)
    (hQ : ∀ h', RaisedC base g outer e cls c news h' → g.UpToSlots h' → Q () { s' with heap := h' }) (hk : scope.kind = .function := by rfl) :
    wpAny M (A.deeper (envOf name scope L a cd)) (leaving (envOf name scope L a cd) (.ref e)) Q E s' := by
  have K' := K.push (name := name) (a := a) (cd := cd) F hk
  have hin : ∀ env ∈ (envOf name scope L a cd :: outer), ∀ b, env.frame = some b → b ∈ (envOf name scope L a cd :: outer).filterMap (·.frame) := fun env he b hb => List.mem_filterMap.mpr ⟨env, he, hb⟩
  have st : base.StaysIn (hideAll h ((envOf name scope L a cd :: outer).filterMap (·.frame))) := fun b o q => hideAll_get _ (K'.stays b o q) fun hm => by
    rw [(K'.frames.mem hm).1] at q; cases q
  have sg : ∀ b o, g.get? b = some o → b ∉ outer.filterMap (·.frame) → (hideAll h ((envOf name scope L a cd :: outer).filterMap (·.frame))).get? b = some o := fun b o q nm => hideAll_get _ (F.keep b o q) fun hm => by
    rcases kts_mem hm with z | z
    · rw [z, kts_self F] at q
      cases q
    · exact nm z
  have hl : ∀ q ∈ news, (hideAll h ((envOf name scope L a cd :: outer).filterMap (·.frame))).get? q.1 = some q.2 ∧ g.get? q.1 = none ∧ base.get? q.1 = none := fun q hq => by
    refine ⟨hideAll_get _ (N q hq).1 fun hm => ?_, (N q hq).2.2, fresh_of_stays K.stays (N q hq).2.2⟩
    obtain ⟨env, he, hf⟩ := List.mem_filterMap.mp hm
    rcases List.mem_cons.mp he with rfl | he
    · exact (N q hq).2.1 (Option.some.inj hf).symm
    · obtain ⟨o, ho, _⟩ := (K.frames.mem (List.mem_filterMap.mpr ⟨env, he, hf⟩)).2
      rw [(N q hq).2.2] at ho; cases ho
  obtain ⟨oe, vs, h1, rfl, h3, h4, h5⟩ := hx.there
  have hnb : (hideAll h ((envOf name scope L a cd :: outer).filterMap (·.frame))).get? e = none := by
    cases q : (hideAll h ((envOf name scope L a cd :: outer).filterMap (·.frame))).get? e with
    | none => rfl
    | some o => have := of_hideAll _ q; rw [hx.new] at this; cases this
  refine leavingC K'.stack ((funFrames_hide K'.frames hin).of_keeps fun b o hb _ => ⟨o, hx.keeps b o hb, rfl⟩) rfl h1 (fun b o q => hx.keeps b o (of_hideAll _ q)) hnb h3 h4 h5 fun h' x1 x2 =>
    hQ h' ⟨_, st, sg, hl, x1⟩ (((Heap.UpToSlots.of_keeps F.keep).trans (Heap.UpToSlots.of_keeps hx.keeps)).trans x2)
end

section
variable {w : World} {A A₀ : Around} {E : Value → Shared → Prop} {s' : Shared} {base g g₀ G : Heap} {outer : List Env} {L a e t C : Addr} {m : Str → Option Value} {name : Str} {scope : Scope} {cd : Value}
  {c : Value} {b₀ : Stmt} {suite : List Stmt} {pos np : Pos} {rest : List ExceptHandler} {Q : Flow → Shared → Prop} {news : List (Addr × Obj)} {KF : Frag}
  {p : Program} {loose : List Str} {mean : ExcName → Option Value} {mg mb : Str → Option Value} {x : Str}
theorem caughtC (R : RaisedC base G (envOf name scope L a cd :: outer) e (.ref C) c news s'.heap) (hA : A.frames = some (envOf name scope L a cd :: outer)) (F : Fr g L G m) (K : Below A₀ base outer g) (hsm : G.UpToSlots s'.heap) (XB : KF.In base) (TB : Top p loose mean mg mb base)
    (T0 : KtsTurn (outer.filterMap (·.frame)) g₀ g)
    (ex : nsIn KF mainGlobals x = some (some (.ref C))) (q : ktsIn KF C "BaseException" = true)
    (k : ∀ h' g' oe ws, KtsTurn (outer.filterMap (·.frame)) g₀ g' → Fr g' L h' m → News g' L h' ((e, oe) :: news) → oe.cls = .ref C → oe.data = .fields ws → ws[2]? = some c → (∀ q ∈ news, q.1 ≠ e) → Below A₀ base outer g' → KF.In g' → Top p loose mean mg mb g' →
      wpAny (model pw w) (A.mark (some (.ref e))) (execs (b₀ :: suite) (envOf name scope L a cd)) Q E { s' with heap := h' })
    (hk : scope.kind = .function := by rfl) (hx : (envOf name scope L a cd).kindOf x = some .globalImplicit := by rfl) (hd : (x == ("__debug__" : Str)) = false := by decide)
    (hE : PassesOwnAt (model pw w) (A.mark (some (.ref e))) A (envOf name scope L a cd) E := by passes_own) :
    wpAny (model pw w) A (noteFrame (.ref e) (envOf name scope L a cd))
      (fun _ s₂ => wpAny (model pw w) A (setFlight (.ref e) none) (fun _ s₃ =>
        wpAny (model pw w) A (handleBy (.ref e) (envOf name scope L a cd) (.ExceptHandler (some (.Name x np)) none (b₀ :: suite) pos :: rest)) Q E s₃) E s₂) E s' := by
  obtain ⟨B, hB, hBG, hl, hfl⟩ := R
  have hL : B.get? L = none := by
    obtain ⟨_, ⟨L', _, hf, hn', _⟩, _⟩ := hfl.2.2.1
    obtain rfl : L = L' := Option.some.inj hf
    exact hn'
  refine noteOnC hA rfl hfl fun h₄ hheld₄ hsm₄ => ?_
  refine flightC hheld₄ fun h₅ hheld hsm₅' => ?_
  have hsm₅ := hsm₄.trans hsm₅'
  obtain ⟨g₅, T₅, F₅, K₅⟩ := kts_ground K F hBG hheld.1 (hsm.trans hsm₅)
  have X₅ : KF.In g₅ := XB.keeps K₅.stays
  have P₅ : TopRead p loose mg mb g₅ := topRead_of (TB.keeps K₅.stays)
  obtain ⟨ob, _, hob, hobc, _⟩ := hheld.first
  obtain ⟨nm, q', N, bs, bm, hdct, sn, sub, ab, col, dd, k0, k1, k2, k3, k5, newId, hC, hbase, hbT⟩ := kts_cls X₅ q
  have hC₅ := F₅.keep _ _ hC
  refine wpAny_handleBy_cons (codeAny_handlers_test (name_K F₅ X₅ P₅ ex ?_ hk hx hd)) (by intro q; cases q)
  refine wpAny_excMatches_sub_self hC₅ hob hobc hbase (codeAny_handlers_suite ?_)
  refine flightC hheld fun h₆ hfl₆ hsm₆ => ?_
  obtain ⟨g₆, T₆, F₆, K₆⟩ := kts_ground K F hBG hfl₆.1 ((hsm.trans hsm₅).trans hsm₆)
  obtain ⟨oe, ws, hoe, hoec, hoed, hoe2⟩ := hfl₆.first
  have ne₆ : g₆.get? e = none := T₆.none_ _ (kts_fresh F hBG hfl₆.2.1 fun o ho m => by
    obtain ⟨_, o', ho', hd⟩ := K.frames.mem m
    rw [ho] at ho'
    cases ho'
    obtain ⟨sl, hs⟩ := ((hsm.trans hsm₅).trans hsm₆) _ _ (F.keep _ _ ho) hd
    rw [hoe] at hs
    cases hs
    exact hd _ hoed)
  have Nl : News g₆ L h₆ news := fun q hq => ⟨hfl₆.1 _ _ (hl q hq).1, (fun z => by have := (hl q hq).1; rw [z, hL] at this; cases this), T₆.none_ _ (kts_none F.keep (hl q hq).2.1)⟩
  have N₆ : News g₆ L h₆ ((e, oe) :: news) := News.more F₆ Nl hoe (fun es n q => by rw [hoed] at q; cases q) ne₆
  exact wpAny_passesOwnAt hE (k h₆ g₆ oe ws (T0.trans T₆) F₆ N₆ hoec hoed hoe2 (fun q hq z => by
    have := (hl q hq).1
    rw [z, hfl₆.2.1] at this; cases this) K₆ (XB.keeps K₆.stays) (TB.keeps K₆.stays))
end
end
section
theorem kwXF22_0 : True := by
  w_top off
  k_with_none
  trivial

open PySem.Builtin PySem.Builtin.Str
theorem kwXF22_1 : True := by
  k_with "compareOp NotEq str str" =>
    (k_here; k_dflt (first | refine neS_no (by first | assumption | rfl) ?_ | refine neS_of (by assumption) ?_))
  trivial
def FnX (w : World) (hd : Option Value) (f : Addr) (vs : List Value) (sz : Nat) (news : List (Addr × Obj)) (C : Addr) : Prop :=
  ∀ (p : Program) (loose : List Str) (mean : ExcName → Option Value) (mg mb : Str → Option Value) (dp un : Nat) (gd : Option (List Code)) (env : Env) (outer : List Env) (A₀ : Around) (base h₀ : Heap) (L : Addr) (m : Str → Option Value) (s : Shared)
    (Q E : Value → Shared → Prop),
    Below A₀ base outer h₀ → Fr h₀ L s.heap m → (heapK w.params).In h₀ → News h₀ L s.heap news → Top p loose mean mg mb h₀ → env.frame = some L → env.scope.kind = .function → dp + sz < recursionLimit → un + 8 * sz < cLine →
    (∀ e G h' tk', Fr h₀ L G m → RaisedC base G (env :: outer) e (.ref C) (hd.getD .none) news h' → G.UpToSlots h' → E (.ref e) { s with heap := h', toks := tk' }) →
    wpAny (model pw w) (topA hd dp un gd env outer) (call (.ref f) vs) Q E s
theorem p229x (w : World) (hd : Option Value) (r : Str) (tk : Tok) (pt : Value) (news : List (Addr × Obj)) (hHu : HushIn hd news) (hl : r.length ≤ 100) (f1 : ¬ Txt.slice r none (some 3) = Str.ofString "229") :
    FnX w hd 303 [.str r tk, pt] 2 news 282 := by
  unfold FnX
  intro p loose mean mg mb dp un gd env outer A₀ base h₀ L m s Q E B F X N T hf hk hdp hun ret
  refine wpAny_call ?_
  refine' code_def (binds := [(Str.ofString "resp", .str r tk), (Str.ofString "peer", pt)]) B F X N T rfl hf hk ?k6 ?k7 ?k8 ?k9 ?kB ?_ ?c2 ?c3 ?c4 ?c5
  case k6 => k_is
  case k7 => k_is
  case k8 => k_room
  case k9 => exact BindsTo.of_eq rfl
  case c5 => decide
  case kB => exact locs rfl
  case c2 => exact rfl
  case c3 => exact rfl
  case c4 => exact rfl
  intro g' L' h' FG' F' N' B' X' T'
  (try dsimp only)
  k_fold
  k_steps
  rename News g' L' _ _ => kN
  rename Fr g' L' _ _ => kF
  obtain ⟨lc, hlc, _⟩ := hHu.hush (A := (topA hd dp un gd env outer)) kN
  have O : OwnCls (Str.ofString "error_reply") 282 [.type "Exception", .type "BaseException", .type "object"] "Exception.__new__" mg g' := own_of_in X' (topRead_of T') (by k_is) (by k_exc)
  refine Raise_ownH kF T'.g O PySem.F.excBase_Exception ?_
  k_steps
  · exact hlc
  · rename MadeX _ _ _ _ _ => kM
    exact leave_raiseC B' kM kF kN fun h9 R9 U9 => ret _ g' _ _ FG' R9 U9
theorem p257x (w : World) (hd : Option Value) (r : Str) (tk : Tok) (news : List (Addr × Obj)) (hHu : HushIn hd news) (hl : r.length ≤ 100) (f1 : ¬ Txt.slice r none (some 3) = Str.ofString "257") :
    FnX w hd 310 [.str r tk] 2 news 282 := by
  unfold FnX
  intro p loose mean mg mb dp un gd env outer A₀ base h₀ L m s Q E B F X N T hf hk hdp hun ret
  refine wpAny_call ?_
  refine' code_def (binds := [(Str.ofString "resp", .str r tk)]) B F X N T rfl hf hk ?k6 ?k7 ?k8 ?k9 ?kB ?_ ?c2 ?c3 ?c4 ?c5
  case k6 => k_is
  case k7 => k_is
  case k8 => k_room
  case k9 => exact BindsTo.of_eq rfl
  case c5 => decide
  case kB => exact locs rfl
  case c2 => exact rfl
  case c3 => exact rfl
  case c4 => exact rfl
  intro g' L' h' FG' F' N' B' X' T'
  (try dsimp only)
  k_fold
  k_steps
  rename News g' L' _ _ => kN
  rename Fr g' L' _ _ => kF
  obtain ⟨lc, hlc, _⟩ := hHu.hush (A := (topA hd dp un gd env outer)) kN
  have O : OwnCls (Str.ofString "error_reply") 282 [Value.type "Exception", Value.type "BaseException", Value.type "object"] "Exception.__new__" mg g' := own_of_in X' (topRead_of T') (by k_is) (by k_exc)
  refine Raise_ownH kF T'.g O PySem.F.excBase_Exception ?_
  k_steps
  · exact hlc
  · rename MadeX _ _ _ _ _ => kM
    exact leave_raiseC B' kM kF kN fun h9 R9 U9 => ret _ g' _ _ FG' R9 U9
end
section
theorem kwXF23_0 : True := by
  w_top off
  k_with_none
  trivial

open PySem.Builtin PySem.Builtin.Str
theorem kwXF23_1 : True := by
  k_with "compareOp NotEq str str" =>
    (k_here; k_dflt (first | refine neS_no (by first | assumption | rfl) ?_ | refine neS_of (by assumption) ?_))
  k_with "compareOp Eq str str" =>
    (k_here; k_dflt (first | refine eqS_yes (by first | assumption | rfl) ?_ | refine eqS_no (by assumption) ?_))
  k_with "exec While Compare" =>
    (k_here; k_dflt (refine whl_start 5 ?_))
  k_with "WhlIf" =>
    first | refine WhlIf.yes (decide_eq_true (by omega)) ?_ | refine WhlIf.no (decide_eq_false (by omega)) ?_
  trivial
theorem p257k (w : World) (hd : Option Value) (r : Str) (tk : Tok) (news : List (Addr × Obj)) (hl : r.length ≤ 100) (hl2 : 15 ≤ r.length)
    (f1 : Txt.slice r none (some 3) = Str.ofString "257") (f2 : Txt.slice r (some 3) (some 5) = Str.ofString " \"") (f4 : ¬ Txt.item r 5 = Str.ofString "\"") (f5 : Txt.item r (5 + 1) = Str.ofString "\"") (f6 : ¬ Txt.item r (5 + 1 + 1) = Str.ofString "\"") :
    Fn w hd 310 [.str r tk] 2 news (SameStr news (Str.ofString "" ++ Txt.item r 5)) := by
  unfold Fn
  intro p loose mean mg mb dp un gd env outer A₀ base h₀ L m s Q E B F X N T hf hk hdp hun ret
  refine wpAny_call ?_
  refine' code_def (binds := [(Str.ofString "resp", .str r tk)]) B F X N T rfl hf hk ?k6 ?k7 ?k8 ?k9 ?kB ?_ ?c2 ?c3 ?c4 ?c5
  case k6 => k_is
  case k7 => k_is
  case k8 => k_room
  case k9 => exact BindsTo.of_eq rfl
  case c5 => decide
  case kB => exact locs rfl
  case c2 => exact rfl
  case c3 => exact rfl
  case c4 => exact rfl
  intro g' L' h' FG' F' N' B' X' T'
  (try dsimp only)
  k_fold
  k_steps
  exact ret _ _ _ _ (by k_asm) (by k_asm) ⟨rfl, _, rfl⟩
theorem p257q (w : World) (hd : Option Value) (r : Str) (tk : Tok) (news : List (Addr × Obj)) (hl : r.length ≤ 100) (hl2 : 15 ≤ r.length)
    (f1 : Txt.slice r none (some 3) = Str.ofString "257") (f2 : Txt.slice r (some 3) (some 5) = Str.ofString " \"") (f4 : ¬ Txt.item r 5 = Str.ofString "\"") (f5 : Txt.item r (5 + 1) = Str.ofString "\"") (f6 : Txt.item r (5 + 1 + 1) = Str.ofString "\"") (f7 : Txt.item r (5 + 1 + 1 + 1) = Str.ofString "\"") (f8 : ¬ Txt.item r (5 + 1 + 1 + 1 + 1) = Str.ofString "\"") :
    Fn w hd 310 [.str r tk] 2 news (SameStr news (Str.ofString "" ++ Txt.item r 5 ++ Txt.item r (5 + 1))) := by
  unfold Fn
  intro p loose mean mg mb dp un gd env outer A₀ base h₀ L m s Q E B F X N T hf hk hdp hun ret
  refine wpAny_call ?_
  refine' code_def (binds := [(Str.ofString "resp", .str r tk)]) B F X N T rfl hf hk ?k6 ?k7 ?k8 ?k9 ?kB ?_ ?c2 ?c3 ?c4 ?c5
  case k6 => k_is
  case k7 => k_is
  case k8 => k_room
  case k9 => exact BindsTo.of_eq rfl
  case c5 => decide
  case kB => exact locs rfl
  case c2 => exact rfl
  case c3 => exact rfl
  case c4 => exact rfl
  intro g' L' h' FG' F' N' B' X' T'
  (try dsimp only)
  k_fold
  k_steps
  exact ret _ _ _ _ (by k_asm) (by k_asm) ⟨rfl, _, rfl⟩
end
section
open PySem.Builtin
theorem ln_args (a : Value) : argsOk "list.__new__" ⟨[a], []⟩ := by unfold argsOk; kernel_rfl
theorem ln_kind : builtinKind "list.__new__" = some .builtinFn := by decide +kernel
theorem ln_split : splitId "list.__new__" = some ("list", "__new__") := by decide +kernel
structure MakesL (M : Model) (h : Heap) (C : Addr) : Prop where
  obj : ∃ oc od cd sl, h.get? C = some ⟨oc, od, .cls cd, sl⟩ ∧ cd.abstract = false ∧ cd.hasDel = false ∧ cd.mro.isEmpty = false
  made : Looks M h (Bind.madeBy (.ref C)) (some "list.__new__")
  base : Looks M h (Bind.staticBase (.ref C)) (.ref C)
  self : Looks M h (isSubtype (.ref C) (.ref C)) true
  top : Looks M h (isSubtype (.ref C) (.type "list")) true
  call : Looks M h (specialOf (.ref C) "__call__") (some (.builtin "type.__call__"))
  typ : Looks M h (isInstance (.ref C) (.type "type")) true
section
variable {w : World} {A : Around} {K : Frag} {C : Addr} {R : Result → Shared → Prop} {h : Heap} {g : Array GenState} {d : Drawn} {t : Nat} {os : OsState}
theorem newL (Y : MakesL (model pw w) h C) 
    (hq : R (.ok (.ret (.ref (h.objs.size + 1)))) ⟨(h.push emptyDict).push ⟨.ref C, some h.objs.size, .seq #[], #[]⟩, g, d, t, os⟩) :
    codeAny (model pw w) A (.call (.builtin "list.__new__") ⟨[.ref C], []⟩) R ⟨h, g, d, t, os⟩ := by
  obtain ⟨⟨oc, od, cd, sl, hC, e1, e2, e4⟩, made, base, self, top, call, typ⟩ := Y
  have ha := ln_args (.ref C)
  refine codeAny_call_builtin_code (Code.quiet_builtin _ (by decide +kernel)) ?_
  simp only [checkBuiltinCall, ln_kind, ln_split]
  have here : Looks (model pw w) h (Bind.madeHere "list.__new__" (.ref C)) () := base.andThen (made.andThen (Looks.of_pure (by simp only [Option.map_some, bne_self_eq_false, Bool.false_eq_true, if_false])))
  have ist : Looks (model pw w) h (isType (.ref C)) true := (Looks.ld hC).andThen .now
  have fin : codeAny (model pw w) A (.builtin "list.__new__" ⟨[.ref C], []⟩) R ⟨h, g, d, t, os⟩ := by
    refine codeAny_builtin_stack PySem.F.entry_list_new rfl fun p st => ?_
    have hown := owner_list_new
    simp only [hown]
    repeat (first | simp only [Bool.false_eq_true, if_false, Bool.not_true] | lk)
    refine nd_load (Heap.get?_push_of_some _ (Heap.get?_push_of_some _ hC)) ?_
    refine wpAny_pure (wpAny_pure ?_)
    rw [e2]
    refine wpAny_pure (wpAny_pure ?_)
    show R _ _
    rw [Heap.size_push]
    exact hq
  cases hsig : Manifest.signature? "list.__new__" with
  | none => 
    repeat (first | simp only [bne_self_eq_false, Bool.false_eq_true, if_false, Bool.not_true] | exact fin | lk)
  | some sig =>
    simp only [argsOk, hsig] at ha
    have h2 : Bind.checkArgs "list.__new__" sig ⟨[.ref C], []⟩ = pure () := ha
    dsimp only
    rw [h2]
    repeat (first | simp only [bne_self_eq_false, Bool.false_eq_true, if_false, Bool.not_true] | exact fin | lk)
abbrev accE (C dx : Addr) : Obj := { cls := .ref C, dict := some dx, data := .seq #[] }
theorem makeL_core {init : Value} (Y : MakesL (model pw w) h C) (hi : Looks (model pw w) h (typeLookup (.ref C) "__init__") (some init))
    (hb : ∀ self, Looks (model pw w) h (bindSpecial init self) (init, [self]))
    (hq : codeAny (model pw w) (A.under (.builtin "type.__call__" ⟨[.ref C], []⟩)) (.call init ⟨[.ref (h.objs.size + 1)], []⟩) (InitBack (h.objs.size + 1) R) ⟨(h.push emptyDict).push (accE C h.objs.size), g, d, t, os⟩) :
    codeAny (model pw w) A (.call (.ref C) ⟨[], []⟩) R ⟨h, g, d, t, os⟩ := by
  have Y' := Y
  obtain ⟨⟨oc, od, cd, sl, hC, e1, e2, e4⟩, made, base, self, top, call, typ⟩ := Y
  refine codeAny_of_tree ?_
  show wpAny _ _ (callAny (.ref C) _) _ _ _
  refine nd_load hC ?_
  show wpAny _ _ (callAny.viaDunder (.ref C) _) _ _ _
  unfold callAny.viaDunder
  refine wpAny_bind (call.at ?_)
  dsimp only
  rw [tc_bind]
  refine wpAny_bind (wpAny_pure (wpAny_bind (wpAny_pure ?_)))
  refine wpAny_pure (a := Fin.again (.call (.builtin "type.__call__") ⟨[.ref C], []⟩)) (And.intro rfl ?_)
  refine codeAny_call_builtin_at (Code.quiet_builtin _ (by decide +kernel)) entry_typeCall (check_slot tc_kind tc_split typ (tc_args _ _ _) ?_)
  unfold Builtin.«type.__call__»
  have hm : Looks (model pw w) h (mroOf (.ref C)) cd.mro := ((Looks.ld (part := none) hC).andThen .now).andThen .now
  repeat (first | simp only [e4, Bool.false_eq_true, if_false] | with_reducible refine wpAny_call ?_ | lk)
  refine newL Y' ?_
  have k : ∀ b o, h.get? b = some o → ((h.push emptyDict).push (accE C h.objs.size)).get? b = some o := fun b o e => Heap.get?_push_of_some _ (Heap.get?_push_of_some _ e)
  have hx : ((h.push emptyDict).push (accE C h.objs.size)).get? (h.objs.size + 1) = some (accE C h.objs.size) := by heap_get
  have t1 : Looks (model pw w) ((h.push emptyDict).push (accE C h.objs.size)) (typeOf (.ref (h.objs.size + 1))) (.ref C) := (Looks.ld hx).andThen .now
  have s1 := self.keeps k
  have i1 := hi.keeps k
  have b1 := (hb (.ref (h.objs.size + 1))).keeps k
  unfold isInstance callSpecial? specialOf
  repeat (first | with_reducible refine wpAny_call ?_ | lk)
  refine codeAny_mono hq fun r s' z => ?_
  rcases r with e | (v | _ | _ | _) <;> first | exact z | exact z.elim | skip
  obtain ⟨rfl, z⟩ := z
  exact wpAny_pure (wpAny_pure z)
def makesInL (K : Frag) (C : Addr) : Bool := match K.lookup C with
  | some ⟨_, _, .cls cd, sl⟩ => !cd.abstract && !cd.hasDel && (sl.toList[4]?).join == some (.builtin "list.__new__") && !cd.mro.isEmpty && cd.mro.contains (.ref C) && cd.mro.contains (.type "list")
  | _ => false
theorem makesL_of {M : Model} (X : K.In h) {C : Addr} (e : makesInL K C = true) (hc : specialIn K (.ref C) "__call__" = some (some (.builtin "type.__call__"))) (ht : instIn K (.ref C) (.type "type") = some true) : MakesL M h C := by
  unfold makesInL at e
  split at e
  · rename_i oc od cd sl ho
    simp only [Bool.and_eq_true, Bool.not_eq_true', beq_iff_eq] at e
    obtain ⟨⟨⟨⟨⟨e1, e2⟩, e3⟩, e4⟩, e5⟩, e6⟩ := e
    have hcl : clsIn K C = some cd := by unfold clsIn; rw [ho]
    have hm : Looks M h (mroOf (.ref C)) cd.mro := (looks_clsIn X hcl).andThen .now
    obtain ⟨c, l, hl⟩ : ∃ c l, cd.mro = c :: l := by cases q : cd.mro with | nil => rw [q] at e4; cases e4 | cons c l => exact ⟨c, l, rfl⟩
    have made : Looks M h (Bind.madeBy (.ref C)) (some "list.__new__") := by
      intro A Q E s k q
      unfold Bind.madeBy
      refine wpAny_bind (hm A _ E s k ?_)
      rw [hl, List.forIn_cons]
      refine wpAny_bind (wpAny_bind (wpAny_bind (wpAny_bind (wpAny_loadPart (k _ _ (X _ _ ho)) (wpAny_pure ?_)))))
      dsimp only
      rw [← Array.getElem?_toList, e3]
      exact wpAny_pure (wpAny_pure (wpAny_pure q))
    refine ⟨⟨oc, od, cd, sl, X _ _ ho, e1, e2, e4⟩, made, ?_, looks_mroIn X ?_, looks_mroIn X ?_, looks_specialIn X hc, looks_instIn X ht⟩
    · intro A Q E s k q
      unfold Bind.staticBase
      refine wpAny_bind (hm A _ E s k ?_)
      rw [hl, List.forIn_cons]
      exact wpAny_bind (wpAny_bind (wpAny_bind (made A _ E s k (wpAny_pure (wpAny_pure (wpAny_pure q))))))
    · unfold mroIn; rw [hcl, Option.bind_some, if_neg (by rw [e4]; decide), e5]
    · unfold mroIn; rw [hcl, Option.bind_some, if_neg (by rw [e4]; decide), e6]
  · cases e
end
section
variable {w : World} {A : Around} {E : Value → Shared → Prop} {K : Frag} {C L : Addr} {s : Shared} {h₀ : Heap} {m : Str → Option Value} {news : List (Addr × Obj)} {Q : Value → Shared → Prop}
theorem callL_cls {fI : Addr} (F : Fr h₀ L s.heap m) (X₀ : K.In h₀) (N : News h₀ L s.heap news) (hm : makesInL K C = true) (hc : specialIn K (.ref C) "__call__" = some (some (.builtin "type.__call__"))) (ht : instIn K (.ref C) (.type "type") = some true) (hi : findIn K (.ref C) "__init__" = some (some (.ref fI))) (hf : typeIn K (.ref fI) = some (.type "function"))
    (h : ∀ x dx h', Fr h₀ L h' m → News h₀ L h' ((x, accE C dx) :: (dx, dictOf [] 0) :: news) → (∀ p ∈ news, p.1 < dx) → dx < x →
      codeAny (model pw w) (A.under (.builtin "type.__call__" ⟨[.ref C], []⟩)) (.call (.ref fI) ⟨[.ref x], []⟩) (InitBack x fun r s' => match r with | .ok (.ret v) => Q v s' | .ok _ => False | .error e => E e s') { s with heap := h' }) :
    wpAny (model pw w) A (call (.ref C) [] []) Q E s := by
  have X := X₀.keeps F.keep
  obtain ⟨hh, g, d, t, os⟩ := s
  refine wpAny_call (makeL_core (makesL_of X hm hc ht) (looks_findIn X hi) (fun self => bind_fn X self hf) (h _ hh.objs.size _ ((F.push _).push _) ?_ (fun p hp => Heap.lt_size (N p hp).1) (Nat.lt_succ_self _)))
  have := (N.push F emptyDict).push (F.push _) (accE C hh.objs.size)
  rwa [Heap.size_push] at this
end
theorem accMk (P : Params) : makesInL (heapK P) 255 = true := by kernel_rfl
end
section
open PySem.Builtin PySem.Builtin.ObjectAttr
theorem accMro (P : Params) : (clsIn (heapK P) 255).map (·.mro) = some [.ref 255, .type "list", .type "object"] := by kernel_rfl
theorem accHasDict (P : Params) : (clsIn (heapK P) 255).any (·.hasDict) = true := by kernel_rfl
theorem refuseL (self : Value) : refuseLoop self "__setattr__" [.ref 255, .type "list", .type "object"] = pure () := by rw [refuseLoop_ref]; kernel_rfl
section
variable {w : World} {A : Around} {E : Value → Shared → Prop} {s : Shared} {h₀ : Heap} {L x dx : Addr} {m : Str → Option Value} {news : List (Addr × Obj)} {v : Value}
theorem osaAcc {name : Str} {tk : Tok} {R : Result → Shared → Prop} (F : Fr h₀ L s.heap m) (X₀ : (heapK w.params).In h₀) (N : News h₀ L s.heap ((x, accE 255 dx) :: (dx, dictOf [] 0) :: news)) (hx : x ≠ dx) (hn : ∀ p ∈ news, p.1 ≠ dx)
    (ha : findIn (heapK w.params) (.ref 255) name = some none)
    (hz : ∀ h tk v, Obj.putName name h (.str name tk) v (dictOf [] 0) = dictOf [⟨h, .str name tk, v⟩] 1)
    (h : ∀ h' hsh n tk, Fr h₀ L h' m → News h₀ L h' ((x, accE 255 dx) :: (dx, dictOf [⟨hsh, .str name tk, v⟩] n) :: news) → R (.ok (.ret .none)) { s with heap := h', toks := s.toks + 1 }) :
    codeAny (model pw w) A (.call (.builtin "object.__setattr__") ⟨[.ref x, .str name tk, v], []⟩) R s := by
  have X := X₀.keeps F.keep
  have I : PySem.W.InstAt s.heap x (accE 255 dx) 255 (some (dictOf [] 0)) := ⟨(N (x, accE 255 dx) (by simp)).1, rfl, rfl, (N (dx, dictOf [] 0) (by simp)).1⟩
  have SF := PySem.F.store_object
  obtain ⟨cd, hcl, hmro⟩ := Option.map_eq_some_iff.mp (accMro w.params)
  have hhd := accHasDict w.params
  rw [hcl] at hhd
  have hhd' : cd.hasDict = true := hhd
  have hm : Looks (model pw w) s.heap (mroOf (.ref 255)) cd.mro := (looks_clsIn X hcl).andThen .now
  have sub : Looks (model pw w) s.heap (isInstance (.ref x) (.type "object")) true := I.type.andThen (looks_mroIn X (by unfold mroIn; rw [hcl, Option.bind_some, if_neg (by rw [hmro]; decide), hmro]; decide))
  have L3 : Looks (model pw w) s.heap (storeTaker? none) none := .now
  refine codeAny_call_builtin SF.slot.plain SF.entry (@check_slot (model pw w) _ _ s "object.__setattr__" "object" "__setattr__" (.ref x) [.str name tk, v] [] _ SF.kind SF.split sub (SF.args (.ref x) (.str name tk) v) ?_)
  rw [osa_eq, refuse_eq]
  refine wpAny_bind (wpAny_bind (I.type.here (wpAny_bind (hm.here ?_))))
  rw [hmro, refuseL]
  refine wpAny_pure (wpAny_bind (I.type.here (wpAny_bind ((looks_findIn X ha).here (wpAny_bind (L3.here ?_))))))
  dsimp only
  obtain ⟨U1, U2⟩ := news_upd (pre := [(x, accE 255 dx)]) (f := Obj.putName name (PyData.keyHash w.params name) (.str name s.toks) v) F N (by simpa using hx) hn (hz _ _ _) rfl
  have D := (N (dx, dictOf [] 0) (by simp)).1
  have D' := (U2 (dx, dictOf [⟨PyData.keyHash w.params name, .str name s.toks, v⟩] 1) (by simp)).1
  obtain ⟨hx', -, -, -⟩ := I
  refine wpAny_bind (wpAny_pure (wpAny_bind (wpAny_bind (wpAny_loadPart hx' (wpAny_bind ((looks_clsIn X hcl).here ?_))))))
  rw [hhd']
  refine wpAny_pure (a := some dx) (wpAny_bind (wpAny_pure (wpAny_bind ?_)))
  unfold nsSet
  refine wpAny_bind (wpAny_bind (wpAny_askSetting (wpAny_pure (wpAny_bind (wpAny_mkText (wpAny_bind (wpAny_loadPart D ?_)))))))
  dsimp only
  have c : (!(#[] : Array DictEntry).any (·.key.isStr name) && (#[] : Array DictEntry).any (·.refKey)) = false := by simp
  rw [aRefKeyMayBeTheName_at, c]
  refine wpAny_updatePart D ?_
  refine wpAny_bind (wpAny_lookBehind D' (pastItsLine_dict (by simp [sizeLine_eq])) ?_)
  exact wpAny_pure (h _ _ _ _ U1 U2)
theorem setAcc {name : Str} {Q : Unit → Shared → Prop} (F : Fr h₀ L s.heap m) (X₀ : (heapK w.params).In h₀) (N : News h₀ L s.heap ((x, accE 255 dx) :: (dx, dictOf [] 0) :: news)) (hx : x ≠ dx) (hn : ∀ p ∈ news, p.1 ≠ dx)
    (hs : findIn (heapK w.params) (.ref 255) "__setattr__" = some (some (.builtin "object.__setattr__"))) (ha : findIn (heapK w.params) (.ref 255) name = some none)
    (hz : ∀ h tk v, Obj.putName name h (.str name tk) v (dictOf [] 0) = dictOf [⟨h, .str name tk, v⟩] 1)
    (h : ∀ h' hsh n tk tk', Fr h₀ L h' m → News h₀ L h' ((x, accE 255 dx) :: (dx, dictOf [⟨hsh, .str name tk, v⟩] n) :: news) → Q () { s with heap := h', toks := tk' }) :
    wpAny (model pw w) A (setAttr (.ref x) name v) Q E s :=
  set_plain (X₀.keeps F.keep) (ox := accE 255 dx) (od := some (dictOf [] 0)) ⟨(N (x, accE 255 dx) (by simp)).1, rfl, rfl, (N (dx, dictOf [] 0) (by simp)).1⟩ hs
    (osaAcc (s := { s with toks := s.toks + 1 }) F X₀ N hx hn ha hz fun h' hsh n tk F' N' => h h' hsh n tk _ F' N')
theorem initB {q : Addr} {n : Nat} {Q : Value → Shared → Prop} (hb : s.heap.get? q = some { cls := .type "method-wrapper", dict := none, data := .fields #[.builtin "list.__init__", .ref x], slots := #[] })
    (hx : s.heap.get? x = some (accO dx #[] n)) (h : ∀ h' n', Heap.SameBut x s.heap h' → h'.get? x = some (accO dx #[] n') → Q .none { s with heap := h' }) : wpAny (model pw w) A (call (.ref q) []) Q E s := by
  refine callBoundB hb (.inl rfl) (Code.quiet_builtin _ (by decide +kernel)) PySem.F.entry_list_init (chkSlot (by decide +kernel) (by unfold argsOk; kernel_rfl)) fun A' => ?_
  unfold Builtin.«list.__init__»
  dsimp only
  rw [if_neg (by decide)]
  refine wpAny_bind (lItems hx rfl ?_)
  unfold Builtin.List.listUpdate
  dsimp only
  refine wpAny_bind (wpAny_updateSeq hx rfl ?_ (by simp [sizeLine]) (by simp [sizeLine]))
  refine wpAny_bind (wpAny_letGo ?_)
  refine wpAny_pure ⟨_, rfl, ?_⟩
  have e1 := Heap.get?_update_self (Obj.mapSeq fun _ => #[]) hx rfl
  have e2 : ∃ n', Obj.mapSeq (fun _ => #[]) (accO dx #[] n) = accO dx #[] n' := ⟨_, rfl⟩
  obtain ⟨n', e2⟩ := e2
  rw [e2] at e1
  exact h _ n' (Heap.SameBut.update ..) e1
end
end
section
theorem kwXC3_0 : True := by
  w_top off
  k_with_none
  trivial
open PySem.Builtin
theorem kwXC3_1 : True := by
  k_with "inst" =>
    exact instAcc (by k_asm) (by k_mem) (by k_mem)
  k_with "callWith" =>
    (
      k_here
      (with_reducible show wpAny _ _ (callWith _ (Value.ref _) [] _ []) _ _ _)
      k_dflt (refine' callWithB (News.get (by k_asm) (by k_mem)) (by first | exact .inl rfl | exact .inr rfl) ?_))
  k_with "getMethod ref" =>
    (
      k_here
      k_dflt (first
        | (refine' superMeth ?F ?X ?N ?I ?su ?so ?no ?hf type_linit slot_wd_get entry_wd_get (args_wd_get _ _ _) (getW_init _ _) ?hn ?_; (case F => k_asm); (case X => k_asm); (case N => k_asm); (case I => k_inst); (case su => k_is); (case so => k_mem); (case no => k_is); (case hf => ks_is); (case hn => decide); intro _ _ _ _ _)))
  trivial
theorem acc_init (w : World) (hd : Option Value) (x dx : Addr) (imm : List (Addr × Obj)) (hap : ∀ p ∈ imm, p.1 < dx) (hlt : dx < x)
    {p : Program} {loose : List Str} {mean : ExcName → Option Value} {mg mb : Str → Option Value} {dp un : Nat} {gd : Option (List Code)} {env : Env} {outer : List Env} {A₀ : Around} {base h₀ : Heap} {L : Addr} {m : Str → Option Value} {s : Shared} {R : Result → Shared → Prop}
    (B : Below A₀ base outer h₀) (F : Fr h₀ L s.heap m) (X : (heapK w.params).In h₀) (N : News h₀ L s.heap ((x, accE 255 dx) :: (dx, dictOf [] 0) :: imm)) (T : Top p loose mean mg mb h₀) (hf : env.frame = some L) (hk : env.scope.kind = .function) (hdp : dp + 2 < recursionLimit) (hun : un + 8 * 2 < cLine)
    (ret : ∀ hsh n tk t n' h' tk', Fr h₀ L h' m → News h₀ L h' ((x, accO dx #[] n') :: (dx, dictOf [⟨hsh, .str (Str.ofString "_initial_size") tk, .int 0 t⟩] n) :: imm) → R (.ok (.ret .none)) { s with heap := h', toks := tk' }) :
    codeAny (model pw w) (topA hd dp un gd env outer) (.call (.ref 192) ⟨[.ref x], []⟩) R s := by
  refine' ks_code_super (binds := [(Str.ofString "self", .ref x), (Str.ofString "initial_size", .int 0 523)]) B F X N T rfl hf hk ?k6 ?k7 ?k8 ?k9 ?kB ?_ ?c1 ?c2 ?c3 ?c4
  case k6 => k_is
  case k7 => k_is
  case k8 => k_room
  case k9 => exact binds_K (Frag.In.keeps X F.keep) rfl (by k_is) rfl rfl rfl
  case kB => exact locs rfl
  case c1 => decide
  case c2 => exact rfl
  case c3 => exact rfl
  case c4 => exact rfl
  intro g' L' h' FG' F' N' B' X' T' l1
  (try dsimp only)
  (try k_fold)
  k_steps
  have hxd : x ≠ dx := Ne.symm (Nat.ne_of_lt hlt)
  refine setAcc F' X' N' hxd (fun p hp => Nat.ne_of_lt (hap p hp)) (by k_is) (by k_is) (fun _ _ _ => rfl) ?_
  intro h9 hsh n tk tk9 F9 N9
  clear F' N'
  replace N9 : News g' L' h9 ((x, accO dx #[] 0) :: (dx, dictOf [⟨hsh, .str (Str.ofString "_initial_size") tk, .int 0 523⟩] n) :: imm) := N9
  dsimp only
  refine ks_wpAt_execs_cons ?_
  refine ks_wpAt_Expr_any ?_
  refine ks_wpAt_MethodCall ?_
  k_steps
  rename News _ _ _ _ => kN
  rename Fr _ _ _ _ => kF
  have hpm := kN (x, accO dx #[] 0) (by k_mem)
  have himm : ∀ q ∈ imm, _ := fun q hq => kN q (by simp only [List.mem_cons, hq, or_true])
  have hdm := kN (dx, dictOf [⟨hsh, .str (Str.ofString "_initial_size") tk, .int 0 523⟩] n) (by k_mem)
  refine' initB (News.get kN (by k_mem)) hpm.1 ?_
  intro h8 n8 hs8 hx8
  have F8 := kF.change hs8 hpm.2.1 hpm.2.2
  have N8 : News g' L' h8 ((x, accO dx #[] n8) :: (dx, dictOf [⟨hsh, .str (Str.ofString "_initial_size") tk, .int 0 523⟩] n) :: imm) := fun q hq => by
    rcases List.mem_cons.mp hq with rfl | hq
    · exact ⟨hx8, hpm.2⟩
    · rcases List.mem_cons.mp hq with rfl | hq
      · exact ⟨hs8.extBut _ _ (Ne.symm hxd) hdm.1, hdm.2⟩
      · exact ⟨hs8.extBut _ _ (Nat.ne_of_lt (Nat.lt_trans (hap q hq) hlt)) (himm q hq).1, (himm q hq).2⟩
  clear kN kF hpm himm N9 F9 hdm
  dsimp only
  k_steps
  exact ret _ _ _ _ _ _ _ (by k_asm) (by k_asm)
theorem acc_make {w : World} {hd : Option Value} {news : List (Addr × Obj)} {p : Program} {loose : List Str} {mean : ExcName → Option Value} {mg mb : Str → Option Value} {dp un : Nat} {gd : Option (List Code)} {env : Env} {outer : List Env} {A₀ : Around} {base h₀ : Heap} {L : Addr} {m : Str → Option Value} {s : Shared} {Q E : Value → Shared → Prop}
    (B : Below A₀ base outer h₀) (F : Fr h₀ L s.heap m) (X : (heapK w.params).In h₀) (N : News h₀ L s.heap news) (T : Top p loose mean mg mb h₀) (hf : env.frame = some L) (hk : env.scope.kind = .function) (hdp : dp + 3 < recursionLimit) (hun : un + 8 * 3 < cLine)
    (ret : ∀ x dx od n' h' tk', Fr h₀ L h' m → News h₀ L h' ((x, accO dx #[] n') :: (dx, od) :: news) → PdAt ((dx, od) :: news) dx → (∀ p ∈ (dx, od) :: news, p.1 ≠ x) → Q (.ref x) { s with heap := h', toks := tk' }) :
    wpAny (model pw w) (topA hd dp un gd env outer) (call (.ref 255) [] []) Q E s := by
  refine callL_cls F X N (accMk _) (by k_is) (by k_is) (by k_is) (by k_is) ?_
  intro x dx h' F' N' hap hlt
  refine acc_init w hd x dx news hap hlt B F' X N' T hf hk ?_ ?_ ?_
  · show dp + (Code.builtin "type.__call__" { pos := [Value.ref 255] }).weight + 2 < recursionLimit
    have : (Code.builtin "type.__call__" { pos := [Value.ref 255] }).weight ≤ 1 := by decide +kernel
    omega
  · show un + (Code.builtin "type.__call__" { pos := [Value.ref 255] }).cUnits + 8 * 2 < cLine
    have : (Code.builtin "type.__call__" { pos := [Value.ref 255] }).cUnits ≤ 8 := by decide +kernel
    omega
  · intro hsh n tk t n' h9 tk9 F9 N9
    refine ⟨rfl, ret x dx _ n' h9 tk9 F9 N9 ⟨_, _, _, _, List.mem_cons_self⟩ fun p hp => ?_⟩
    rcases List.mem_cons.mp hp with rfl | hp
    · exact Nat.ne_of_lt hlt
    · exact Nat.ne_of_lt (Nat.lt_trans (hap p hp) hlt)
end
section
open PySem.Builtin PySem.Builtin.Str
def endR (n : Nat) : Int := if n < 10 then 16 else 17
theorem f229 : ∀ n < 97, (Ln.num (n : Nat)).str.length ≤ 100 ∧ Txt.slice (Ln.num (n : Nat)).str none (some 3) = Str.ofString "229" ∧ Txt.find (Ln.num (n : Nat)).str (Str.ofString "(") = 10 ∧ Txt.find3 (Ln.num (n : Nat)).str (Str.ofString ")") (10 + 1) = endR n ∧ endR n < (Ln.num (n : Nat)).str.length ∧
    Txt.item (Ln.num (n : Nat)).str (10 + 1) = Str.ofString "|" ∧ Txt.item (Ln.num (n : Nat)).str (endR n - 1) = Str.ofString "|" ∧
    Txt.split (Txt.slice (Ln.num (n : Nat)).str (some (10 + 1)) (some (endR n))) (Txt.item (Ln.num (n : Nat)).str (10 + 1)) = [Str.ofString "", Str.ofString "", Str.ofString "", showI (n : Nat), Str.ofString ""] := by decide +kernel
theorem f257 : ∀ p < 6, (saidStr p).length ≤ 100 ∧ 15 ≤ (saidStr p).length ∧ Txt.slice (saidStr p) none (some 3) = Str.ofString "257" ∧ Txt.slice (saidStr p) (some 3) (some 5) = Str.ofString " \"" ∧ ¬ Txt.item (saidStr p) 5 = Str.ofString "\"" ∧ Txt.item (saidStr p) (5 + 1) = Str.ofString "\"" ∧
    ((¬ Txt.item (saidStr p) (5 + 1 + 1) = Str.ofString "\"" ∧ Str.ofString "" ++ Txt.item (saidStr p) 5 = nameStr p) ∨ (Txt.item (saidStr p) (5 + 1 + 1) = Str.ofString "\"" ∧ Txt.item (saidStr p) (5 + 1 + 1 + 1) = Str.ofString "\"" ∧ ¬ Txt.item (saidStr p) (5 + 1 + 1 + 1 + 1) = Str.ofString "\"" ∧ Str.ofString "" ++ Txt.item (saidStr p) 5 ++ Txt.item (saidStr p) (5 + 1) = nameStr p)) := by decide +kernel
theorem p229_num (w : World) (hd : Option Value) {n : Int} (hn : n97 n) (tk : Tok) (pt : Addr) (t0 t1 : Tok) (e : Nat) (news : List (Addr × Obj)) (hm : (pt, tupO (.str (Str.ofString "") t0) (.int 21 t1) e) ∈ news) :
    Fn w hd 303 [.str (Ln.num n).str tk, .ref pt] 2 news (fun x news' => ∃ T k0 k1, x = .ref T ∧ news' = (T, tupO (.str (Str.ofString "") k0) (.int n k1) 0) :: news) := by
  obtain ⟨k, rfl⟩ := Int.eq_ofNat_of_zero_le hn.1
  have hk : k < 97 := by have := hn.2; omega
  obtain ⟨a1, a2, a3, a4, a5, a6, a7, a8⟩ := f229 k hk
  exact p229v w hd _ k (endR k) tk pt t0 t1 e news hm a1 hn.1 hn.2 a2 a3 a4 (by unfold endR; split <;> omega) a5 a6 a7 a8
theorem p257_nam (w : World) (hd : Option Value) {p : Int} (hp : p6 p) (tk : Tok) (news : List (Addr × Obj)) : Fn w hd 310 [.str (Ln.nam p).str tk] 2 news (SameStr news (nameStr p.toNat)) := by
  obtain ⟨a1, a2, a3, a4, a5, a6, a7⟩ := f257 p.toNat (by have := hp.1; have := hp.2; omega)
  rcases a7 with ⟨b1, b2⟩ | ⟨b1, b2, b3, b4⟩
  · rw [← b2]; exact p257k w hd _ tk news a1 a2 a3 a4 a5 a6 b1
  · rw [← b4]; exact p257q w hd _ tk news a1 a2 a3 a4 a5 a6 b1 b2 b3
theorem other229 {l : Ln} (hl : ∀ n, l ≠ .num n) (hp : ∀ p, l = .nam p → p6 p) : l.str.length ≤ 100 ∧ ¬ Txt.slice l.str none (some 3) = Str.ofString "229" := by
  cases l with
  | num n => exact absurd rfl (hl n)
  | nam p =>
    obtain ⟨a1, a2, a3, _⟩ := f257 p.toNat (by have := (hp p rfl).1; have := (hp p rfl).2; omega)
    exact ⟨a1, by show ¬ Txt.slice (saidStr p.toNat) none (some 3) = _; rw [a3]; decide⟩
  | get => exact ⟨by decide +kernel, by decide +kernel⟩
  | less => exact ⟨by decide +kernel, by decide +kernel⟩
  | set => exact ⟨by decide +kernel, by decide +kernel⟩
  | fin => exact ⟨by decide +kernel, by decide +kernel⟩
theorem other257 {l : Ln} {x : Str} (hl : l.word = some x) : ¬ Txt.slice l.str none (some 3) = Str.ofString "257" ∧ Txt.slice l.str (some 4) none = x := by
  cases l <;> cases hl <;> exact ⟨by decide +kernel, by decide +kernel⟩
section
variable {w : World} {hd : Option Value} {p : Program} {loose : List Str} {mean : ExcName → Option Value} {mg mb : Str → Option Value} {dp un : Nat} {gd : Option (List Code)} {env : Env} {outer : List Env} {A₀ : Around} {base h₀ : Heap} {L : Addr} {m : Str → Option Value} {s : Shared} {Q E : Value → Shared → Prop}
theorem push_run {pa dx ha hl : Addr} {i : It} {st : List It} {rows : List Rw} {its hits : List Value} {ex eh : Nat} {x v : Str} {tk tv : Tok} {imm : List (Addr × Obj)} (hi : i.ok) (hpr : i.pr = (x, v)) (S : StAt pa dx ha hl st rows its hits imm) (h1 : st.length ≤ 600)
    (B : Below A₀ base outer h₀) (F : Fr h₀ L s.heap m) (X : (heapK w.params).In h₀) (N : News h₀ L s.heap (led2 pa dx hl its hits ex eh imm)) (T : Top p loose mean mg mb h₀) (hf : env.frame = some L) (hk : env.scope.kind = .function) (hdp : dp + 1 < recursionLimit) (hun : un + 8 * 1 < cLine)
    (ret : ∀ its' ex' imm' h' tk', Fr h₀ L h' m → News h₀ L h' (led2 pa dx hl its' hits ex' eh imm') → (∀ p ∈ imm, p ∈ imm') → StAt pa dx ha hl (i :: st) rows its' hits imm' → Q .none { s with heap := h', toks := tk' }) :
    wpAny (model pw w) (topA hd dp un gd env outer) (call (.ref 199) [.ref pa, .str x tk, .str v tv]) Q E s := by
  have hlen := S.len
  refine push_use (imm := (hl, listOf (List.toArray hits) eh) :: imm) (S.pd.mono fun _ h => List.mem_cons_of_mem _ h) (List.forall_mem_cons.mpr ⟨Ne.symm S.ne, S.apa⟩) (by omega) B F X N T hf hk hdp hun ?_
  intro T' h' tk' F' N' hne
  have s1 : ∀ q ∈ imm, q ∈ (T', tupO (.str x tk) (.str v tv) 0) :: imm := fun q hq => List.mem_cons_of_mem _ hq
  refine ret (its ++ [.ref T']) (ex + 1) ((T', tupO (.str x tk) (.str v tv) 0) :: imm) h' tk' F' (fun q hq => N' q ?_) s1 ⟨?_, S.tab.mono fun _ _ z => z.mono s1, S.hd.mono s1, S.pd.mono s1, ?_, ?_, S.ne, List.forall_mem_cons.mpr ⟨hi, S.ist⟩, S.irw⟩
  · simp only [led2, List.mem_cons] at hq ⊢
    rcases hq with h | h | h | h <;> simp [h]
  · rw [List.reverse_cons, List.map_append, List.map_singleton, hpr]
    exact Paired.snoc (S.pile.mono fun _ _ z => z.mono s1) ⟨T', 0, tk, tv, rfl, List.mem_cons_self⟩
  · exact List.forall_mem_cons.mpr ⟨hne, S.apa⟩
  · exact List.forall_mem_cons.mpr ⟨led_ne N' (a := T') (o1 := tupO (.str x tk) (.str v tv) 0) (b := hl) (o2 := listOf (List.toArray hits) eh) (.tail _ (.head _)) (.tail _ (.tail _ (.head _))) (show (Value.type "tuple") ≠ Value.type "list" by decide), S.ahl⟩
end
end
section
section
variable {w : World} {A : Around} {E : Value → Shared → Prop} {s : Shared} {env : Env}
def TurnEnd (A₁ : Around) (base : Heap) (outer : List Env) (g₀ : Heap) (L : Addr) (s₁ : Shared) (I : Addr) (oI : Obj) (Q : Flow → Shared → Prop) (J : (Str → Option Value) → List (Addr × Obj) → Prop) (f : Flow) (s3 : Shared) : Prop :=
  match f with
  | .next | .cont => ∃ g hh tk m news, s3 = { s₁ with heap := hh, toks := tk } ∧ KtsTurn (outer.filterMap (·.frame)) g₀ g ∧ Below A₁ base outer g ∧ Fr g L hh m ∧ News g L hh ((I, oI) :: news) ∧ (∀ p ∈ news, p.1 ≠ I) ∧ J m news
  | .brk => Q .next s3
  | .ret v => Q (.ret v) s3
def RunGo (w : World) (A : Around) (E : Value → Shared → Prop) (A₁ : Around) (base : Heap) (outer : List Env) (g₀ : Heap) (L : Addr) (m₀ : Str → Option Value) (env : Env) (x : Str) (body orelse : List Stmt) (Q : Flow → Shared → Prop) (xv : Value) (s₁ : Shared) : Prop :=
  ∃ ax its, ∃ J : Nat → (Str → Option Value) → List (Addr × Obj) → Prop, ∃ news, xv = .ref ax ∧ Fr g₀ L s₁.heap m₀ ∧ News g₀ L s₁.heap news ∧ Below A₁ base outer g₀ ∧ J 0 m₀ news ∧
    (∀ i m news, J i m news → ∃ e, (ax, listOf its e) ∈ news) ∧
    (∀ i v g m news hh tk I oI, its[i]? = some v → J i m news → KtsTurn (outer.filterMap (·.frame)) g₀ g → Below A₁ base outer g → Fr g L hh (fun z => if z = x then some v else m z) → News g L hh ((I, oI) :: news) → (∀ p ∈ news, p.1 ≠ I) → oI.cls = .type "list_iterator" →
      wpAny (model pw w) A (execs body env) (TurnEnd A₁ base outer g₀ L s₁ I oI Q (J (i + 1))) (EB w A env E) { s₁ with heap := hh, toks := tk }) ∧
    (∀ g hh tk m news, J its.size m news → KtsTurn (outer.filterMap (·.frame)) g₀ g → Below A₁ base outer g → Fr g L hh m → News g L hh news → wpAny (model pw w) A (execs orelse env) Q (EB w A env E) { s₁ with heap := hh, toks := tk })
theorem forRun {A₁ : Around} {base : Heap} {outer : List Env} {g₀ : Heap} {L : Addr} {m₀ : Str → Option Value} {iter : PySem.Expr} {x : Str} {px : Pos} {body orelse : List Stmt} {pos : Pos} {Q : Flow → Shared → Prop} (hL : env.locals = L) (hA : A.handled = none) (_F₀ : Fr g₀ L s.heap m₀)
    (hx : env.kindOf x = some .local) (hp : (env.scope.kind == .class || (env.scope.kind == .module && env.locals != env.globals)) = false)
    (h : wpAny (model pw w) A (eval iter env) (RunGo w A E A₁ base outer g₀ L m₀ env x body orelse Q) E s)
    (hs : ∀ x, foldedSetIterable iter env x = pure x := by intro _; rfl) :
    wpAny (model pw w) A (exec (.For (.Name x px) iter body orelse pos) env) Q E s := by
  subst hL
  refine forGen (wpAny_mono h (fun xv s₁ h₁ => ?_) fun _ _ e => e) hs
  obtain ⟨ax, its, J, news₀, rfl, F₀, N₀, B₀, hJ0, hsrc, hstep, hdone⟩ := h₁
  have isl : ∀ {g h' news e}, News g env.locals h' news → (ax, listOf its e) ∈ news → h'.IsList ax its := fun N hm => ⟨_, (N _ hm).1, rfl, _, rfl⟩
  obtain ⟨e0, hm0⟩ := hsrc _ _ _ hJ0
  refine ⟨ax, its, fun I i h' => ∃ g m news, KtsTurn (outer.filterMap (·.frame)) g₀ g ∧ Below A₁ base outer g ∧ Fr g env.locals h' m ∧ News g env.locals h' news ∧ (∀ p ∈ news, p.1 ≠ I) ∧ g₀.get? I = none ∧ I ≠ env.locals ∧ h'.IsListIter I ax i ∧ J i m news, rfl, isl N₀ hm0, ?_, ?_, ?_, ?_⟩
  · intro I h' hI hlt hx hit
    refine ⟨g₀, m₀, news₀, KtsTurn.refl, B₀, F₀.keeps hx, N₀.grown hx, fun p hp => Nat.ne_of_lt (hlt _ _ (N₀ p hp).1), ?_, fun q => ?_, hit, hJ0⟩
    · cases q : g₀.get? I with
      | none => rfl
      | some o => have := F₀.keep _ _ q; rw [hI] at this; cases this
    · obtain ⟨o, _, _, ho, _⟩ := F₀.ns
      rw [← q, hI] at ho; cases ho
  · rintro I i h' ⟨g, m, news, T, B, F, N, hne, hI0, hIL, hit, hJ⟩
    obtain ⟨e, hm⟩ := hsrc _ _ _ hJ
    exact ⟨hit, isl N hm, [], .inl ⟨hA, rfl⟩, fun hb => nomatch hb⟩
  · rintro I i v h' h'' tk hv ⟨g, m, news, T, B, F, N, hne, hI0, hIL, hit, hJ⟩ hsb hit''
    have F' : Fr g env.locals h'' m := F.change hsb hIL (T.none_ _ hI0)
    have N' : News g env.locals h'' news := fun p hp => ⟨hsb.extBut _ _ (hne p hp) (N p hp).1, (N p hp).2⟩
    unfold Turn
    refine wpAny_of_eq (a := ()) rfl ?_
    refine wpAny_assign_Name (wpAny_storeName_local hx F'.ns (fun h3 hn3 hs3 => ?_) hp)
    have hk3 : ∀ b o, b ≠ env.locals → h''.get? b = some o → h3.get? b = some o := fun b o hb e => hs3.extBut b o hb e
    have F3 := frUp F' hn3 hk3
    obtain ⟨oI, hoI, hci, hdi⟩ := hit''
    have N3 : News g env.locals h3 ((I, oI) :: news) := fun p hp => by
      rcases List.mem_cons.mp hp with rfl | hp
      · exact ⟨hk3 _ _ hIL hoI, hIL, T.none_ _ hI0⟩
      · exact ⟨hk3 _ _ (N' p hp).2.1 (N' p hp).1, (N' p hp).2⟩
    refine wpAny_mono (hstep i v g m news h3 _ I oI hv hJ T B F3 N3 hne hci) (fun f s4 h4 => ?_) fun _ _ e => e
    have fin : (∃ g hh tk m news, s4 = { s₁ with heap := hh, toks := tk } ∧ KtsTurn (outer.filterMap (·.frame)) g₀ g ∧ Below A₁ base outer g ∧ Fr g env.locals hh m ∧ News g env.locals hh ((I, oI) :: news) ∧ (∀ p ∈ news, p.1 ≠ I) ∧ J (i + 1) m news) →
        ∃ h3 tk3, s4 = { s₁ with heap := h3, toks := tk3 } ∧ ∃ g m news, KtsTurn (outer.filterMap (·.frame)) g₀ g ∧ Below A₁ base outer g ∧ Fr g env.locals h3 m ∧ News g env.locals h3 news ∧ (∀ p ∈ news, p.1 ≠ I) ∧ g₀.get? I = none ∧ I ≠ env.locals ∧ h3.IsListIter I ax (i + 1) ∧ J (i + 1) m news := by
      rintro ⟨g4, hh, tk4, m4, news4, rfl, T4, B4, F4, N4, hne4, hJ4⟩
      exact ⟨hh, tk4, rfl, g4, m4, news4, T4, B4, F4, fun p hp => N4 p (List.mem_cons_of_mem _ hp), hne4, hI0, hIL, ⟨oI, (N4 _ (List.mem_cons_self)).1, hci, hdi⟩, hJ4⟩
    cases f with
    | next => exact fin h4
    | cont => exact fin h4
    | brk => exact h4
    | ret v => exact h4
  · rintro I h' h'' tk ⟨g, m, news, T, B, F, N, hne, hI0, hIL, hit, hJ⟩ hb
    exact hdone g h'' tk m news hJ T B ⟨F.ns.at' fun o e => hb _ o (Ne.symm hIL) e, fun b o e => hb b o (fun q => by rw [q, T.none_ _ hI0] at e; cases e) (F.keep b o e), F.above⟩ fun p hp => ⟨hb _ _ (hne p hp) (N p hp).1, (N p hp).2⟩
end
end
section
theorem kwXR1_0 : True := by
  w_top off
  k_with_none
  trivial
open PySem.Builtin PySem.Builtin.Str
theorem FnX.use {w : World} {hd : Option Value} {f : Addr} {vs : List Value} {sz : Nat} {news : List (Addr × Obj)} {C : Addr} {p : Program} {loose : List Str} {mean : ExcName → Option Value} {mg mb : Str → Option Value} {dp un : Nat} {gd : Option (List Code)} {env : Env} {outer : List Env} {A₀ : Around} {base h₀ : Heap} {L : Addr} {m : Str → Option Value} {s : Shared}
    {Q E : Value → Shared → Prop} (C0 : FnX w hd f vs sz news C)
    (B : Below A₀ base outer h₀) (F : Fr h₀ L s.heap m) (X : (heapK w.params).In h₀) (N : News h₀ L s.heap news) (T : Top p loose mean mg mb h₀) (hf : env.frame = some L) (hk : env.scope.kind = .function) (hdp : dp + sz < recursionLimit) (hun : un + 8 * sz < cLine)
    (ret : ∀ e G h' tk', Fr h₀ L G m → RaisedC base G (env :: outer) e (.ref C) (hd.getD .none) news h' → G.UpToSlots h' → E (.ref e) { s with heap := h', toks := tk' }) :
    wpAny (model pw w) (topA hd dp un gd env outer) (call (.ref f) vs) Q E s := C0 _ _ _ _ _ _ _ _ _ _ _ _ _ _ _ _ _ _ B F X N T hf hk hdp hun ret
inductive Steps : List Ln → List It → List Rw → Int → List It → List Rw → Int → Prop where
  | nil {st rows mo} : Steps [] st rows mo st rows mo
  | cons {l ls st rows mo st1 rows1 st' rows' mo'} : Step l st rows st1 rows1 → Steps ls st1 rows1 (max mo st1.length) st' rows' mo' → Steps (l :: ls) st rows mo st' rows' mo'
def canon (pa la ha : Addr) (k : Int) (t : Tok) (lv hv pv : Option Value) : Str → Option Value := fun z =>
  if z = Str.ofString "most" then some (.int k t) else if z = Str.ofString "port" then pv else if z = Str.ofString "host" then hv else if z = Str.ofString "line" then lv else if z = Str.ofString "pile" then some (.ref pa) else
    List.lookup z [(Str.ofString "lines", Value.ref la), (Str.ofString "table", Value.ref ha)].reverse
theorem canon0 {pa la ha : Addr} {k : Int} {t : Tok} : (fun z => if z = Str.ofString "most" then some (.int k t) else if z = Str.ofString "pile" then some (.ref pa) else List.lookup z [(Str.ofString "lines", Value.ref la), (Str.ofString "table", Value.ref ha)].reverse) = canon pa la ha k t none none none := by
  funext z
  unfold canon
  by_cases h1 : z = Str.ofString "most"
  · simp [h1]
  by_cases h2 : z = Str.ofString "port"
  · subst h2; rfl
  by_cases h3 : z = Str.ofString "host"
  · subst h3; rfl
  by_cases h4 : z = Str.ofString "line"
  · subst h4; rfl
  rw [if_neg h1, if_neg h1, if_neg h2, if_neg h3, if_neg h4]
theorem canon1 {pa la ha : Addr} {k k' : Int} {t t' : Tok} {lv hv pv : Option Value} {v : Value} : (fun z => if z = Str.ofString "most" then some (.int k' t') else if z = Str.ofString "line" then some v else canon pa la ha k t lv hv pv z) = canon pa la ha k' t' (some v) hv pv := by
  funext z
  unfold canon
  by_cases h1 : z = Str.ofString "most"
  · simp [h1]
  by_cases h2 : z = Str.ofString "port"
  · subst h2; rfl
  by_cases h3 : z = Str.ofString "host"
  · subst h3; rfl
  by_cases h4 : z = Str.ofString "line"
  · subst h4; rfl
  simp only [if_neg h1, if_neg h2, if_neg h3, if_neg h4]
theorem canon2 {pa la ha : Addr} {k k' : Int} {t t' : Tok} {lv hv pv : Option Value} {v v1 v2 : Value} : (fun z => if z = Str.ofString "most" then some (.int k' t') else if z = Str.ofString "port" then some v2 else if z = Str.ofString "host" then some v1 else if z = Str.ofString "line" then some v else canon pa la ha k t lv hv pv z) = canon pa la ha k' t' (some v) (some v1) (some v2) := by
  funext z
  unfold canon
  by_cases h1 : z = Str.ofString "most"
  · simp [h1]
  by_cases h2 : z = Str.ofString "port"
  · subst h2; rfl
  by_cases h3 : z = Str.ofString "host"
  · subst h3; rfl
  by_cases h4 : z = Str.ofString "line"
  · subst h4; rfl
  simp only [if_neg h1, if_neg h2, if_neg h3, if_neg h4]
theorem StAt.drop {pa dx ha hl I : Addr} {oI : Obj} {st : List It} {rows : List Rw} {its hits : List Value} {imm : List (Addr × Obj)} (S : StAt pa dx ha hl st rows its hits imm) (hc : oI.cls = .type "list_iterator") (hI : ∀ o, (I, o) ∈ imm → o = oI) : StAt pa dx ha hl st rows its hits (imm.filter fun p => p.1 != I) := by
  have k : ∀ a o, (a, o) ∈ imm → o.cls ≠ .type "list_iterator" → (a, o) ∈ imm.filter fun p => p.1 != I := fun a o h hne => List.mem_filter.mpr ⟨h, by
    show (a != I) = true
    rw [bne_iff_ne]
    rintro rfl
    exact hne (by rw [hI o h]; exact hc)⟩
  have kp : ∀ p x, SPairAt imm p x → SPairAt (imm.filter fun p => p.1 != I) p x := fun p x ⟨t, e, t0, t1, h1, h2⟩ => ⟨t, e, t0, t1, h1, k _ _ h2 (show Value.type "tuple" ≠ Value.type "list_iterator" by decide)⟩
  obtain ⟨d1, d2, d3, d4, d5, d6⟩ := S.hd
  obtain ⟨e1, e2, e3, e4, e5⟩ := S.pd
  exact ⟨S.pile.mono kp, S.tab.mono kp, ⟨d1, d2, d3, d4, k _ _ d5 (by show Value.ref 171 ≠ _; simp), k _ _ d6 (show Value.type "dict" ≠ Value.type "list_iterator" by decide)⟩, ⟨e1, e2, e3, e4, k _ _ e5 (show Value.type "dict" ≠ Value.type "list_iterator" by decide)⟩,
    fun p hp => S.apa p (List.mem_filter.mp hp).1, fun p hp => S.ahl p (List.mem_filter.mp hp).1, S.ne, S.ist, S.irw⟩
theorem strsGet {ws : List Value} {ss : List Str} (h : StrsAre ws ss) : ∀ {i : Nat} {v : Value}, ws[i]? = some v → ∃ x t, v = .str x t ∧ ss[i]? = some x := by
  induction h with
  | nil => intro i v h; simp at h
  | cons x t _ ih =>
    intro i v h
    cases i with
    | zero => simp at h; exact ⟨x, t, h.symm, by simp⟩
    | succ i => obtain ⟨y, u, h1, h2⟩ := ih (by simpa using h); exact ⟨y, u, h1, by simpa using h2⟩
theorem Step.kind {l : Ln} {st st1 : List It} {rows rows1 : List Rw} (h : Step l st rows st1 rows1) : (∃ n, l = .num n ∧ n97 n ∧ st1 = .val n :: st ∧ rows1 = rows) ∨ (∃ p, l = .nam p ∧ p6 p ∧ st1 = .nm p :: st ∧ rows1 = rows) ∨ (∃ x, l.word = some x ∧ (∀ n, l ≠ .num n) ∧ ∀ p, l ≠ .nam p) := by
  cases h with
  | num h => exact .inl ⟨_, rfl, h, rfl, rfl⟩
  | nam h => exact .inr (.inl ⟨_, rfl, h, rfl, rfl⟩)
  | get => exact .inr (.inr ⟨_, rfl, (fun _ q => by cases q), fun _ q => by cases q⟩)
  | less => exact .inr (.inr ⟨_, rfl, (fun _ q => by cases q), fun _ q => by cases q⟩)
  | set => exact .inr (.inr ⟨_, rfl, (fun _ q => by cases q), fun _ q => by cases q⟩)
  | fin0 => exact .inr (.inr ⟨_, rfl, (fun _ q => by cases q), fun _ q => by cases q⟩)
  | fin1 => exact .inr (.inr ⟨_, rfl, (fun _ q => by cases q), fun _ q => by cases q⟩)
def Jrun (news : List (Addr × Obj)) (pa dx ha hl la : Addr) (lns : List Ln) (st' : List It) (rows' : List Rw) (mo' : Int) (i : Nat) (m : Str → Option Value) (led : List (Addr × Obj)) : Prop :=
  ∃ st rw mo its hits ex eh imm t lv hv pv, led = led2 pa dx hl its hits ex eh imm ∧ m = canon pa la ha mo t lv hv pv ∧ StAt pa dx ha hl st rw its hits imm ∧ (∀ q ∈ news, q ∈ imm) ∧ Steps (lns.drop i) st rw mo st' rows' mo' ∧ st.length ≤ i ∧ rw.length ≤ 100 + i
theorem maxI (mo : Int) (k : Nat) : (if (k : Int) > mo then (k : Int) else mo) = max mo k := by rw [Int.max_def]; split <;> split <;> omega
theorem turnEnd {A₁ : Around} {base : Heap} {outer : List Env} {g₀ g : Heap} {L : Addr} {s₁ : Shared} {I : Addr} {oI : Obj} {Q : Flow → Shared → Prop} {news : List (Addr × Obj)} {pa dx ha hl la : Addr} {lns : List Ln} {st' : List It} {rows' : List Rw} {mo' : Int} {i : Nat} {hh : Heap} {tk : Nat} {m : Str → Option Value}
    {st st1 : List It} {rw rows1 : List Rw} {mo : Int} {l : Ln} {its hits : List Value} {ex eh : Nat} {imm : List (Addr × Obj)}
    (T : KtsTurn (outer.filterMap (·.frame)) g₀ g) (B : Below A₁ base outer g) (F : Fr g L hh m) (N : News g L hh (led2 pa dx hl its hits ex eh imm)) (hI : (I, oI) ∈ imm) (hc : oI.cls = .type "list_iterator") (S : StAt pa dx ha hl st1 rows1 its hits imm) (hml : ∀ q ∈ news, q ∈ imm) (hnI : ∀ q ∈ news, q.1 ≠ I)
    (hm : ∃ t lv hv pv, m = canon pa la ha (max mo st1.length) t lv hv pv) (hstp : Step l st rw st1 rows1) (hrest : Steps (lns.drop (i + 1)) st1 rows1 (max mo st1.length) st' rows' mo') (h1 : st.length ≤ i) (h2 : rw.length ≤ 100 + i) (hist : ∀ i ∈ st, i.ok) (hirw : ∀ r ∈ rw, r.ok) :
    TurnEnd A₁ base outer g₀ L s₁ I oI Q (Jrun news pa dx ha hl la lns st' rows' mo' (i + 1)) .next { s₁ with heap := hh, toks := tk } := by
  obtain ⟨_, _, hr, hs⟩ := hstp.ok hist hirw
  obtain ⟨t, lv, hv, pv, hm⟩ := hm
  have hIu : ∀ o, (I, o) ∈ imm → o = oI := fun o ho => by
    have := (N _ (.tail _ (.tail _ ho))).1.symm.trans (N _ (.tail _ (.tail _ hI))).1
    exact Option.some.inj this
  have S' := S.drop hc hIu
  refine ⟨g, hh, tk, m, led2 pa dx hl its hits ex eh (imm.filter fun p => p.1 != I), rfl, T, B, F, fun q hq => N q ?_, fun q hq => ?_, st1, rows1, max mo st1.length, its, hits, ex, eh, imm.filter fun p => p.1 != I, t, lv, hv, pv, rfl, hm, S', fun q hq => List.mem_filter.mpr ⟨hml q hq, bne_iff_ne.mpr (hnI q hq)⟩, hrest, by omega, by omega⟩
  · simp only [led2, List.mem_cons, List.mem_filter] at hq ⊢
    rcases hq with h | h | h | h
    · rw [h]; exact .inr (.inr hI)
    · simp [h]
    · simp [h]
    · simp [h.1]
  · simp only [led2, List.mem_cons, List.mem_filter] at hq
    rcases hq with h | h | h
    · rw [h]; exact Ne.symm (S.apa _ hI)
    · rw [h]; exact Ne.symm (S.ahl _ hI)
    · exact bne_iff_ne.mp h.2
theorem canon1E {pa la ha : Addr} {k k' k2 : Int} {t t' : Tok} {lv hv pv : Option Value} {v : Value} (e : k' = k2) : ∃ t9 l9 h9 p9, (fun z => if z = Str.ofString "most" then some (.int k' t') else if z = Str.ofString "line" then some v else canon pa la ha k t lv hv pv z) = canon pa la ha k2 t9 l9 h9 p9 := by
  subst e; exact ⟨_, _, _, _, canon1⟩
theorem canon2E {pa la ha : Addr} {k k' k2 : Int} {t t' : Tok} {lv hv pv : Option Value} {v v1 v2 : Value} (e : k' = k2) : ∃ t9 l9 h9 p9, (fun z => if z = Str.ofString "most" then some (.int k' t') else if z = Str.ofString "port" then some v2 else if z = Str.ofString "host" then some v1 else if z = Str.ofString "line" then some v else canon pa la ha k t lv hv pv z) = canon pa la ha k2 t9 l9 h9 p9 := by
  subst e; exact ⟨_, _, _, _, canon2⟩
theorem stackTrans {A B C : Around} (h1 : SameStack A B) (h2 : SameStack B C) : SameStack A C := fun Γ h => by
  obtain ⟨Γ1, a1, b1, c1⟩ := h1 Γ h
  obtain ⟨Γ2, a2, b2, c2⟩ := h2 Γ1 a1
  exact ⟨Γ2, a2, b2.trans b1, c2.trans c1⟩
end
section
theorem kwXF3_0 : True := by
  w_top off
  k_with_none
  trivial

def Look (k : Int) : List (Int × Int) → Int
  | [] => 7
  | p :: r => if p.1 = k then p.2 else Look k r
def Tm.worth : Tm → List (Int × Int) → Int
  | .num n, _ => n
  | .nam p, ks => Look (p / 2) ks
  | .less a b, ks => (a.worth ks - b.worth ks) % 97
  | .lett a b p, ks => b.worth ((p / 2, a.worth ks) :: ks)
theorem PairAt.mono {news news' : List (Addr × Obj)} {p : Int × Int} {x : Value} (h : PairAt news p x) (hs : ∀ p ∈ news, p ∈ news') : PairAt news' p x :=
  let ⟨t, e, t0, t1, h1, h2⟩ := h; ⟨t, e, t0, t1, h1, hs _ h2⟩
theorem look_filter (k : Int) : ∀ ks : List (Int × Int), Look k ks = match ks.filter (fun q : Int × Int => q.1 == k) with | [] => 7 | p :: _ => p.2
  | [] => rfl
  | p :: r => by
    rw [Look, List.filter_cons]
    by_cases h : p.1 = k
    · rw [if_pos h, if_pos (by simp [h])]
    · rw [if_neg h, if_neg (by simp [h])]; exact look_filter k r
theorem KnIn.mono {news news' : List (Addr × Obj)} {v : Value} {ks : List (Int × Int)} (h : KnIn news v ks) (hs : ∀ p ∈ news, p ∈ news') : KnIn news' v ks :=
  let ⟨a, its, e, h1, h2, h3⟩ := h; ⟨a, its, e, h1, hs _ h2, h3.mono fun _ _ z => z.mono hs⟩
def WorthC (w : World) (k : Nat) : Prop := ∀ (t : Tm) (v kv : Value) (ks : List (Int × Int)) (news : List (Addr × Obj)), t.size < k → TIn news v t → KnIn news kv ks → ks.length + t.size ≤ 1000 → Fn w none 357 [v, kv] t.size news (SameInt news (t.worth ks))
theorem kwXF3_1 : True := by
  k_with "eval ListComp" =>
    (
      k_here
      refine' compPairs ?kclos ?kcell ?kkind ?knames ?kxa ?kxb ?kab ?kf ?kn ?_ ?ks
      (case kf => k_asm); (case kn => k_asm)
      (case kclos => k_dflt (with_unfolding_all rfl)); (case kcell => decide); (case kkind => k_dflt rfl); (case knames => decide); (case kxa => decide); (case kxb => decide); (case kab => decide); (case ks => intro _; k_dflt rfl)
      )
  k_with "binaryOp Add ref ref" =>
    (
      k_here
      refine' addL ?k1 ?k2 ?k3 ?k4 ?k5 ?_
      (case k1 => k_asm); (case k2 => k_asm); (case k3 => is_list); (case k4 => is_list)
      (case k5 => (simp only [List.length_append, List.length_cons, List.length_nil, Tm.size, sizeLine, recursionLimit] at *; omega))
      intro _ _ _ N' _; (try dsimp only [List.nil_append, List.cons_append] at N'); (try dsimp only); (try k_fold))
  trivial
theorem WorthC.use {w : World} {k : Nat} {t : Tm} {v kv : Value} {ks : List (Int × Int)} {news : List (Addr × Obj)} {p : Program} {loose : List Str} {mean : ExcName → Option Value} {mg mb : Str → Option Value} {dp un : Nat} {gd : Option (List Code)} {env : Env} {outer : List Env} {A₀ : Around} {base h₀ : Heap} {L : Addr} {m : Str → Option Value} {s : Shared} {Q E : Value → Shared → Prop} (C : WorthC w k) (ht : TIn news v t) (hkn : KnIn news kv ks) (hs : t.size < k) (hks : ks.length + t.size ≤ 1000) (B : Below A₀ base outer h₀) (F : Fr h₀ L s.heap m) (X : (heapK w.params).In h₀) (N : News h₀ L s.heap news) (T : Top p loose mean mg mb h₀) (hf : env.frame = some L) (hk : env.scope.kind = .function) (hdp : dp + t.size < recursionLimit) (hun : un + 8 * t.size < cLine)
    (ret : ∀ tk h' tk', Fr h₀ L h' m → News h₀ L h' news → Q (.int (t.worth ks) tk) { s with heap := h', toks := tk' }) :
    wpAny (model pw w) (topA none dp un gd env outer) (call (.ref 357) [v, kv]) Q E s :=
  Fn.int (C t v kv ks news hs ht hkn hks) B F X N T hf hk hdp hun ret
theorem kwXF3_2 : True := by
  k_with "rel" =>
    first | assumption | exact TIn.mono (by assumption) (fun _ h => List.mem_cons_of_mem _ h) | exact TIn.mono (by assumption) (fun _ h => List.mem_cons_of_mem _ (List.mem_cons_of_mem _ h)) | exact TIn.mono (by assumption) (by intro p hp; simp only [List.mem_cons, hp, or_true])
  trivial
theorem KnIn.push {news : List (Addr × Obj)} {ks : List (Int × Int)} {D T : Addr} {its : List Value} {q1 q2 : Int} {e : Nat} {t0 t1 : Tok} {news0 : List (Addr × Obj)} (hP : Paired (PairAt news0) ks its) (hs : ∀ p ∈ news0, p ∈ news) (hT : (T, ({ cls := .type "tuple", data := .seq #[.int q1 t0, .int q2 t1] e } : Obj)) ∈ news)
    (hD : (D, listOf (List.toArray (.ref T :: its)) 0) ∈ news) : KnIn news (.ref D) ((q1, q2) :: ks) := ⟨D, _, _, rfl, hD, .cons ⟨T, e, t0, t1, rfl, hT⟩ (hP.mono fun _ _ z => z.mono hs)⟩
theorem kwXF3_3 : True := by
  k_with "call ref" =>
    (
      k_here
      (with_reducible show wpAny _ _ (call (Value.ref 357) _) _ _ _)
      refine' WorthC.use (ks := _) ?ki ?kr ?kq ?kl ?km ?k3 ?k4 ?k5 ?k6 ?k7 ?k8 ?k9 ?kd ?ku ?_
      (case ki => assumption); (case k3 => k_asm); (case k4 => k_asm); (case k5 => k_asm); (case k6 => k_asm); (case k7 => k_asm); (case k8 => exact rfl); (case k9 => exact rfl); (case kr => ktr_rel)
      (case kq => first | assumption | exact KnIn.mono (by assumption) (by intro p hp; simp only [List.mem_cons, hp, or_true]) | k_dflt (refine' KnIn.push ?ka ?kb ?kc ?ke; (case ka => assumption); (case ke => k_mem); (case kc => k_mem); (case kb => (intro p hp; simp only [List.mem_cons, hp, or_true]))))
      (case kl => simp only [Tm.size] at *; omega)
      (case km => simp only [Tm.size, List.length_cons] at *; omega)
      (case kd => (simp only [Tm.size, depth_deeper, recursionLimit] at *; (try dsimp only [topA] at *); omega))
      (case ku => (simp only [Tm.size, units_deeper, cLine] at *; (try dsimp only [topA] at *); omega))
      intro _ _ _ _ _; (try dsimp only); (try k_fold))
  trivial
theorem worth_step (w : World) (k : Nat) (ih : WorthC w k) : WorthC w (k + 1) := by
  intro t v kv ks news hsz ht hkn hks
  unfold Fn
  intro p loose mean mg mb dp un gd env outer A₀ base h₀ L m s Q E B F X N T hf hk hdp hun ret
  refine wpAny_call ?_
  refine' code_defC (binds := [(Str.ofString "term", v), (Str.ofString "known", kv)]) B F X N T rfl hf hk ?k6 ?k7 ?k8 ?k9 ?kB ?kD ?_ ?c2 ?c3 ?c4
  case k6 => k_is
  case k7 => k_is
  case k8 => k_room
  case k9 => exact BindsTo.of_eq rfl
  case kB => rfl
  case kD => decide
  case c2 => exact rfl
  case c3 => exact rfl
  case c4 => exact rfl
  intro g' L' h' tk' cells FG' F' N' C' B' X' T' lt'
  (try dsimp only)
  k_fold
  k_cells C'
  (try simp only [List.cons_append, List.nil_append] at N')
  (try k_fold)
  cases ht with
  | num hm =>
    k_steps
    exact ret _ _ _ _ (by k_asm) (News.sub1 (by k_asm) (by intro p hp; simp only [List.mem_cons, hp, or_true])) ⟨rfl, _, rfl⟩
  | @nam a pl t0 t1 e hm =>
    k_steps
    obtain ⟨al, its, el, rfl, hml, hPl⟩ := hkn
    refine ⟨ks, [], by k_asm, by k_asm, ⟨al, its, el, rfl, List.mem_cons_of_mem _ hml, hPl.mono fun _ _ h => h.mono fun _ hp => List.mem_cons_of_mem _ hp⟩, .inl ⟨rfl, rfl⟩, by simp only [sizeLine]; omega, fun q => q.1 == pl.fdiv 2, fun q y => ∃ tk, y = .int q.2 tk, ?ct, ?ce, ?cf⟩
    case ct =>
      intro q C oC hh m₂ tk t0 t1 Q E hoC ha hb F N hq
      k_steps
      exact hq _ _ fun _ _ e => e
    case ce =>
      intro q C oC hh m₂ tk t0 t1 Q E hoC ha hb F N hq
      k_steps
      exact hq _ _ _ ⟨_, rfl⟩ fun _ _ e => e
    case cf =>
      intro D ys h2 tk2 F N l1 hP
      have hyl : ys.length ≤ 1000 := by
        have z1 := hP.length
        have z2 := List.length_filter_le (fun q : Int × Int => q.1 == pl.fdiv 2) ks
        omega
      generalize hfl : ks.filter (fun q : Int × Int => q.1 == pl.fdiv 2) = fl at hP
      cases hP
      · k_steps
        exact ret _ _ _ _ (by k_asm) (News.sub1 (by k_asm) (by intro p hp; simp only [List.mem_cons, hp, or_true])) ⟨rfl, _, by
          rw [Tm.worth, look_filter, ← Int.fdiv_eq_ediv_of_nonneg _ (by decide : (0:Int) ≤ 2), hfl]⟩
      · rename_i hG _
        obtain ⟨tk9, rfl⟩ := hG
        k_steps
        exact ret _ _ _ _ (by k_asm) (News.sub1 (by k_asm) (by intro p hp; simp only [List.mem_cons, hp, or_true])) ⟨rfl, _, by
          rw [Tm.worth, look_filter, ← Int.fdiv_eq_ediv_of_nonneg _ (by decide : (0:Int) ≤ 2), hfl]⟩
  | @less a t0 u v x y e hm h1 h2 =>
    k_steps
    exact ret _ _ _ _ (by k_asm) (News.sub1 (by k_asm) (by intro p hp; simp only [List.mem_cons, hp, or_true])) ⟨rfl, _, by
      rw [Tm.worth, ← Int.fmod_eq_emod_of_nonneg _ (by decide : (0:Int) ≤ 97)]⟩
  | @lett a t0 t1 u v x y z e hm h1 h2 =>
    obtain ⟨al, its, el, rfl, hml, hPl⟩ := id hkn
    have hlen := hPl.length
    k_steps
    exact ret _ _ _ _ (by k_asm) (News.sub1 (by k_asm) (by intro p hp; simp only [List.mem_cons, hp, or_true])) ⟨rfl, _, by
      rw [Tm.worth, ← Int.fdiv_eq_ediv_of_nonneg _ (by decide : (0:Int) ≤ 2)]⟩
theorem worth_all (w : World) : ∀ k, WorthC w k
  | 0 => fun _ _ _ _ _ h => absurd h (Nat.not_lt_zero _)
  | k + 1 => worth_step w k (worth_all w k)
end
section
def Tm.lns : Tm → List Ln
  | .num n => [.num n]
  | .nam p => [.nam p, .get]
  | .less a b => a.lns ++ b.lns ++ [.less]
  | .lett a b p => a.lns ++ [.nam p, .set] ++ b.lns ++ [.fin]
theorem lines_lns : ∀ t : Tm, t.lines = t.lns.map Ln.str
  | .num _ => rfl
  | .nam _ => rfl
  | .less a b => by simp only [Tm.lines, Tm.lns, List.map_append, lines_lns a, lines_lns b]; rfl
  | .lett a b p => by simp only [Tm.lines, Tm.lns, List.map_append, lines_lns a, lines_lns b]; rfl
theorem Steps.append {xs ys : List Ln} {st st1 st2 : List It} {R R1 R2 : List Rw} {m m1 m2 : Int} (h : Steps xs st R m st1 R1 m1) (h2 : Steps ys st1 R1 m1 st2 R2 m2) : Steps (xs ++ ys) st R m st2 R2 m2 := by
  induction h with
  | nil => exact h2
  | cons hs _ ih => exact .cons hs (ih h2)
def upd (R : List Rw) (p : Int) : List Rw := off R (p / 2) ++ (match lk R (p / 2) with | some v => [.kv p v] | none => [])
def endsR (es : List Int) (R : List Rw) : List Rw := es.foldl upd R
theorem lk_append (R S : List Rw) (k : Int) : lk (R ++ S) k = (lk R k).or (lk S k) := by
  induction R with
  | nil => rfl
  | cons x r ih =>
    cases x with
    | kv p n =>
      rw [List.cons_append, lk, lk]
      split
      · rfl
      · exact ih
    | other => rw [List.cons_append, lk, lk]; exact ih
theorem lk_off (R : List Rw) (k j : Int) : lk (off R k) j = if j = k then none else lk R j := by
  induction R with
  | nil => unfold off; simp [lk]
  | cons x r ih =>
    cases x with
    | kv p n =>
      unfold off at ih ⊢
      rw [List.filter_cons]
      by_cases h : p / 2 = k
      · have : (!(Rw.kv p n).at k) = false := by simp [Rw.at, h]
        rw [this, if_neg (by decide), ih, lk]
        by_cases hj : j = k
        · rw [if_pos hj, if_pos hj]
        · rw [if_neg hj, if_neg hj, if_neg (fun z => hj (z.symm.trans h))]
      · have : (!(Rw.kv p n).at k) = true := by simp [Rw.at, h]
        rw [this, if_pos rfl, lk, lk, ih]
        by_cases hj : p / 2 = j
        · rw [if_pos hj, if_pos hj, if_neg (fun z => h (hj.trans z))]
        · rw [if_neg hj, if_neg hj]
    | other =>
      unfold off at ih ⊢
      have : (!Rw.other.at k) = true := rfl
      rw [List.filter_cons, this, if_pos rfl, lk, lk]
      exact ih
theorem off_append (R S : List Rw) (k : Int) : off (R ++ S) k = off R k ++ off S k := by unfold off; exact List.filter_append ..
theorem off_off (R : List Rw) (k : Int) : off (off R k) k = off R k := by unfold off; rw [List.filter_filter]; congr 1; funext x; simp
theorem off_comm (R : List Rw) (k j : Int) : off (off R k) j = off (off R j) k := by unfold off; rw [List.filter_filter, List.filter_filter]; congr 1; funext x; rw [Bool.and_comm]
theorem off_one {p n k : Int} (h : p / 2 = k) : off [.kv p n] k = [] := by simp [off, Rw.at, h]
theorem off_one' {p n k : Int} (h : ¬ p / 2 = k) : off [.kv p n] k = [.kv p n] := by simp [off, Rw.at, h]
theorem lk_upd (R : List Rw) (p k : Int) : lk (upd R p) k = lk R k := by
  unfold upd
  rw [lk_append, lk_off]
  by_cases h : k = p / 2
  · subst h
    rw [if_pos rfl]
    cases lk R (p / 2) with
    | none => rfl
    | some v => simp [lk]
  · rw [if_neg h]
    cases lk R (p / 2) with
    | none => simp [lk]
    | some v => simp [lk, Ne.symm h]
theorem lk_ends (es : List Int) : ∀ (R : List Rw) (k : Int), lk (endsR es R) k = lk R k := by
  induction es with
  | nil => intro R k; rfl
  | cons p r ih => intro R k; show lk (endsR r (upd R p)) k = _; rw [ih, lk_upd]
theorem off_upd_same {R : List Rw} {q k : Int} (h : q / 2 = k) : off (upd R q) k = off R k := by
  unfold upd
  rw [off_append, h, off_off]
  cases lk R k with
  | none => simp [off]
  | some v => simp only [off_one h, List.append_nil]
theorem off_upd_ne {R : List Rw} {q k : Int} (h : ¬ q / 2 = k) : off (upd R q) k = upd (off R k) q := by
  unfold upd
  rw [off_append, off_comm, lk_off, if_neg h]
  cases lk R (q / 2) with
  | none => simp [off]
  | some v => simp only [off_one' h]
theorem off_ends (es : List Int) : ∀ {R S : List Rw} {k : Int}, off R k = off S k → off (endsR es R) k = off (endsR es S) k := by
  induction es with
  | nil => intro R S k h; exact h
  | cons p r ih =>
    intro R S k h
    show off (endsR r (upd R p)) k = off (endsR r (upd S p)) k
    refine ih ?_
    by_cases hp : p / 2 = k
    · rw [off_upd_same hp, off_upd_same hp, h]
    · rw [off_upd_ne hp, off_upd_ne hp, h]
theorem need_pos : ∀ t : Tm, 1 ≤ t.need
  | .num _ => Int.le_refl _
  | .nam _ => Int.le_refl _
  | .less a b => by have := need_pos a; have := need_pos b; rw [Tm.need, Int.max_def]; split <;> omega
  | .lett a b _ => by have := need_pos a; have := need_pos b; rw [Tm.need, Int.max_def]; split <;> omega
theorem endsR_append (a b : List Int) (R : List Rw) : endsR (a ++ b) R = endsR b (endsR a R) := by unfold endsR; exact List.foldl_append
theorem max_eq {a b c d : Int} (h : max a b = max c d) : max a b = max c d := h
theorem run_term : ∀ (t : Tm) (ks : List (Int × Int)) (R : List Rw) (st : List It) (mo : Int), t.ok → (∀ k, (lk R k).getD 7 = Look k ks) →
    ∃ mo', mo' = max mo (st.length + t.need) ∧ Steps t.lns st R mo (.val (t.worth ks) :: st) (endsR t.ends R) mo'
  | .num n, ks, R, st, mo, ho, hK => ⟨_, rfl, .cons (.num ho) (by
      have e : max mo ((It.val n :: st).length : Int) = max mo (st.length + Tm.need (.num n)) := by simp [Tm.need]
      rw [e]; exact .nil)⟩
  | .nam p, ks, R, st, mo, ho, hK => by
    refine ⟨_, rfl, .cons (.nam ho) (.cons .get ?_)⟩
    have e : max (max mo ((It.nm p :: st).length : Int)) ((It.val ((lk R (p / 2)).getD 7) :: st).length : Int) = max mo (st.length + Tm.need (.nam p)) := by
      simp only [Tm.need, List.length_cons]; omega
    rw [e, hK]
    exact .nil
  | .less a b, ks, R, st, mo, ho, hK => by
    obtain ⟨m1, e1, h1⟩ := run_term a ks R st mo ho.1 hK
    obtain ⟨m2, e2, h2⟩ := run_term b ks (endsR a.ends R) (.val (a.worth ks) :: st) m1 ho.2 (fun k => by rw [lk_ends]; exact hK k)
    refine ⟨_, rfl, ?_⟩
    have hb := need_pos b
    have e : max m2 ((It.val ((a.worth ks - b.worth ks) % 97) :: st).length : Int) = max mo (st.length + Tm.need (.less a b)) := by
      subst e1 e2
      simp only [Tm.need, List.length_cons]; omega
    rw [← e, Tm.ends, endsR_append]
    exact (h1.append h2).append (.cons .less .nil)
  | .lett a b p, ks, R, st, mo, ho, hK => by
    obtain ⟨m1, e1, h1⟩ := run_term a ks R st mo ho.1 hK
    have hK1 : ∀ k, (lk (endsR a.ends R) k).getD 7 = Look k ks := fun k => by rw [lk_ends]; exact hK k
    obtain ⟨m2, e2, h2⟩ := run_term b ((p / 2, a.worth ks) :: ks) (off (endsR a.ends R) (p / 2) ++ [.kv p (a.worth ks)]) (.old p (lk (endsR a.ends R) (p / 2)) :: st) (max (max m1 ((It.nm p :: It.val (a.worth ks) :: st).length : Int)) ((It.old p (lk (endsR a.ends R) (p / 2)) :: st).length : Int)) ho.2.1 (fun k => by
      rw [lk_append, lk_off, Look]
      by_cases h : k = p / 2
      · rw [if_pos h, if_pos h.symm]; simp [lk, h]
      · rw [if_neg h, if_neg (Ne.symm h), ← hK1 k]; cases lk (endsR a.ends R) k <;> simp [lk, Ne.symm h])
    refine ⟨_, rfl, ?_⟩
    have hb := need_pos b
    have e : max m2 ((It.val (b.worth ((p / 2, a.worth ks) :: ks)) :: st).length : Int) = max mo (st.length + Tm.need (.lett a b p)) := by
      subst e1 e2
      simp only [Tm.need, List.length_cons]; omega
    have eoff : off (endsR b.ends (off (endsR a.ends R) (p / 2) ++ [.kv p (a.worth ks)])) (p / 2) = off (endsR b.ends (endsR a.ends R)) (p / 2) := off_ends _ (by rw [off_append, off_off, off_one rfl, List.append_nil])
    have hfin : ∀ o, o = lk (endsR a.ends R) (p / 2) → Step .fin (.val (b.worth ((p / 2, a.worth ks) :: ks)) :: .old p o :: st) (endsR b.ends (off (endsR a.ends R) (p / 2) ++ [.kv p (a.worth ks)])) (.val (b.worth ((p / 2, a.worth ks) :: ks)) :: st) (upd (endsR b.ends (endsR a.ends R)) p) := by
      intro o ho
      unfold upd
      rw [lk_ends, ← ho, ← eoff]
      cases o with
      | none => rw [List.append_nil]; exact .fin0
      | some v => exact .fin1
    rw [← e]
    show Steps (a.lns ++ [.nam p, .set] ++ b.lns ++ [.fin]) _ _ _ (.val (b.worth ((p / 2, a.worth ks) :: ks)) :: st) (endsR (a.ends ++ b.ends ++ [p]) R) _
    rw [endsR_append, endsR_append]
    exact ((h1.append (.cons (.nam ho.2.2) (.cons .set .nil))).append h2).append (.cons (hfin _ rfl) .nil)
def row0 (d : Int) : List Rw := [.kv 3 d, .kv 0 40, .other]
def hasK (es : List Int) (k : Int) : Bool := es.any fun p => p / 2 == k
def lastL (d : Int) : List Int → List Rw
  | [] => []
  | p :: r => (if p / 2 = 1 ∧ hasK r 1 = false then [.kv p d] else []) ++ (if p / 2 = 0 ∧ hasK r 0 = false then [.kv p 40] else []) ++ lastL d r
def ent (d p : Int) : List Rw := if p / 2 = 1 then [.kv p d] else if p / 2 = 0 then [.kv p 40] else []
theorem hasK_snoc (es : List Int) (p k : Int) : hasK (es ++ [p]) k = (hasK es k || (p / 2 == k)) := by simp [hasK]
theorem lastL_snoc (d : Int) (p : Int) : ∀ es : List Int, lastL d (es ++ [p]) = off (lastL d es) (p / 2) ++ ent d p
  | [] => by
    simp only [List.nil_append, lastL, hasK, List.any_nil, and_true, List.append_nil, off, List.filter_nil, ent]
    by_cases h1 : p / 2 = 1
    · have : ¬ p / 2 = 0 := by omega
      simp [h1]
    · simp [h1]
  | q :: r => by
    rw [List.cons_append, lastL, lastL, lastL_snoc d p r, hasK_snoc, hasK_snoc, off_append, off_append, ← List.append_assoc]
    congr 2
    by_cases h1 : q / 2 = 1
    · by_cases h2 : p / 2 = 1
      · simp [h1, h2, off, Rw.at]
      · have : ¬ (1 : Int) = p / 2 := fun z => h2 z.symm
        simp [h1, h2]
        split <;> simp [off, Rw.at, h1, this]
    · by_cases h0 : q / 2 = 0
      · by_cases h2 : p / 2 = 0
        · simp [h0, h2, off, Rw.at]
        · have : ¬ (0 : Int) = p / 2 := fun z => h2 z.symm
          simp [h0, h2]
          split <;> simp [off, Rw.at, h0, this]
      · simp [h0, h1, off]
def endT (d : Int) (es : List Int) : List Rw := (if hasK es 1 then [] else [.kv 3 d]) ++ (if hasK es 0 then [] else [.kv 0 40]) ++ [.other] ++ lastL d es
theorem ends_snoc (d p : Int) (es : List Int) (h : endsR es (row0 d) = endT d es) : endsR (es ++ [p]) (row0 d) = endT d (es ++ [p]) := by
  rw [endsR_append]
  show upd (endsR es (row0 d)) p = _
  unfold upd
  rw [lk_ends, h]
  unfold endT
  rw [off_append, off_append, off_append, lastL_snoc, hasK_snoc, hasK_snoc, List.append_assoc _ (off (lastL d es) (p / 2)), List.append_assoc, List.append_assoc]
  have e3 : (3 : Int) / 2 = 1 := by decide
  have e0 : (0 : Int) / 2 = 0 := by decide
  by_cases h1 : p / 2 = 1
  · simp only [h1, ent, lk, row0, e3, if_pos rfl]
    cases hasK es 1 <;> cases hasK es 0 <;> simp [off, Rw.at]
  · by_cases h0 : p / 2 = 0
    · simp only [h0, ent, lk, row0, e3, e0]
      cases hasK es 1 <;> cases hasK es 0 <;> simp [off, Rw.at]
    · have n1 : ¬ (1 : Int) = p / 2 := fun z => h1 z.symm
      have n0 : ¬ (0 : Int) = p / 2 := fun z => h0 z.symm
      simp only [ent, lk, row0, e3, e0, if_neg h1, if_neg h0, if_neg n1, if_neg n0]
      cases hasK es 1 <;> cases hasK es 0 <;> simp [off, Rw.at, h1, h0, n1, n0]
theorem endsR_all (d : Int) (es : List Int) : endsR es (row0 d) = endT d es := by
  have : ∀ r : List Int, endsR r.reverse (row0 d) = endT d r.reverse := by
    intro r
    induction r with
    | nil => rfl
    | cons p r ih => rw [List.reverse_cons]; exact ends_snoc d p _ ih
  have h := this es.reverse
  rwa [List.reverse_reverse] at h
end
section
open PySem.Builtin
def shStep (x : Int) (sh : List Tm) : List Tm := match sh with
  | r :: l :: q => if x.fmod 4 = 2 then .less l r :: q else if x.fmod 4 = 3 then .lett l r ((x.fdiv 4).fmod 6) :: q else if x.fmod 4 = 0 then .num ((x.fdiv 4).fmod 97) :: sh else .nam ((x.fdiv 4).fmod 6) :: sh
  | _ => if x.fmod 4 = 2 ∨ x.fmod 4 = 0 then .num ((x.fdiv 4).fmod 97) :: sh else .nam ((x.fdiv 4).fmod 6) :: sh
def shelf (xs : List Int) : List Tm := xs.foldl (fun sh x => shStep x sh) []
def closeF : Nat → List Tm → List Tm
  | k + 1, r :: l :: q => closeF k (.lett l r ((q.length : Int).fmod 6) :: q)
  | _, sh => sh
def sizes : List Tm → Nat
  | [] => 0
  | t :: r => t.size + sizes r
def shOk (sh : List Tm) : Prop := ∀ t ∈ sh, t.ok
theorem fmod_n97 (x : Int) : 0 ≤ x.fmod 97 ∧ x.fmod 97 < 97 := ⟨by rw [Int.fmod_eq_emod_of_nonneg _ (by decide)]; exact Int.emod_nonneg _ (by decide), by rw [Int.fmod_eq_emod_of_nonneg _ (by decide)]; exact Int.emod_lt_of_pos _ (by decide)⟩
theorem fmod_p6 (x : Int) : 0 ≤ x.fmod 6 ∧ x.fmod 6 < 6 := ⟨by rw [Int.fmod_eq_emod_of_nonneg _ (by decide)]; exact Int.emod_nonneg _ (by decide), by rw [Int.fmod_eq_emod_of_nonneg _ (by decide)]; exact Int.emod_lt_of_pos _ (by decide)⟩
theorem shStep_ok {x : Int} {sh : List Tm} (h : shOk sh) : shOk (shStep x sh) ∧ sizes (shStep x sh) ≤ sizes sh + 1 ∧ (shStep x sh).length ≤ sh.length + 1 ∧ (shStep x sh) ≠ [] := by
  have n : shOk (.num ((x.fdiv 4).fmod 97) :: sh) := List.forall_mem_cons.mpr ⟨fmod_n97 _, h⟩
  have m : shOk (.nam ((x.fdiv 4).fmod 6) :: sh) := List.forall_mem_cons.mpr ⟨fmod_p6 _, h⟩
  unfold shStep
  split
  · rename_i r l q
    have h1 := List.forall_mem_cons.mp h
    have h2 := List.forall_mem_cons.mp h1.2
    split
    · exact ⟨List.forall_mem_cons.mpr ⟨⟨h2.1, h1.1⟩, h2.2⟩, by simp only [sizes, Tm.size]; omega, by simp, by simp⟩
    · split
      · exact ⟨List.forall_mem_cons.mpr ⟨⟨h2.1, h1.1, fmod_p6 _⟩, h2.2⟩, by simp only [sizes, Tm.size]; omega, by simp, by simp⟩
      · split
        · exact ⟨n, by simp only [sizes, Tm.size]; omega, by simp, by simp⟩
        · exact ⟨m, by simp only [sizes, Tm.size]; omega, by simp, by simp⟩
  · split
    · exact ⟨n, by simp only [sizes, Tm.size]; omega, by simp, by simp⟩
    · exact ⟨m, by simp only [sizes, Tm.size]; omega, by simp, by simp⟩
theorem closeF_ok : ∀ (k : Nat) {sh : List Tm}, shOk sh → sh ≠ [] → sh.length ≤ k + 1 → ∃ t, closeF k sh = [t] ∧ t.ok ∧ t.size + 1 ≤ sizes sh + sh.length
  | 0, [t], h, _, _ => ⟨t, rfl, h t List.mem_cons_self, by simp [sizes]⟩
  | 0, r :: l :: q, _, _, hk => by simp at hk
  | k + 1, [t], h, _, _ => ⟨t, rfl, h t List.mem_cons_self, by simp [sizes]⟩
  | k + 1, r :: l :: q, h, _, hk => by
    have h1 := List.forall_mem_cons.mp h
    have h2 := List.forall_mem_cons.mp h1.2
    obtain ⟨t, e, ho, hs⟩ := closeF_ok k (sh := .lett l r ((q.length : Int).fmod 6) :: q) (List.forall_mem_cons.mpr ⟨⟨h2.1, h1.1, fmod_p6 _⟩, h2.2⟩) (by simp) (by simp only [List.length_cons] at hk ⊢; omega)
    refine ⟨t, e, ho, ?_⟩
    simp only [sizes, Tm.size, List.length_cons] at hs ⊢
    omega
  | _, [], _, hne, _ => absurd rfl hne
section
variable {w : World} {A : Around} {E : Value → Shared → Prop} {s : Shared} {h₀ : Heap} {L l : Addr} {m : Str → Option Value} {imm led : List (Addr × Obj)} {its : List Value} {e : Nat}
theorem popL {v : Value} {Q : Value → Shared → Prop} (F : Fr h₀ L s.heap m) (N : News h₀ L s.heap led) (hm : (l, listOf (List.toArray (its ++ [v])) e) ∈ led) (hz : its.length ≤ 1000)
    (h : ∀ h' e', Fr h₀ L h' m → (∀ led', (∀ p ∈ led', p ∈ led ∧ p.1 ≠ l) → News h₀ L h' ((l, listOf (List.toArray its) e') :: led')) → Q v { s with heap := h' }) : wpAny (model pw w) A (call (.builtin "list.pop") [.ref l]) Q E s := by
  have z := N _ hm
  have hy : (its ++ [v]).toArray[(its ++ [v]).toArray.size - 1]? = some v := by simp
  have hz' : (its ++ [v]).toArray.size ≤ sizeLine := by simp [sizeLine]; omega
  refine call_meets PySem.F.slot_list_pop ⟨_, z.1, rfl⟩ PySem.F.entry_list_pop (PySem.F.args_list_pop_1 _) (PySem.MeetsSeq.list_pop_last l _ e v hy hz') ⟨z.1, ?_⟩
  have hs := Heap.SameBut.update s.heap l (Obj.mapSeq fun xs => xs.eraseIdxIfInBounds ((its ++ [v]).toArray.size - 1))
  have ex : (its ++ [v]).toArray.eraseIdxIfInBounds ((its ++ [v]).toArray.size - 1) = its.toArray := by
    have hs1 : (its ++ [v]).toArray.size - 1 = its.length := by simp
    rw [hs1, Array.eraseIdxIfInBounds]
    simp only [List.size_toArray, List.length_append, List.length_singleton, Nat.lt_succ_self, dite_true]
    rw [List.eraseIdx_toArray, List.eraseIdx_append_of_length_le (Nat.le_refl _)]
    simp
  have e2 := Heap.get?_update_self (Obj.mapSeq fun xs => xs.eraseIdxIfInBounds ((its ++ [v]).toArray.size - 1)) z.1 rfl
  have e3 : ∃ n', Obj.mapSeq (fun xs => xs.eraseIdxIfInBounds ((its ++ [v]).toArray.size - 1)) (listOf (List.toArray (its ++ [v])) e) = listOf (List.toArray its) n' := by
    unfold Obj.mapSeq
    dsimp only
    rw [ex]
    exact ⟨_, rfl⟩
  obtain ⟨n', e3⟩ := e3
  rw [e3] at e2
  refine h _ n' (F.change hs z.2.1 z.2.2) fun led' hled p hp => ?_
  rcases List.mem_cons.mp hp with rfl | hp
  · exact ⟨e2, z.2⟩
  · obtain ⟨k1, k2⟩ := hled p hp
    exact ⟨hs.extBut _ _ k2 (N p k1).1, (N p k1).2⟩
end
def canonT (a na : Addr) (xv kv rv lv : Option Value) : Str → Option Value := fun z =>
  if z = Str.ofString "left" then lv else if z = Str.ofString "right" then rv else if z = Str.ofString "kind" then kv else if z = Str.ofString "x" then xv else if z = Str.ofString "shelf" then some (.ref a) else
    List.lookup z [(Str.ofString "numbers", Value.ref na)].reverse
theorem canonT0 {a na : Addr} : (fun z => if z = Str.ofString "shelf" then some (.ref a) else List.lookup z [(Str.ofString "numbers", Value.ref na)].reverse) = canonT a na none none none none := by
  funext z
  unfold canonT
  by_cases h1 : z = Str.ofString "left"
  · subst h1; rfl
  by_cases h2 : z = Str.ofString "right"
  · subst h2; rfl
  by_cases h3 : z = Str.ofString "kind"
  · subst h3; rfl
  by_cases h4 : z = Str.ofString "x"
  · subst h4; rfl
  simp only [if_neg h1, if_neg h2, if_neg h3, if_neg h4]
theorem canonT1 {a na : Addr} {xv kv rv lv : Option Value} {x k r l : Value} : (fun z => if z = Str.ofString "left" then some l else if z = Str.ofString "right" then some r else if z = Str.ofString "kind" then some k else if z = Str.ofString "x" then some x else canonT a na xv kv rv lv z) = canonT a na (some x) (some k) (some r) (some l) := by
  funext z
  unfold canonT
  by_cases h1 : z = Str.ofString "left"
  · simp only [if_pos h1]
  by_cases h2 : z = Str.ofString "right"
  · simp only [if_pos h2]
  by_cases h3 : z = Str.ofString "kind"
  · simp only [if_pos h3]
  by_cases h4 : z = Str.ofString "x"
  · simp only [if_pos h4]
  simp only [if_neg h1, if_neg h2, if_neg h3, if_neg h4]
theorem canonT2 {a na : Addr} {xv kv rv lv : Option Value} {x k : Value} : (fun z => if z = Str.ofString "kind" then some k else if z = Str.ofString "x" then some x else canonT a na xv kv rv lv z) = canonT a na (some x) (some k) rv lv := by
  funext z
  unfold canonT
  by_cases h1 : z = Str.ofString "left"
  · subst h1; rfl
  by_cases h2 : z = Str.ofString "right"
  · subst h2; rfl
  by_cases h3 : z = Str.ofString "kind"
  · subst h3; rfl
  by_cases h4 : z = Str.ofString "x"
  · subst h4; rfl
  simp only [if_neg h1, if_neg h2, if_neg h3, if_neg h4]
theorem canonT3 {a na : Addr} {xv kv rv lv : Option Value} {r l : Value} : (fun z => if z = Str.ofString "left" then some l else if z = Str.ofString "right" then some r else canonT a na xv kv rv lv z) = canonT a na xv kv (some r) (some l) := by
  funext z
  unfold canonT
  by_cases h1 : z = Str.ofString "left"
  · simp only [if_pos h1]
  by_cases h2 : z = Str.ofString "right"
  · simp only [if_pos h2]
  simp only [if_neg h1, if_neg h2]
def preI : List Int := [80, 17, 12, 2, 1, 9, 2, 7, 21, 2, 19]
def ShAt (imm : List (Addr × Obj)) (sh : List Tm) (its : List Value) : Prop := Paired (fun t v => TIn imm v t) sh.reverse its
theorem ShAt.len {imm : List (Addr × Obj)} {sh : List Tm} {its : List Value} (h : ShAt imm sh its) : its.length = sh.length := by
  have := h.length; rw [List.length_reverse] at this; exact this.symm
theorem ShAt.mono {imm imm' : List (Addr × Obj)} {sh : List Tm} {its : List Value} (h : ShAt imm sh its) (hs : ∀ p ∈ imm, p ∈ imm') : ShAt imm' sh its := Paired.mono (fun _ _ z => TIn.mono z hs) h
theorem ShAt.push {imm : List (Addr × Obj)} {sh : List Tm} {its : List Value} {t : Tm} {v : Value} (h : ShAt imm sh its) (ht : TIn imm v t) : ShAt imm (t :: sh) (its ++ [v]) := by
  unfold ShAt; rw [List.reverse_cons]; exact Paired.snoc h ht
theorem ShAt.pop {imm : List (Addr × Obj)} {sh : List Tm} {its : List Value} {t : Tm} (h : ShAt imm (t :: sh) its) : ∃ its0 v, its = its0 ++ [v] ∧ ShAt imm sh its0 ∧ TIn imm v t := by
  unfold ShAt at h; rw [List.reverse_cons] at h
  exact paired_inv h
theorem shStep0 {x : Int} {sh : List Tm} (h : x.fmod 4 = 0) : shStep x sh = .num ((x.fdiv 4).fmod 97) :: sh := by
  unfold shStep; split
  · rw [h]; rfl
  · rw [if_pos (.inr h)]
theorem shStep1 {x : Int} {sh : List Tm} (h : x.fmod 4 = 1) : shStep x sh = .nam ((x.fdiv 4).fmod 6) :: sh := by
  unfold shStep; split
  · rw [h]; rfl
  · rw [if_neg (by omega)]
theorem shStep2s {x : Int} {sh : List Tm} (h : x.fmod 4 = 2) (hs : sh.length ≤ 1) : shStep x sh = .num ((x.fdiv 4).fmod 97) :: sh := by
  unfold shStep; split
  · simp at hs
  · rw [if_pos (.inl h)]
theorem shStep3s {x : Int} {sh : List Tm} (h : x.fmod 4 = 3) (hs : sh.length ≤ 1) : shStep x sh = .nam ((x.fdiv 4).fmod 6) :: sh := by
  unfold shStep; split
  · simp at hs
  · rw [if_neg (by omega)]
theorem shStep2 {x : Int} {r l : Tm} {q : List Tm} (h : x.fmod 4 = 2) : shStep x (r :: l :: q) = .less l r :: q := by
  show (if x.fmod 4 = 2 then _ else _) = _; rw [if_pos h]
theorem shStep3 {x : Int} {r l : Tm} {q : List Tm} (h : x.fmod 4 = 3) : shStep x (r :: l :: q) = .lett l r ((x.fdiv 4).fmod 6) :: q := by
  show (if x.fmod 4 = 2 then _ else if x.fmod 4 = 3 then _ else _) = _; rw [if_neg (by omega), if_pos h]
theorem shelf_take {xs : List Int} {i : Nat} {x : Int} (h : xs[i]? = some x) : shelf (xs.take (i + 1)) = shStep x (shelf (xs.take i)) := by
  obtain ⟨hi, rfl⟩ := List.getElem?_eq_some_iff.mp h
  rw [List.take_succ_eq_append_getElem hi]
  unfold shelf
  rw [List.foldl_append]; rfl
theorem shelf_ok (xs : List Int) : shOk (shelf xs) ∧ sizes (shelf xs) ≤ xs.length ∧ (shelf xs).length ≤ xs.length := by
  have : ∀ ys : List Int, shOk (shelf ys.reverse) ∧ sizes (shelf ys.reverse) ≤ ys.length ∧ (shelf ys.reverse).length ≤ ys.length := by
    intro ys
    induction ys with
    | nil => exact ⟨fun _ h => (nomatch h), Nat.le_refl _, Nat.le_refl _⟩
    | cons y r ih =>
      have e : shelf (y :: r).reverse = shStep y (shelf r.reverse) := by rw [List.reverse_cons]; unfold shelf; rw [List.foldl_append]; rfl
      obtain ⟨a, b, c, _⟩ := shStep_ok (x := y) ih.1
      rw [e]
      exact ⟨a, by rw [List.length_cons]; omega, by rw [List.length_cons]; omega⟩
  have h := this xs.reverse
  rwa [List.reverse_reverse, List.length_reverse] at h
theorem fmod4 (x : Int) : x.fmod 4 = 0 ∨ x.fmod 4 = 1 ∨ x.fmod 4 = 2 ∨ x.fmod 4 = 3 := by
  rw [Int.fmod_eq_emod_of_nonneg _ (by decide : (0:Int) ≤ 4)]; omega
theorem intsGet {ws : List Value} {ns : List Int} (h : IntsAre ws ns) : ∀ {i : Nat} {v : Value}, ws[i]? = some v → ∃ x t, v = .int x t ∧ ns[i]? = some x := by
  induction h with
  | nil => intro i v h; simp at h
  | cons x t _ ih =>
    intro i v h
    cases i with
    | zero => simp at h; exact ⟨x, t, h.symm, by simp⟩
    | succ i => obtain ⟨y, u, h1, h2⟩ := ih (by simpa using h); exact ⟨y, u, h1, by simpa using h2⟩
def Jterm (news : List (Addr × Obj)) (sa na : Addr) (xs : List Int) (i : Nat) (m : Str → Option Value) (led : List (Addr × Obj)) : Prop :=
  ∃ its e imm sh xv kv rv lv, led = (sa, listOf (List.toArray its) e) :: imm ∧ m = canonT sa na xv kv rv lv ∧ ShAt imm sh its ∧ (∀ p ∈ imm, p.1 ≠ sa) ∧ (∀ q ∈ news, q ∈ imm) ∧ sh = shelf (xs.take i)
def Jclose (news : List (Addr × Obj)) (sa na : Addr) (goal : List Tm) (n : Nat) (m : Str → Option Value) (led : List (Addr × Obj)) : Prop :=
  ∃ its e imm sh xv kv rv lv, led = (sa, listOf (List.toArray its) e) :: imm ∧ m = canonT sa na xv kv rv lv ∧ ShAt imm sh its ∧ (∀ p ∈ imm, p.1 ≠ sa) ∧ (∀ q ∈ news, q ∈ imm) ∧ sh.length = n ∧ sh ≠ [] ∧ ∃ k, goal = closeF k sh ∧ n ≤ k + 1 ∧ k ≤ 30
section
variable {w : World} {A : Around} {E : Value → Shared → Prop} {s : Shared} {h₀ : Heap} {L sa T : Addr} {m : Str → Option Value} {imm led : List (Addr × Obj)} {its : List Value} {e : Nat}
theorem pushTm {pre : List (Addr × Obj)} {Q : Value → Shared → Prop} (F : Fr h₀ L s.heap m) (N : News h₀ L s.heap led) (h2 : (sa, listOf (List.toArray its) e) ∈ led) (h4 : ∀ p ∈ pre, p ∈ led) (hap : ∀ p ∈ pre, p.1 ≠ sa) (hz : its.length ≤ 1000)
    (h : ∀ h' e', Fr h₀ L h' m → News h₀ L h' ((sa, listOf (List.toArray (its ++ [.ref T])) e') :: pre) → Q .none { s with heap := h' }) :
    wpAny (model pw w) A (call (.builtin "list.append") [.ref sa, .ref T]) Q E s :=
  appL F N h2 (by simp [sizeLine]; omega) fun h' F' NN => h h' (e + 1) F' (NN pre fun p hp => ⟨h4 p hp, hap p hp⟩)
end
end
section
theorem kwXW2_0 : True := by
  w_top off
  k_with_none
  trivial
open PySem.Builtin PySem.Builtin.Str
theorem kwXW2_1 : True := by
  k_with "exec For" =>
    (
      k_here
      k_dflt (refine' forName ?kl ?kf ?ka ?kp ?_ ?ks
              (case kl => exact rfl); (case kf => k_asm); (case ka => rfl); (case kp => rfl); (case ks => intro _; rfl)))
  k_with "binaryOp Add ref ref" =>
    (
      k_here
      k_dflt (
      refine' addL ?k1 ?k2 ?k3 ?k4 ?k5 ?_
      (case k1 => k_asm); (case k2 => k_asm); (case k3 => is_list); (case k4 => is_list)
      (case k5 => (simp only [List.length_append, List.length_cons, List.length_nil, sizeLine] at *; omega))
      intro _ _ _ _ _; (try dsimp only); (try k_fold)))
  trivial
theorem modK {w : World} {A : Around} {E : Value → Shared → Prop} {s : Shared} {Q : Value → Shared → Prop} {x y k : Int} {t u : Tok} (e : x.fmod y = k) (hy : y ≠ 0) (h : Q (.int k s.toks) { s with toks := s.toks + 1 }) : wpAny (model pw w) A (binaryOp .Mod (.int x t) (.int y u)) Q E s :=
  mod_int' hy (by rw [e]; exact h)
theorem kwXW2_2 : True := by
  k_with "binaryOp Mod int int" =>
    (k_here; k_dflt (refine modK (by assumption) (by decide) ?_))
  trivial
theorem lenL {w : World} {A : Around} {E : Value → Shared → Prop} {s : Shared} {Q : Value → Shared → Prop} {h₀ : Heap} {L l : Addr} {led : List (Addr × Obj)} {its : List Value} {e : Nat} (N : News h₀ L s.heap led) (hm : (l, listOf (List.toArray its) e) ∈ led) (hz : its.length ≤ 1000) (h : ∀ t, Q (.int its.length t) { s with toks := s.toks + 1 + 1 }) : wpAny (model pw w) A (call (.builtin "len") [.ref l]) Q E s :=
  len_list (News.isList N hm) (by simp; omega) (by simpa using h (s.toks + 1))
theorem kwXW2_3 : True := by
  k_with "call builtin:len" =>
    (k_here; k_dflt (refine lenL (by k_asm) (by k_mem) (by omega) ?_; intro _))
  trivial
def WhStop (Q : Prop) : Prop := Q
theorem whStop {P : Prop} (h : WhStop P) : P := h
theorem kwXW2_4 : True := by
  k_with "exec While Compare" =>
    (k_here; k_dflt (refine whStop ?_))
  trivial
theorem term_fn (w : World) (na : Addr) (ws : List Value) (e : Nat) (ns : List Int) (tk : Tok) (news : List (Addr × Obj)) (hm : (na, listOf (List.toArray ws) e) ∈ news) (hI : IntsAre ws ns) (hn : ns.length ≤ 8) :
    Fn w none 324 [.ref na] 2 news (fun r news' => (∀ p ∈ news, p ∈ news') ∧ ∃ t, closeF 30 (shelf (preI ++ ns)) = [t] ∧ TIn news' r t) := by
  unfold Fn
  intro p loose mean mg mb dp un gd env outer A₀ base h₀ L m s Q E B F X N T hf hk hdp hun ret
  refine wpAny_call ?_
  refine' code_def (binds := [(Str.ofString "numbers", .ref na)]) B F X N T rfl hf hk ?k6 ?k7 ?k8 ?k9 ?kB ?_ ?c2 ?c3 ?c4 ?c5
  case k6 => k_is
  case k7 => k_is
  case k8 => k_room
  case k9 => exact BindsTo.of_eq rfl
  case c5 => decide
  case kB => exact locs rfl
  case c2 => exact rfl
  case c3 => exact rfl
  case c4 => exact rfl
  intro g' L' h' FG' F' N' B' X' T'
  (try dsimp only)
  k_fold
  have hwl := hI.length
  k_steps
  rename Fr g' L' _ _ => hF
  rename News g' L' _ _ => hN
  rename_i sa _ l1s _ lb _ _ _ l1b da _ l1d
  generalize hsrc : ([Value.int 80 _, Value.int 17 _, Value.int 12 _, Value.int 2 _, Value.int 1 _, Value.int 9 _, Value.int 2 _, Value.int 7 _, Value.int 21 _, Value.int 2 _, Value.int 19 _] ++ ws : List Value) = src at hN
  have hI1 : IntsAre src (preI ++ ns) := by
    rw [← hsrc]
    exact .cons _ _ (.cons _ _ (.cons _ _ (.cons _ _ (.cons _ _ (.cons _ _ (.cons _ _ (.cons _ _ (.cons _ _ (.cons _ _ (.cons _ _ hI))))))))))
  have hxl : (preI ++ ns).length ≤ 19 := by rw [List.length_append]; show 11 + ns.length ≤ 19; omega
  clear hsrc
  refine ⟨da, src.toArray, Jterm ((da, listOf src.toArray 0) :: news) sa na (preI ++ ns), (sa, listOf (List.toArray []) 0) :: (da, listOf src.toArray 0) :: news, rfl, hF, ?c1, ?c2, ?c3, ?c4, ?c5, ?c6⟩
  case c1 => intro q hq; apply hN; simp only [List.mem_cons] at hq ⊢; rcases hq with h | h | h <;> simp [h]
  case c2 =>
    refine ⟨[], 0, _, [], none, none, none, none, rfl, canonT0, .nil, ?_, fun _ h => h, rfl⟩
    intro q hq
    rcases List.mem_cons.mp hq with rfl | hq
    · exact Ne.symm (Nat.ne_of_lt (l1d (sa, _) (.tail _ (.head _))))
    · exact Nat.ne_of_lt (l1s q hq)
  case c3 =>
    rintro i m led ⟨its, e, imm, sh, xv, kv, rv, lv, rfl, _, _, _, hnw, _⟩
    exact ⟨⟨0, by simp [hnw]⟩, .inl rfl⟩
  case c4 => intro _ _ _ _ _ _; trivial
  case c5 =>
    rintro i v m1 led m2 hh tk2 I oI hv ⟨its, e, imm, sh, xv, kv, rv, lv, rfl, rfl, hS, hap, hnw, rfl⟩ rfl F8 N8 hne
    obtain ⟨x, tx, rfl, hx⟩ := intsGet hI1 (i := i) (v := v) (by simpa using hv)
    unfold canonT at F8
    have hlen := hS.len
    have hl2 := (shelf_ok ((preI ++ ns).take i)).2.2
    have hl3 : ((preI ++ ns).take i).length ≤ 19 := by rw [List.length_take]; omega
    have hIs : I ≠ sa := Ne.symm (hne (sa, listOf (List.toArray its) e) (.head _))
    have hJ1 := shelf_take hx
    generalize shelf ((preI ++ ns).take i) = sh at *
    clear hF hN l1s l1b l1d F N X FG' T
    rcases fmod4 x with hk4 | hk4 | hk4 | hk4
    · rw [shStep0 hk4] at hJ1
      k_steps
      rename Fr g' L' _ _ => kF
      rename News g' L' _ _ => kN
      rename I < _ ∧ sa < _ ∧ AllLt _ imm => l9
      rename_i T9 _
      refine pushTm (pre := (T9, _) :: (I, oI) :: imm) kF kN (.tail _ (.tail _ (.head _))) (List.forall_mem_cons.mpr ⟨.head _, List.forall_mem_cons.mpr ⟨.tail _ (.head _), fun p hp => by simp [hp]⟩⟩) (List.forall_mem_cons.mpr ⟨Ne.symm (Nat.ne_of_lt l9.2.1), List.forall_mem_cons.mpr ⟨hIs, hap⟩⟩) (by omega) ?_
      intro h9 e9 F9 N9
      clear kF kN
      k_steps
      exact ⟨_, _, _, (sa, _) :: (T9, _) :: imm, rfl, by k_asm, News.sub1 (by k_asm) (List.forall_mem_cons.mpr ⟨.tail _ (.tail _ (.head _)), List.forall_mem_cons.mpr ⟨.head _, List.forall_mem_cons.mpr ⟨.tail _ (.head _), fun p hp => by simp [hp]⟩⟩⟩), List.forall_mem_cons.mpr ⟨Ne.symm hIs, List.forall_mem_cons.mpr ⟨Ne.symm (Nat.ne_of_lt l9.1), fun p hp => hne p (.tail _ hp)⟩⟩, _, _, _, _, _, _, _, _, rfl, canonT2, (hS.mono fun p hp => List.mem_cons_of_mem _ hp).push (.num (.head _)), List.forall_mem_cons.mpr ⟨Ne.symm (Nat.ne_of_lt l9.2.1), hap⟩, (fun q hq => List.mem_cons_of_mem _ (hnw q hq)), hJ1.symm⟩
    · rw [shStep1 hk4] at hJ1
      k_steps
      rename Fr g' L' _ _ => kF
      rename News g' L' _ _ => kN
      rename I < _ ∧ sa < _ ∧ AllLt _ imm => l9
      rename_i T9 _
      refine pushTm (pre := (T9, _) :: (I, oI) :: imm) kF kN (.tail _ (.tail _ (.head _))) (List.forall_mem_cons.mpr ⟨.head _, List.forall_mem_cons.mpr ⟨.tail _ (.head _), fun p hp => by simp [hp]⟩⟩) (List.forall_mem_cons.mpr ⟨Ne.symm (Nat.ne_of_lt l9.2.1), List.forall_mem_cons.mpr ⟨hIs, hap⟩⟩) (by omega) ?_
      intro h9 e9 F9 N9
      clear kF kN
      k_steps
      exact ⟨_, _, _, (sa, _) :: (T9, _) :: imm, rfl, by k_asm, News.sub1 (by k_asm) (List.forall_mem_cons.mpr ⟨.tail _ (.tail _ (.head _)), List.forall_mem_cons.mpr ⟨.head _, List.forall_mem_cons.mpr ⟨.tail _ (.head _), fun p hp => by simp [hp]⟩⟩⟩), List.forall_mem_cons.mpr ⟨Ne.symm hIs, List.forall_mem_cons.mpr ⟨Ne.symm (Nat.ne_of_lt l9.1), fun p hp => hne p (.tail _ hp)⟩⟩, _, _, _, _, _, _, _, _, rfl, canonT2, (hS.mono fun p hp => List.mem_cons_of_mem _ hp).push (.nam (.head _)), List.forall_mem_cons.mpr ⟨Ne.symm (Nat.ne_of_lt l9.2.1), hap⟩, (fun q hq => List.mem_cons_of_mem _ (hnw q hq)), hJ1.symm⟩
    · by_cases hsm : sh.length ≤ 1
      · rw [shStep2s hk4 hsm] at hJ1
        k_steps
        rename Fr g' L' _ _ => kF
        rename News g' L' _ _ => kN
        rename I < _ ∧ sa < _ ∧ AllLt _ imm => l9
        rename_i T9 _
        refine pushTm (pre := (T9, _) :: (I, oI) :: imm) kF kN (.tail _ (.tail _ (.head _))) (List.forall_mem_cons.mpr ⟨.head _, List.forall_mem_cons.mpr ⟨.tail _ (.head _), fun p hp => by simp [hp]⟩⟩) (List.forall_mem_cons.mpr ⟨Ne.symm (Nat.ne_of_lt l9.2.1), List.forall_mem_cons.mpr ⟨hIs, hap⟩⟩) (by omega) ?_
        intro h9 e9 F9 N9
        clear kF kN
        k_steps
        exact ⟨_, _, _, (sa, _) :: (T9, _) :: imm, rfl, by k_asm, News.sub1 (by k_asm) (List.forall_mem_cons.mpr ⟨.tail _ (.tail _ (.head _)), List.forall_mem_cons.mpr ⟨.head _, List.forall_mem_cons.mpr ⟨.tail _ (.head _), fun p hp => by simp [hp]⟩⟩⟩), List.forall_mem_cons.mpr ⟨Ne.symm hIs, List.forall_mem_cons.mpr ⟨Ne.symm (Nat.ne_of_lt l9.1), fun p hp => hne p (.tail _ hp)⟩⟩, _, _, _, _, _, _, _, _, rfl, canonT2, (hS.mono fun p hp => List.mem_cons_of_mem _ hp).push (.num (.head _)), List.forall_mem_cons.mpr ⟨Ne.symm (Nat.ne_of_lt l9.2.1), hap⟩, (fun q hq => List.mem_cons_of_mem _ (hnw q hq)), hJ1.symm⟩
      obtain ⟨r, l, q, rfl⟩ : ∃ r l q, sh = r :: l :: q := by
        rcases sh with _ | ⟨r, _ | ⟨l, q⟩⟩
        · simp at hsm
        · simp at hsm
        · exact ⟨r, l, q, rfl⟩
      obtain ⟨its1, vr, rfl, hS1, hTr⟩ := hS.pop
      obtain ⟨its0, vl, rfl, hS0, hTl⟩ := hS1.pop
      rw [shStep2 hk4] at hJ1
      have hb1 : 1 < (its0 ++ [vl] ++ [vr]).length := by simp
      have hb2 : (its0 ++ [vl] ++ [vr]).length ≤ 30 := by omega
      have hb3 : its0.length ≤ 30 := by simp only [List.length_append, List.length_singleton] at hb2; omega
      k_steps
      rename Fr g' L' _ _ => kF
      rename News g' L' _ _ => kN
      refine popL (l := sa) (its := its0 ++ [vl]) (v := vr) kF kN (.tail _ (.head _)) (by simp; omega) ?_
      intro h9 e9 F9 NN9
      have N9 := NN9 ((I, oI) :: imm) (List.forall_mem_cons.mpr ⟨⟨.head _, hIs⟩, fun p hp => ⟨by simp [hp], hap p hp⟩⟩)
      clear kF kN NN9
      k_steps
      rename Fr g' L' _ _ => kF
      rename News g' L' _ _ => kN
      refine popL (l := sa) (its := its0) (v := vl) kF kN (.head _) (by omega) ?_
      intro h8 e8 F8 NN8
      have N8 := NN8 ((I, oI) :: imm) (List.forall_mem_cons.mpr ⟨⟨.tail _ (.head _), hIs⟩, fun p hp => ⟨by simp [hp], hap p hp⟩⟩)
      clear kF kN NN8
      k_steps
      rename Fr g' L' _ _ => kF
      rename News g' L' _ _ => kN
      rename sa < _ ∧ I < _ ∧ AllLt _ imm => l9
      rename_i T9 _
      refine pushTm (pre := (T9, _) :: (I, oI) :: imm) kF kN (.tail _ (.head _)) (List.forall_mem_cons.mpr ⟨.head _, List.forall_mem_cons.mpr ⟨.tail _ (.tail _ (.head _)), fun p hp => by simp [hp]⟩⟩) (List.forall_mem_cons.mpr ⟨Ne.symm (Nat.ne_of_lt l9.1), List.forall_mem_cons.mpr ⟨hIs, hap⟩⟩) (by omega) ?_
      intro h7 e7 F7 N7
      clear kF kN
      k_steps
      exact ⟨_, _, _, (sa, _) :: (T9, _) :: imm, rfl, by k_asm, News.sub1 (by k_asm) (List.forall_mem_cons.mpr ⟨.tail _ (.tail _ (.head _)), List.forall_mem_cons.mpr ⟨.head _, List.forall_mem_cons.mpr ⟨.tail _ (.head _), fun p hp => by simp [hp]⟩⟩⟩), List.forall_mem_cons.mpr ⟨Ne.symm hIs, List.forall_mem_cons.mpr ⟨Ne.symm (Nat.ne_of_lt l9.2.1), fun p hp => hne p (.tail _ hp)⟩⟩, _, _, _, _, _, _, _, _, rfl, canonT1, (hS0.mono fun p hp => List.mem_cons_of_mem _ hp).push (.less (.head _) (hTl.mono fun p hp => List.mem_cons_of_mem _ hp) (hTr.mono fun p hp => List.mem_cons_of_mem _ hp)), List.forall_mem_cons.mpr ⟨Ne.symm (Nat.ne_of_lt l9.1), hap⟩, (fun q hq => List.mem_cons_of_mem _ (hnw q hq)), hJ1.symm⟩
    · by_cases hsm : sh.length ≤ 1
      · rw [shStep3s hk4 hsm] at hJ1
        k_steps
        rename Fr g' L' _ _ => kF
        rename News g' L' _ _ => kN
        rename I < _ ∧ sa < _ ∧ AllLt _ imm => l9
        rename_i T9 _
        refine pushTm (pre := (T9, _) :: (I, oI) :: imm) kF kN (.tail _ (.tail _ (.head _))) (List.forall_mem_cons.mpr ⟨.head _, List.forall_mem_cons.mpr ⟨.tail _ (.head _), fun p hp => by simp [hp]⟩⟩) (List.forall_mem_cons.mpr ⟨Ne.symm (Nat.ne_of_lt l9.2.1), List.forall_mem_cons.mpr ⟨hIs, hap⟩⟩) (by omega) ?_
        intro h9 e9 F9 N9
        clear kF kN
        k_steps
        exact ⟨_, _, _, (sa, _) :: (T9, _) :: imm, rfl, by k_asm, News.sub1 (by k_asm) (List.forall_mem_cons.mpr ⟨.tail _ (.tail _ (.head _)), List.forall_mem_cons.mpr ⟨.head _, List.forall_mem_cons.mpr ⟨.tail _ (.head _), fun p hp => by simp [hp]⟩⟩⟩), List.forall_mem_cons.mpr ⟨Ne.symm hIs, List.forall_mem_cons.mpr ⟨Ne.symm (Nat.ne_of_lt l9.1), fun p hp => hne p (.tail _ hp)⟩⟩, _, _, _, _, _, _, _, _, rfl, canonT2, (hS.mono fun p hp => List.mem_cons_of_mem _ hp).push (.nam (.head _)), List.forall_mem_cons.mpr ⟨Ne.symm (Nat.ne_of_lt l9.2.1), hap⟩, (fun q hq => List.mem_cons_of_mem _ (hnw q hq)), hJ1.symm⟩
      obtain ⟨r, l, q, rfl⟩ : ∃ r l q, sh = r :: l :: q := by
        rcases sh with _ | ⟨r, _ | ⟨l, q⟩⟩
        · simp at hsm
        · simp at hsm
        · exact ⟨r, l, q, rfl⟩
      obtain ⟨its1, vr, rfl, hS1, hTr⟩ := hS.pop
      obtain ⟨its0, vl, rfl, hS0, hTl⟩ := hS1.pop
      rw [shStep3 hk4] at hJ1
      have hb1 : 1 < (its0 ++ [vl] ++ [vr]).length := by simp
      have hb2 : (its0 ++ [vl] ++ [vr]).length ≤ 30 := by omega
      have hb3 : its0.length ≤ 30 := by simp only [List.length_append, List.length_singleton] at hb2; omega
      k_steps
      rename Fr g' L' _ _ => kF
      rename News g' L' _ _ => kN
      refine popL (l := sa) (its := its0 ++ [vl]) (v := vr) kF kN (.tail _ (.head _)) (by simp; omega) ?_
      intro h9 e9 F9 NN9
      have N9 := NN9 ((I, oI) :: imm) (List.forall_mem_cons.mpr ⟨⟨.head _, hIs⟩, fun p hp => ⟨by simp [hp], hap p hp⟩⟩)
      clear kF kN NN9
      k_steps
      rename Fr g' L' _ _ => kF
      rename News g' L' _ _ => kN
      refine popL (l := sa) (its := its0) (v := vl) kF kN (.head _) (by omega) ?_
      intro h8 e8 F8 NN8
      have N8 := NN8 ((I, oI) :: imm) (List.forall_mem_cons.mpr ⟨⟨.tail _ (.head _), hIs⟩, fun p hp => ⟨by simp [hp], hap p hp⟩⟩)
      clear kF kN NN8
      k_steps
      rename Fr g' L' _ _ => kF
      rename News g' L' _ _ => kN
      rename sa < _ ∧ I < _ ∧ AllLt _ imm => l9
      rename_i T9 _
      refine pushTm (pre := (T9, _) :: (I, oI) :: imm) kF kN (.tail _ (.head _)) (List.forall_mem_cons.mpr ⟨.head _, List.forall_mem_cons.mpr ⟨.tail _ (.tail _ (.head _)), fun p hp => by simp [hp]⟩⟩) (List.forall_mem_cons.mpr ⟨Ne.symm (Nat.ne_of_lt l9.1), List.forall_mem_cons.mpr ⟨hIs, hap⟩⟩) (by omega) ?_
      intro h7 e7 F7 N7
      clear kF kN
      k_steps
      exact ⟨_, _, _, (sa, _) :: (T9, _) :: imm, rfl, by k_asm, News.sub1 (by k_asm) (List.forall_mem_cons.mpr ⟨.tail _ (.tail _ (.head _)), List.forall_mem_cons.mpr ⟨.head _, List.forall_mem_cons.mpr ⟨.tail _ (.head _), fun p hp => by simp [hp]⟩⟩⟩), List.forall_mem_cons.mpr ⟨Ne.symm hIs, List.forall_mem_cons.mpr ⟨Ne.symm (Nat.ne_of_lt l9.2.1), fun p hp => hne p (.tail _ hp)⟩⟩, _, _, _, _, _, _, _, _, rfl, canonT1, (hS0.mono fun p hp => List.mem_cons_of_mem _ hp).push (.lett (.head _) (hTl.mono fun p hp => List.mem_cons_of_mem _ hp) (hTr.mono fun p hp => List.mem_cons_of_mem _ hp)), List.forall_mem_cons.mpr ⟨Ne.symm (Nat.ne_of_lt l9.1), hap⟩, (fun q hq => List.mem_cons_of_mem _ (hnw q hq)), hJ1.symm⟩
  case c6 =>
    rintro hh tk m1 led ⟨its, e, imm, sh, xv, kv, rv, lv, rfl, rfl, hS, hap, hnw, rfl⟩ F8 N8
    have htk : List.take src.toArray.size (preI ++ ns) = preI ++ ns := by
      rw [List.size_toArray, hI1.length]; exact List.take_length
    rw [htk] at hS
    clear hF hN l1s l1b l1d F N X FG' T
    obtain ⟨ho, hsz, hle⟩ := shelf_ok (preI ++ ns)
    have hne : shelf (preI ++ ns) ≠ [] := by
      intro h0
      have h1 : preI ++ ns = (preI ++ ns).take ((preI ++ ns).length - 1 + 1) := by
        rw [List.take_of_length_le]; omega
      have h2 : (preI ++ ns).length - 1 < (preI ++ ns).length := by rw [List.length_append]; show 11 + ns.length - 1 < 11 + ns.length; omega
      rw [h1, shelf_take (List.getElem?_eq_getElem h2)] at h0
      exact (shStep_ok (shelf_ok _).1).2.2.2 h0
    k_steps
    unfold WhStop
    refine While_inv2 (Jclose news sa na (closeF 30 (shelf (preI ++ ns)))) F8 N8 ⟨its, e, imm, shelf (preI ++ ns), xv, kv, rv, lv, rfl, rfl, hS, hap, (fun q hq => hnw q (.tail _ hq)), rfl, hne, 30, rfl, by omega, Nat.le_refl _⟩ ?turn (by first | passes_own | with_unfolding_all passes_own)
    clear F8 N8 hS hap hnw
    rintro n m1 led h1 tk1 F1 N1 ⟨its, e, imm, sh, xv, kv, rv, lv, rfl, rfl, hS, hap, hnw, rfl, hne2, k, hk, hnk, hk30⟩
    unfold canonT at F1
    replace F1 : Fr g' L' h1 _ := F1
    rcases sh with _ | ⟨r, _ | ⟨l, q⟩⟩
    · exact absurd rfl hne2
    · obtain ⟨its0, v, rfl, hS0, hT0⟩ := hS.pop
      have hnil : its0 = [] := List.length_eq_zero_iff.mp hS0.len
      subst hnil
      have hfin : closeF 30 (shelf (preI ++ ns)) = [r] := by rw [hk]; cases k <;> rfl
      replace N1 : News g' L' h1 ((sa, listOf (List.toArray [v]) e) :: imm) := N1
      k_steps
      show LeaveK h₀ L m g' _ v _
      exact leaveK_ F1 N1 fun kF kN => ret _ _ _ _ kF kN ⟨fun p hp => .tail _ (hnw p hp), r, hfin, hT0.mono fun p hp => .tail _ hp⟩
    · obtain ⟨its1, vr, rfl, hS1, hTr⟩ := hS.pop
      obtain ⟨its0, vl, rfl, hS0, hTl⟩ := hS1.pop
      have hb1 : 1 < (its0 ++ [vl] ++ [vr]).length := by simp
      have hb4 := hS0.len
      have hb2 : (its0 ++ [vl] ++ [vr]).length ≤ 31 := by simp only [List.length_append, List.length_nil, List.length_cons] at hnk ⊢; omega
      have hb3 : its0.length ≤ 30 := by simp only [List.length_append, List.length_singleton] at hb2; omega
      k_steps
      rename Fr g' _ _ _ => kF
      rename News g' _ _ _ => kN
      refine popL (l := sa) (its := its0 ++ [vl]) (v := vr) kF kN (.head _) (by simp; omega) ?_
      intro h9 e9 F9 NN9
      have N9 := NN9 imm (fun p hp => ⟨by simp [hp], hap p hp⟩)
      clear kF kN NN9
      k_steps
      rename Fr g' _ _ _ => kF
      rename News g' _ _ _ => kN
      refine popL (l := sa) (its := its0) (v := vl) kF kN (.head _) (by omega) ?_
      intro h8 e8 F8 NN8
      have N8 := NN8 imm (fun p hp => ⟨by simp [hp], hap p hp⟩)
      clear kF kN NN8
      k_steps
      rename Fr g' _ _ _ => kF
      rename News g' _ _ _ => kN
      rename sa < _ ∧ AllLt _ imm => l9
      rename_i T9 _
      refine pushTm (pre := (T9, _) :: imm) kF kN (.tail _ (.head _)) (List.forall_mem_cons.mpr ⟨.head _, fun p hp => by simp [hp]⟩) (List.forall_mem_cons.mpr ⟨Ne.symm (Nat.ne_of_lt l9.1), hap⟩) (by omega) ?_
      intro h7 e7 F7 N7
      clear kF kN
      k_steps
      exact ⟨h7, _, _, (sa, _) :: (T9, _) :: imm, (l :: q).length, rfl, by k_asm, by k_asm, by simp, _, _, _, _, _, _, _, _, rfl, canonT3, (hS0.mono fun p hp => List.mem_cons_of_mem _ hp).push (.lett (.head _) (hTl.mono fun p hp => List.mem_cons_of_mem _ hp) (hTr.mono fun p hp => List.mem_cons_of_mem _ hp)), List.forall_mem_cons.mpr ⟨Ne.symm (Nat.ne_of_lt l9.1), hap⟩, (fun z hz => List.mem_cons_of_mem _ (hnw z hz)), rfl, by simp, by
        rw [hb4]
        cases k with
        | zero => simp at hnk
        | succ k => exact ⟨k, hk, by simp only [List.length_cons] at hnk ⊢; omega, by omega⟩⟩
end
section
theorem kwXR2_0 : True := by
  w_top off
  k_with_none
  trivial
open PySem.Builtin PySem.Builtin.Str
def ForStop (Q : Prop) : Prop := Q
theorem forStop {P : Prop} (h : ForStop P) : P := h
theorem kwXR2_1 : True := by
  k_with "exec For" =>
    (k_here; k_dflt (refine forStop ?_))
  k_with "call ref" =>
    (
      k_here
      (with_reducible show wpAny _ _ (call (Value.ref 255) _ _) _ _ _)
      k_dflt (
      show wpAny _ _ (call (Value.ref 255) [] []) _ _ _
      refine' acc_make ?k3 ?k4 ?k5 ?k6 ?k7 ?k8 ?k9 ?kd ?ku ?_
      (case k3 => k_asm); (case k4 => k_asm); (case k5 => k_asm); (case k6 => k_asm); (case k7 => k_asm); (case k8 => exact rfl); (case k9 => exact rfl)
      (case kd => (simp only [Tm.size, depth_deeper, recursionLimit] at *; (try dsimp only [topA] at *); omega))
      (case ku => (simp only [Tm.size, units_deeper, cLine] at *; (try dsimp only [topA] at *); omega))
      intro _ _ _ _ _ _ _ _ _ _; (try dsimp only); (try k_fold)))
  k_with "inst" =>
    exact instAcc (by k_asm) (by k_mem) (by k_mem)
  k_with "getMethod ref" =>
    (
      k_here
      k_dflt (refine' methL_fn ?F ?X ?I ?ga ?gk ?hf ?ht ?hs ?_; (case F => k_asm); (case X => k_asm); (case I => exact instAcc (by k_asm) (by k_mem) (by k_mem)); (case ga => k_is); (case gk => k_is); (case hf => k_is); (case ht => k_is); (case hs => rfl)))
  k_with "assign Tuple" =>
    (
      k_here
      k_dflt (refine' asgT ?F ?N ?hT ?hH ?hL ?ha ?hb ?hp ?_; (case F => k_asm); (case N => k_asm); (case hT => k_mem); (case hH => exact .inl rfl); (case hL => exact rfl); (case ha => exact rfl); (case hb => exact rfl); (case hp => exact rfl); intro _ _ _ _; (try dsimp only); (try k_fold)))
  k_with "call ref" =>
    (
      k_here
      (with_reducible show wpAny _ _ (call (Value.ref 303) _ _) _ _ _)
      k_dflt (first
      | (refine' Fn.use (hd := none) ?kC ?k3 ?k4 ?k5 ?k6 ?k7 ?k8 ?k9 ?kd ?ku ?_
         (case k3 => k_asm); (case k4 => k_asm); (case k5 => k_asm); (case k6 => k_asm); (case k7 => k_asm); (case k8 => exact rfl); (case k9 => exact rfl)
         (case kC => exact p229_num _ _ (by assumption) _ _ _ _ _ _ (by k_mem))
         (case kd => ((try dsimp only [Around.mark]); simp only [depth_deeper, recursionLimit] at *; (try dsimp only [topA] at *); omega))
         (case ku => ((try dsimp only [Around.mark]); simp only [units_deeper, cLine] at *; (try dsimp only [topA] at *); omega))
         intro _ _ _ _ _ _ H9; obtain ⟨T9, k09, k19, e91, e92⟩ := H9; subst e91; subst e92; (try dsimp only); (try k_fold))
      | (refine' FnX.use (hd := none) ?kC ?k3 ?k4 ?k5 ?k6 ?k7 ?k8 ?k9 ?kd ?ku ?_
         (case k3 => k_asm); (case k4 => k_asm); (case k5 => k_asm); (case k6 => k_asm); (case k7 => k_asm); (case k8 => exact rfl); (case k9 => exact rfl)
         (case kC => exact p229x _ _ _ _ _ _ (.inl rfl) (by assumption) (by assumption))
         (case kd => ((try dsimp only [Around.mark]); simp only [depth_deeper, recursionLimit] at *; (try dsimp only [topA] at *); omega))
         (case ku => ((try dsimp only [Around.mark]); simp only [units_deeper, cLine] at *; (try dsimp only [topA] at *); omega))
         intro _ _ _ _ _ _ _; (try dsimp only))))
  k_with "call ref" =>
    (
      k_here
      (with_reducible show wpAny _ _ (call (Value.ref 199) _ _) _ _ _)
      k_dflt (
      refine' push_run ?ki ?kp ?kS ?kl ?k3 ?k4 ?k5 ?kN ?k7 ?k8 ?k9 ?kd ?ku ?_
      (case kS => assumption)
      (case kp => assumption)
      (case ki => assumption)
      (case k3 => k_asm); (case k4 => k_asm); (case k5 => k_asm); (case k7 => k_asm); (case k8 => exact rfl); (case k9 => exact rfl)
      (case kN => exact News.sub1 (by k_asm) (List.forall_mem_cons.mpr ⟨by k_mem, List.forall_mem_cons.mpr ⟨by k_mem, by intro _ hq; simp only [List.mem_cons, hq, or_true]⟩⟩))
      (case kl => omega)
      (case kd => ((try dsimp only [Around.mark]); simp only [depth_deeper, recursionLimit] at *; (try dsimp only [topA] at *); omega))
      (case ku => ((try dsimp only [Around.mark]); simp only [units_deeper, cLine] at *; (try dsimp only [topA] at *); omega))
      intro _ _ _ _ _ _ N' _ S9; obtain ⟨_, _, _, _, hdx9⟩ := S9.pd; dsimp only [led2] at N'; (try dsimp only); (try k_fold)))
  k_with "call ref" =>
    (
      k_here
      (with_reducible show wpAny _ _ (call (Value.ref 252) _ _) _ _ _)
      k_dflt (
      refine' count_use ?ka ?kb ?kc ?k3 ?k4 ?k5 ?k6 ?k7 ?k8 ?k9 ?kd ?ku ?_
      (case k3 => k_asm); (case k4 => k_asm); (case k5 => k_asm); (case k6 => k_asm); (case k7 => k_asm); (case k8 => exact rfl); (case k9 => exact rfl)
      (case ka => k_mem)
      (case kb => exact ⟨_, _, _, _, by k_mem⟩)
      (case kc => (rw [StAt.len (by assumption)]; (try simp only [List.length_cons]); omega))
      (case kd => ((try dsimp only [Around.mark]); simp only [depth_deeper, recursionLimit] at *; (try dsimp only [topA] at *); omega))
      (case ku => ((try dsimp only [Around.mark]); simp only [units_deeper, cLine] at *; (try dsimp only [topA] at *); omega))
      intro _ _ _ _ _; (try dsimp only); (try k_fold)))
  k_with "call ref" =>
    (
      k_here
      (with_reducible show wpAny _ _ (call (Value.ref 310) _ _) _ _ _)
      k_dflt (first
      | (refine' Fn.str (p257_nam _ _ (by assumption) _ _) ?k3 ?k4 ?k5 ?k6 ?k7 ?k8 ?k9 ?kd ?ku ?_
         (case k3 => k_asm); (case k4 => k_asm); (case k5 => k_asm); (case k6 => k_asm); (case k7 => k_asm); (case k8 => exact rfl); (case k9 => exact rfl)
         (case kd => ((try dsimp only [Around.mark]); simp only [depth_deeper, recursionLimit] at *; (try dsimp only [topA] at *); omega))
         (case ku => ((try dsimp only [Around.mark]); simp only [units_deeper, cLine] at *; (try dsimp only [topA] at *); omega))
         intro _ _ _ _ _; (try dsimp only); (try k_fold))
      | (refine' FnX.use ?kC ?k3 ?k4 ?k5 ?k6 ?k7 ?k8 ?k9 ?kd ?ku ?_
         (case k3 => k_asm); (case k4 => k_asm); (case k5 => k_asm); (case k6 => k_asm); (case k7 => k_asm); (case k8 => exact rfl); (case k9 => exact rfl)
         (case kC => exact p257x _ _ _ _ _ (HushIn.mono (by assumption) (by intro _ hq; simp only [List.mem_cons, hq, or_true])) (by assumption) (by assumption))
         (case kd => ((try dsimp only [Around.mark]); simp only [depth_deeper, recursionLimit] at *; (try dsimp only [topA] at *); omega))
         (case ku => ((try dsimp only [Around.mark]); simp only [units_deeper, cLine] at *; (try dsimp only [topA] at *); omega))
         intro _ _ _ _ _ _ _; (try dsimp only))))
  k_with "call ref" =>
    (
      k_here
      (with_reducible show wpAny _ _ (call (Value.ref 345) _ _) _ _ _)
      k_dflt (
      refine' deed_run ?ks ?kw ?kS ?kH ?kl ?km ?k3 ?k4 ?k5 ?kN ?k7 ?k8 ?k9 ?kd ?ku ?_
      (case kS => assumption)
      (case ks => assumption)
      (case kw => assumption)
      (case kH => assumption)
      (case k3 => k_asm); (case k4 => k_asm); (case k5 => k_asm); (case k7 => k_asm); (case k8 => exact rfl); (case k9 => exact rfl)
      (case kN => exact News.sub1 (by k_asm) (List.forall_mem_cons.mpr ⟨by k_mem, List.forall_mem_cons.mpr ⟨by k_mem, by intro _ hq; simp only [List.mem_cons, hq, or_true]⟩⟩))
      (case kl => omega)
      (case km => omega)
      (case kd => ((try dsimp only [Around.mark]); simp only [depth_deeper, recursionLimit] at *; (try dsimp only [topA] at *); omega))
      (case ku => ((try dsimp only [Around.mark]); simp only [units_deeper, cLine] at *; (try dsimp only [topA] at *); omega))
      intro _ _ _ _ _ _ _ _ N' _ S9; obtain ⟨_, _, _, _, hdx9⟩ := S9.pd; dsimp only [led2] at N'; (try dsimp only); (try k_fold)))
  trivial
theorem run_fn (w : World) (la ha hl : Addr) (rows rows' : List Rw) (st' : List It) (mo' : Int) (hits ls : List Value) (eh el : Nat) (lns : List Ln) (news : List (Addr × Obj)) (hS : Steps lns [] rows 0 st' rows' mo') (hLn : StrsAre ls (lns.map Ln.str)) (hln : lns.length ≤ 400) (hrl : rows.length ≤ 100) (hml : (la, listOf (List.toArray ls) el) ∈ news)
    (htab : Paired (SPairAt news) (rows.map Rw.pr) hits) (hhd : HdAt news ha hl) (hah : ∀ p ∈ news, p.1 ≠ hl) (hok : ∀ r ∈ rows, r.ok)
    {p : Program} {loose : List Str} {mean : ExcName → Option Value} {mg mb : Str → Option Value} {dp un : Nat} {gd : Option (List Code)} {cn : Str} {cs : Scope} {ca : Addr} {ccd : Value} {A₀ : Around} {base h₀ : Heap} {L : Addr} {m : Str → Option Value} {s : Shared} {Q E : Value → Shared → Prop}
    (B : Below A₀ base [] h₀) (F : Fr h₀ L s.heap m) (X : (heapK w.params).In h₀) (N : News h₀ L s.heap ((hl, listOf (List.toArray hits) eh) :: news)) (T : Top p loose mean mg mb h₀) (XB : (heapK w.params).In base) (TB : Top p loose mean mg mb base) (hck : cs.kind = .function) (hdp : dp + 9 < recursionLimit) (hun : un + 8 * 9 < cLine)
    (ret : ∀ Tr pa dx its9 hits9 ex9 eh9 imm9 k9 h' tk', Fr h₀ L h' m → News h₀ L h' ((Tr, tupO (.ref pa) (.int mo' k9) 0) :: led2 pa dx hl its9 hits9 ex9 eh9 imm9) → StAt pa dx ha hl st' rows' its9 hits9 imm9 → (∀ q ∈ news, q ∈ imm9) → Q (.ref Tr) { s with heap := h', toks := tk' }) :
    wpAny (model pw w) (topA none dp un gd (envOf cn cs L ca ccd) []) (call (.ref 352) [.ref la, .ref ha]) Q E s := by
  refine wpAny_call ?_
  refine' code_defS0 (binds := [(Str.ofString "lines", .ref la), (Str.ofString "table", .ref ha)]) B F X N T rfl ?k6 ?k7 ?k8 ?k9 ?kB ?_ ?c1 ?c2 ?c3 ?c4 ?c5
  case k6 => k_is
  case k7 => k_is
  case k8 => k_room
  case k9 => exact BindsTo.of_eq rfl
  case kB => exact locs rfl
  case c1 => exact hck
  case c2 => exact rfl
  case c3 => exact rfl
  case c4 => exact rfl
  case c5 => decide
  intro g' L' h' FG' F' N' B' X' T' D'
  (try dsimp only)
  k_fold
  k_steps
  rename Fr g' L' _ _ => hF
  rename News g' L' _ _ => hN
  rename PdAt _ _ => hpd
  rename ∀ p ∈ (_ : List (Addr × Obj)), p.1 ≠ _ => hap
  rename_i pa dx od n9 _ _ _ _
  unfold ForStop
  refine forRun (A₁ := topA none dp un gd (envOf cn cs L ca ccd) []) (base := base) (outer := [envOf cn cs L ca ccd]) (g₀ := g') (L := L') rfl rfl hF rfl rfl ?_
  k_steps
  refine ⟨la, ls.toArray, Jrun news pa dx ha hl la lns st' rows' mo', led2 pa dx hl [] hits n9 eh ((dx, od) :: news), rfl, hF, ?c0, B', ?c1, ?c2, ?c3, ?c4⟩
  case c0 => intro q hq; apply hN; simp only [led2, List.mem_cons] at hq ⊢; rcases hq with h | h | h | h <;> simp [h]
  case c1 =>
    obtain ⟨q1, q2, q3, q4, q5⟩ := hpd
    have hdl : dx ≠ hl := led_ne hN (o1 := dictOf [⟨q1, .str (Str.ofString "_initial_size") q3, .int 0 q4⟩] q2) (o2 := listOf (List.toArray hits) eh) (.tail _ q5) (.tail _ (.tail _ (.head _))) (show Value.type "dict" ≠ Value.type "list" by decide)
    have s1 : ∀ q ∈ news, q ∈ (dx, od) :: news := fun q hq => List.mem_cons_of_mem _ hq
    refine ⟨[], rows, 0, [], hits, n9, eh, (dx, od) :: news, _, none, none, none, rfl, canon0, ⟨.nil, htab.mono fun _ _ z => z.mono s1, hhd.mono s1, ⟨q1, q2, q3, q4, ?_⟩, ?_, ?_, ?_, (fun _ h => nomatch h), hok⟩, s1, hS, Nat.le_refl _, hrl⟩
    · rcases List.mem_cons.mp q5 with h | h
      · rw [h]; exact List.mem_cons_self
      · rcases List.mem_cons.mp h with h | h
        · exact absurd (congrArg Prod.fst h) hdl
        · exact s1 _ h
    · exact List.forall_mem_cons.mpr ⟨hap (dx, od) List.mem_cons_self, fun q hq => hap q (by simp [hq])⟩
    · exact List.forall_mem_cons.mpr ⟨hdl, hah⟩
    · exact Ne.symm (hap (hl, listOf (List.toArray hits) eh) (by simp))
  case c2 => rintro i m led ⟨st, rw, mo, its, hits, ex, eh, imm, t, lv, hv, pv, rfl, _, _, hnw, _⟩; exact ⟨el, by simp [led2, hnw _ hml]⟩
  case c3 =>
    clear hF hN hpd hap
    rintro i v g m led hh tk I oI hv ⟨st, rw, mo, its, hits, ex, eh, imm, t, lv, hv', pv, rfl, rfl, S, hnw, hSt, h1, h2⟩ hT B8 F8 N8 hne hci
    obtain ⟨x, tx, rfl, hx⟩ := strsGet hLn (i := i) (v := v) (by simpa using hv)
    rw [List.getElem?_map] at hx
    obtain ⟨l, hl9, rfl⟩ := Option.map_eq_some_iff.mp hx
    obtain ⟨hi9, he9⟩ := List.getElem?_eq_some_iff.mp hl9
    rw [List.drop_eq_getElem_cons hi9, he9] at hSt
    cases hSt with
    | @cons _ _ _ _ _ st1 rows1 _ _ _ hstp hrest =>
    have hIpa : I ≠ pa := Ne.symm (hne (pa, accO dx (List.toArray its) ex) (.head _))
    have hIhl : I ≠ hl := Ne.symm (hne (hl, listOf (List.toArray hits) eh) (.tail _ (.head _)))
    have S0 : StAt pa dx ha hl st rw its hits ((I, oI) :: imm) := S.grow (fun q hq => List.mem_cons_of_mem _ hq) (List.forall_mem_cons.mpr ⟨hIpa, S.apa⟩) (List.forall_mem_cons.mpr ⟨hIhl, S.ahl⟩)
    have N0 : News g L' hh (led2 pa dx hl its hits ex eh ((I, oI) :: imm)) := fun q hq => N8 q (by simp only [led2, List.mem_cons] at hq ⊢; rcases hq with h | h | h | h <;> simp [h])
    have hnI : ∀ q ∈ news, q.1 ≠ I := fun q hq => hne q (by simp only [led2, List.mem_cons, hnw q hq, or_true])
    clear N8 S
    unfold canon at F8

    have X8 : (heapK w.params).In g := XB.keeps B8.stays
    have T8 : Top p loose mean mg mb g := TB.keeps B8.stays
    rcases hstp.kind with ⟨n, rfl, hn, rfl, rfl⟩ | ⟨z, rfl, hz, rfl, rfl⟩ | ⟨x, hx9, hx7, hx8⟩
    · clear F N X T FG' B' X' T' D'
      obtain ⟨d1, d2, d3, d4, hdx⟩ := S0.pd
      have hpr : (It.val n).pr = (Str.ofString "", showI n) := rfl
      have hok9 : (It.val n).ok := hn
      obtain ⟨hn0, hn1⟩ := id hn
      k_steps
      rename StAt pa dx ha hl _ _ _ _ _ => S9
      rename ∀ p ∈ (I, oI) :: imm, p ∈ _ => g9
      refine turnEnd hT B8 (by k_asm) (by k_asm) (g9 _ (.head _)) hci S9 (fun q hq => g9 _ (.tail _ (hnw q hq))) hnI ?_ hstp hrest h1 h2 S0.ist S0.irw
      exact canon2E (by rw [S9.len, maxI])
    · clear F N X T FG' B' X' T' D'
      obtain ⟨d1, d2, d3, d4, hdx⟩ := S0.pd
      have hpr : (It.nm z).pr = (nameStr z.toNat, Str.ofString "") := rfl
      have hok9 : (It.nm z).ok := hz
      obtain ⟨o1, o2⟩ := other229 (l := .nam z) (fun _ q => by cases q) (fun _ q => by cases q; exact hz)
      k_steps
      rename RaisedC _ _ _ _ _ _ _ _ => kR
      rename Heap.UpToSlots _ _ => kU
      rename Fr g L' _ _ => kG
      refine caughtC kR rfl kG B8 kU XB TB hT (by k_is) (by kts_isx) ?_
      intro h10 g10 oe ws hT10 F10 N10 hoc hod ho2 hqe B10 X10 T10
      rename_i e10 _ _ _
      have S1 : StAt pa dx ha hl st rows1 its hits ((e10, oe) :: (I, oI) :: imm) := S0.grow (fun q hq => List.mem_cons_of_mem _ hq) (List.forall_mem_cons.mpr ⟨Ne.symm (hqe (pa, accO dx (List.toArray its) ex) (by simp)), S0.apa⟩) (List.forall_mem_cons.mpr ⟨Ne.symm (hqe (hl, listOf (List.toArray hits) eh) (by simp)), S0.ahl⟩)
      have N1 : News g10 L' h10 (led2 pa dx hl its hits ex eh ((e10, oe) :: (I, oI) :: imm)) := fun q hq => N10 q (by simp only [led2, List.mem_cons] at hq ⊢; rcases hq with h | h | h | h | h <;> simp [h])
      have hH1 : HushIn (some (Value.ref e10)) ((e10, oe) :: (I, oI) :: imm) := .inr (.inl ⟨e10, oe, ws, rfl, .head _, hod, ho2⟩)
      clear N10 kR kU kG hqe
      k_steps
      rename StAt pa dx ha hl _ _ _ _ _ => S9
      rename ∀ p ∈ (e10, oe) :: (I, oI) :: imm, p ∈ _ => g9
      refine turnEnd hT10 B10 (by k_asm) (by k_asm) (g9 _ (.tail _ (.head _))) hci S9 (fun q hq => g9 _ (.tail _ (.tail _ (hnw q hq)))) hnI ?_ hstp hrest h1 h2 S0.ist S0.irw
      exact canon1E (by rw [S9.len, maxI])
    · clear F N X T FG' B' X' T' D'
      obtain ⟨d1, d2, d3, d4, hdx⟩ := S0.pd
      obtain ⟨o1, o2⟩ := other229 hx7 (fun z q => absurd q (hx8 z))
      obtain ⟨o3, o4⟩ := other257 hx9
      have hist := S0.ist
      have hirw := S0.irw
      have hs1 : st1.length ≤ st.length + 1 := (hstp.ok hist hirw).2.2.2
      have hword : l.word = some (Txt.slice l.str (some 4) none) := by rw [o4]; exact hx9
      k_steps
      rename RaisedC _ _ _ _ _ _ _ _ => kR
      rename Heap.UpToSlots _ _ => kU
      rename Fr g L' _ _ => kG
      refine caughtC kR rfl kG B8 kU XB TB hT (by k_is) (by kts_isx) ?_
      intro h10 g10 oe ws hT10 F10 N10 hoc hod ho2 hqe B10 X10 T10
      rename_i e10 _ _ _
      have S1 : StAt pa dx ha hl st rw its hits ((e10, oe) :: (I, oI) :: imm) := S0.grow (fun q hq => List.mem_cons_of_mem _ hq) (List.forall_mem_cons.mpr ⟨Ne.symm (hqe (pa, accO dx (List.toArray its) ex) (by simp)), S0.apa⟩) (List.forall_mem_cons.mpr ⟨Ne.symm (hqe (hl, listOf (List.toArray hits) eh) (by simp)), S0.ahl⟩)
      have N1 : News g10 L' h10 (led2 pa dx hl its hits ex eh ((e10, oe) :: (I, oI) :: imm)) := fun q hq => N10 q (by simp only [led2, List.mem_cons] at hq ⊢; rcases hq with h | h | h | h | h <;> simp [h])
      have hH1 : HushIn (some (Value.ref e10)) ((e10, oe) :: (I, oI) :: imm) := .inr (.inl ⟨e10, oe, ws, rfl, .head _, hod, ho2⟩)
      clear N10 kR kU kG hqe
      k_steps
      rename RaisedC _ _ _ _ _ _ _ _ => kR
      rename Heap.UpToSlots _ _ => kU
      rename Fr g10 L' _ _ => kG
      refine caughtC kR rfl kG B10 kU XB TB hT10 (by k_is) (by kts_isx) ?_ (hE := PassesOwnAt.lookingOf (stackTrans (SameStack.mark _ _) (SameStack.mark _ _)))
      intro h11 g11 of vs hT11 F11 N11 hfc hfd hf2 hqf B11 X11 T11
      rename_i f11 _ _ _
      have hfe : f11 ≠ e10 := Ne.symm (hqf (e10, oe) (by simp))
      have S2 : StAt pa dx ha hl st rw its hits ((f11, of) :: (e10, oe) :: (I, oI) :: imm) := S1.grow (fun q hq => List.mem_cons_of_mem _ hq) (List.forall_mem_cons.mpr ⟨Ne.symm (hqf (pa, accO dx (List.toArray its) ex) (by simp)), S1.apa⟩) (List.forall_mem_cons.mpr ⟨Ne.symm (hqf (hl, listOf (List.toArray hits) eh) (by simp)), S1.ahl⟩)
      have N2 : News g11 L' h11 (led2 pa dx hl its hits ex eh ((f11, of) :: (e10, oe) :: (I, oI) :: imm)) := fun q hq => N11 q (by simp only [led2, List.mem_cons] at hq ⊢; rcases hq with h | h | h | h | h | h <;> simp [h])
      have hH2 : HushIn (some (Value.ref f11)) ((f11, of) :: (e10, oe) :: (I, oI) :: imm) := .inr (.inr ⟨f11, e10, of, oe, vs, ws, rfl, hfe, .head _, hfd, hf2, .tail _ (.head _), hod, ho2⟩)
      clear N11 kR kU kG hqf S0 S1 hH1
      k_steps
      rename StAt pa dx ha hl _ _ _ _ _ => S9
      rename ∀ p ∈ (f11, of) :: (e10, oe) :: (I, oI) :: imm, p ∈ _ => g9
      refine turnEnd hT11 B11 (by k_asm) (by k_asm) (g9 _ (.tail _ (.tail _ (.head _)))) hci S9 (fun q hq => g9 _ (.tail _ (.tail _ (.tail _ (hnw q hq))))) hnI ?_ hstp hrest h1 h2 hist hirw
      exact canon1E (by rw [S9.len, maxI])
  case c4 =>
    rintro g hh tk m led ⟨st, rw, mo, its, hits, ex, eh, imm, t, lv, hv, pv, rfl, rfl, S, hnw, hSt, h1, h2⟩ hT B8 F8 N8
    have hds : lns.drop ls.toArray.size = [] := by
      rw [List.size_toArray, hLn.length, List.length_map]; exact List.drop_length
    rw [hds] at hSt
    cases hSt
    unfold canon at F8
    have X8 : (heapK w.params).In g := XB.keeps B8.stays
    have T8 : Top p loose mean mg mb g := TB.keeps B8.stays
    clear F N X T FG' B' X' T'
    k_steps
    show LeaveS0 _ h₀ L m g' _ _ _
    refine' leaveS0_ ?zF ?zN hT ?zk
    case zF => k_asm
    case zN => k_asm
    case zk =>
      intro kF kN
      exact ret _ _ _ _ _ _ _ _ _ _ _ kF kN S hnw
end
section
section
variable {w : World} {A : Around} {E : Value → Shared → Prop} {s : Shared} {env : Env}
abbrev enumO (it : Addr) (i : Int) (v : Value) : Obj := { cls := .type "enumerate", dict := none, data := .fields #[.none, .bool false, .ref it, rawInt i, .none, v], slots := #[] }
def EnumEnd (h₀ : Heap) (L : Addr) (s₁ : Shared) (e : Addr) (oe : Obj) (it : Addr) (oi : Obj) (Q : Flow → Shared → Prop) (J : (Str → Option Value) → List (Addr × Obj) → Prop) (f : Flow) (s3 : Shared) : Prop :=
  match f with
  | .next | .cont => ∃ hh tk m news, s3 = { s₁ with heap := hh, toks := tk } ∧ Fr h₀ L hh m ∧ News h₀ L hh ((e, oe) :: (it, oi) :: news) ∧ (∀ p ∈ news, p.1 ≠ e ∧ p.1 ≠ it) ∧ J m news
  | .brk => Q .next s3
  | .ret v => Q (.ret v) s3
def EnumGo (w : World) (A : Around) (E : Value → Shared → Prop) (h₀ : Heap) (L : Addr) (m₀ : Str → Option Value) (env : Env) (xi xv : Str) (body orelse : List Stmt) (Q : Flow → Shared → Prop) (xval : Value) (s₁ : Shared) : Prop :=
  ∃ e it l items, ∃ J : Nat → (Str → Option Value) → List (Addr × Obj) → Prop, ∃ news, xval = .ref e ∧ IsEnum s₁.heap e it 0 .none ∧ s₁.heap.IsListIter it l 0 ∧ e ≠ it ∧ h₀.get? e = none ∧ h₀.get? it = none ∧ e ≠ L ∧ it ≠ L ∧ (∀ p ∈ news, p.1 ≠ e ∧ p.1 ≠ it) ∧
    Fr h₀ L s₁.heap m₀ ∧ News h₀ L s₁.heap news ∧ J 0 m₀ news ∧ (∀ i m led, J i m led → ∃ n, (l, listOf items n) ∈ led) ∧
    (∀ i v tk m led hh tk' oe oi, items[i]? = some v → J i m led → Fr h₀ L hh (fun z => if z = xv then some v else if z = xi then some (.int (i : Nat) tk) else m z) → News h₀ L hh ((e, oe) :: (it, oi) :: led) → (∀ p ∈ led, p.1 ≠ e ∧ p.1 ≠ it) →
      wpAny (model pw w) A (execs body env) (EnumEnd h₀ L s₁ e oe it oi Q (J (i + 1))) (EB w A env E) { s₁ with heap := hh, toks := tk' }) ∧
    (∀ hh tk m led, J items.size m led → Fr h₀ L hh m → News h₀ L hh led → wpAny (model pw w) A (execs orelse env) Q (EB w A env E) { s₁ with heap := hh, toks := tk })
theorem forEnum {h₀ : Heap} {L : Addr} {m₀ : Str → Option Value} {iter : PySem.Expr} {xi xv : Str} {pi pv pt pos : Pos} {x1} {body orelse : List Stmt} {Q : Flow → Shared → Prop} (hL : env.locals = L) (hh : A.handled = none) (_F₀ : Fr h₀ L s.heap m₀)
    (hxi : env.kindOf xi = some .local) (hxv : env.kindOf xv = some .local) (hp : (env.scope.kind == .class || (env.scope.kind == .module && env.locals != env.globals)) = false)
    (h : wpAny (model pw w) A (eval iter env) (EnumGo w A E h₀ L m₀ env xi xv body orelse Q) E s)
    (hs : ∀ x, foldedSetIterable iter env x = pure x := by intro _; rfl) :
    wpAny (model pw w) A (exec (.For (.Tuple [.Name xi pi, .Name xv pv] x1 pt) iter body orelse pos) env) Q E s := by
  subst hL
  refine wpAny_For (wpAny_mono h (fun xval s₁ h₁ => ?_) fun _ _ x => x) hs
  obtain ⟨e, it, l, items, J, news, rfl, he, hit, hei, he0, hi0, heL, hiL, hap, F, N, h0, hsrc, step, hdone⟩ := h₁
  refine wpAny_pyIter_enum he (codeAny_forLoop_any
    (fun k s' => ∃ h' tk m' led i old, s' = { s₁ with heap := h', toks := tk } ∧ IsEnum h' e it ((i : Nat) : Int) old ∧ h'.IsListIter it l i ∧ Fr h₀ env.locals h' m' ∧ News h₀ env.locals h' led ∧ (∀ p ∈ led, p.1 ≠ e ∧ p.1 ≠ it) ∧ J i m' led ∧ i ≤ items.size ∧
      k = items.size + 1 - i) ?_ (items.size + 1) ⟨s₁.heap, s₁.toks, m₀, news, 0, .none, rfl, he, hit, F, N, hap, h0, Nat.zero_le _, rfl⟩)
  rintro k s' ⟨H, tk, m', led, i, old, rfl, he', hit', F', N', hap', hJ, hi, rfl⟩
  obtain ⟨nl, hml⟩ := hsrc _ _ _ hJ
  have hl' : H.IsList l items := ⟨_, (N' _ hml).1, rfl, _, rfl⟩
  have hle : l ≠ e := (hap' _ hml).1
  have hli : l ≠ it := (hap' _ hml).2
  cases hv : items[i]? with
  | none =>
    have hsz : i = items.size := Nat.le_antisymm hi (by simpa using hv)
    refine wpAny_pyNext_enum_end hh he' hit' hl' hv fun h₁ he₁ => ?_
    dsimp only
    subst hsz
    exact hdone h₁ tk m' led hJ ⟨F'.ns.at' fun o x => he₁ _ o (Ne.symm hiL) x, fun b o x => he₁ b o (fun q => by rw [q, hi0] at x; cases x) (F'.keep b o x), F'.above⟩ fun p hp => ⟨he₁ _ _ (hap' p hp).2 (N' p hp).1, (N' p hp).2⟩
  | some v =>
    have hlt : i < items.size := (Array.getElem?_eq_some_iff.mp hv).1
    have heH : e < H.objs.size := Heap.lt_size he'
    obtain ⟨oi, hoi, _⟩ := id hit'
    have hiH : it < H.objs.size := Heap.lt_size hoi
    refine wpAny_pyNext_enum_item he' hit' hl' hv hei fun h₁ heo hit₁ ht₁ hz₁ hk₁ => ?_
    dsimp only
    refine wpAny_letOwnedTupleGo_enum heo fun h₂ he₂ hs₂ => ?_
    replace hs₂ : Heap.SameBut e h₁ h₂ := hs₂
    have ht₂ : h₂.IsTuple H.objs.size #[.int i tk, v] := ⟨_, (hs₂.2 _ (Nat.ne_of_gt heH)).trans ht₁, rfl, _, rfl⟩
    have k₂ : ∀ b o, b ≠ e → b ≠ it → H.get? b = some o → h₂.get? b = some o := fun b o b1 b2 x => hs₂.extBut b o b1 (hk₁ b o b1 b2 x)
    have hit₂ : h₂.IsListIter it l (i + 1) := hit₁.extBut hs₂.extBut (Ne.symm hei)
    have F₂ : Fr h₀ env.locals h₂ m' := ⟨F'.ns.at' fun o x => k₂ _ o (Ne.symm heL) (Ne.symm hiL) x, fun b o x => k₂ b o (fun q => by rw [q, he0] at x; cases x) (fun q => by rw [q, hi0] at x; cases x) (F'.keep b o x), F'.above⟩
    refine assign2 (lc := []) (.inl ⟨hh, rfl⟩) ht₂ hxi hxv hp F₂.ns fun h₃ tk₃ hn₃ hk₃ => ?_
    obtain ⟨oi₂, hoi₂, hci, hdi⟩ := hit₂
    have N₃ : News h₀ env.locals h₃ ((e, enumO it ((i : Int) + 1) v) :: (it, oi₂) :: led) := fun p hp => by
      rcases List.mem_cons.mp hp with rfl | hp
      · exact ⟨hk₃ _ _ heL he₂, heL, he0⟩
      · rcases List.mem_cons.mp hp with rfl | hp
        · exact ⟨hk₃ _ _ hiL hoi₂, hiL, hi0⟩
        · exact ⟨hk₃ _ _ (N' p hp).2.1 (k₂ _ _ (hap' p hp).1 (hap' p hp).2 (N' p hp).1), (N' p hp).2⟩
    refine wpAny_mono (step i v tk m' led h₃ tk₃ _ oi₂ hv hJ (frUp F₂ hn₃ hk₃) N₃ hap') (fun f s4 h4 => ?_) fun _ _ x => x
    have fin : (∃ hh tk m news, s4 = { s₁ with heap := hh, toks := tk } ∧ Fr h₀ env.locals hh m ∧ News h₀ env.locals hh ((e, enumO it ((i : Int) + 1) v) :: (it, oi₂) :: news) ∧ (∀ p ∈ news, p.1 ≠ e ∧ p.1 ≠ it) ∧ J (i + 1) m news) →
        ∃ n, n < items.size + 1 - i ∧ ∃ h' tk m' led i old, s4 = { s₁ with heap := h', toks := tk } ∧ IsEnum h' e it ((i : Nat) : Int) old ∧ h'.IsListIter it l i ∧ Fr h₀ env.locals h' m' ∧ News h₀ env.locals h' led ∧ (∀ p ∈ led, p.1 ≠ e ∧ p.1 ≠ it) ∧ J i m' led ∧ i ≤ items.size ∧ n = items.size + 1 - i := by
      rintro ⟨h5, tk5, m5, led5, rfl, F5, N5, ap5, J5⟩
      refine ⟨items.size + 1 - (i + 1), by omega, h5, tk5, m5, led5, i + 1, v, rfl, ?_, ⟨oi₂, (N5 _ (.tail _ (.head _))).1, hci, hdi⟩, F5, fun p hp => N5 p (.tail _ (.tail _ hp)), ap5, J5, hlt, rfl⟩
      have : ((i + 1 : Nat) : Int) = (i : Int) + 1 := by push_cast; rfl
      rw [this]; exact (N5 _ (.head _)).1
    cases f with
    | next => exact fin h4
    | cont => exact fin h4
    | brk => exact h4
    | ret v => exact h4
end
end
section
theorem kwXF14_0 : True := by
  w_top off
  k_with_none
  trivial

open PySem.Builtin PySem.Builtin.Str

theorem kwXF14_1 : True := by
  k_with "exec For" =>
    (
      k_here
      k_dflt (refine' forPair ?kl ?kf ?ka ?kb ?kp ?_ ?ks
              (case kl => exact rfl); (case kf => k_asm); (case ka => rfl); (case kb => rfl); (case kp => rfl); (case ks => intro _; rfl)))
  k_with "call ref" =>
    (
      k_here
      (with_reducible show wpAny _ _ (call (Value.ref 70) _ _) _ _ _)
      k_dflt (
      refine' conv_use ?kp ?kq ?k3 ?k4 ?k5 ?k6 ?k7 ?k8 ?k9 ?kd ?ku ?_
      (case k3 => k_asm); (case k4 => k_asm); (case k5 => k_asm); (case k6 => k_asm); (case k7 => k_asm); (case k8 => exact rfl); (case k9 => exact rfl)
      (case kp => assumption); (case kq => assumption)
      (case kd => (simp only [Tm.size, depth_deeper, recursionLimit] at *; (try dsimp only [topA] at *); omega))
      (case ku => (simp only [Tm.size, units_deeper, cLine] at *; (try dsimp only [topA] at *); omega))
      intro _ _ _ _; (try dsimp only); (try k_fold)))
  trivial
def UpTw2 (a b : Str) (m₀ m : Str → Option Value) : Prop := m = m₀ ∨ ∃ y1 y2, m = fun z => if z = b then some y2 else if z = a then some y1 else m₀ z
theorem UpTw2.next {a b : Str} {m₀ m : Str → Option Value} (h : UpTw2 a b m₀ m) {y1 y2 : Value} : (fun z => if z = b then some y2 else if z = a then some y1 else m z) = fun z => if z = b then some y2 else if z = a then some y1 else m₀ z := by
  rcases h with rfl | ⟨x1, x2, rfl⟩
  · rfl
  · funext z
    by_cases h1 : z = b
    · simp [h1]
    · by_cases h2 : z = a
      · simp [h2]
      · simp [h1, h2]
theorem same_pair2 {h₀ h : Heap} {L : Addr} {news : List (Addr × Obj)} {v x1 x2 y1 y2 : Value} {T T' : Addr} {e e' : Nat} {q : Addr × Obj} (N : News h₀ L h (q :: news)) (h1 : v = .ref T) (h2 : (T, tupO x1 x2 e) ∈ news) (h1' : v = .ref T') (h2' : (T', tupO y1 y2 e') ∈ news) : y1 = x1 ∧ y2 = x2 := by
  subst h1
  cases h1'
  have z := (N _ (List.mem_cons_of_mem _ h2)).1.symm.trans (N _ (List.mem_cons_of_mem _ h2')).1
  simp only [Option.some.injEq, tupO, Obj.mk.injEq, Data.seq.injEq] at z
  have z' := z.2.2.1.1
  simp only [Array.mk.injEq, List.cons.injEq, and_true] at z'
  exact ⟨z'.1.symm, z'.2.symm⟩
theorem init_fn (w : World) (hd : Option Value) (ha dx hl : Addr) (rows : List (Str × Str)) (imm : List (Addr × Obj)) (hHu : HushIn hd imm) (hR : RowsAt imm hl rows) (hap : ∀ p ∈ imm, p.1 < dx) (hlt : dx < ha) (hrows : ∀ r ∈ rows, cleanIn code1 r.1 = true ∧ r.1.cps.size ≤ 1000 ∧ cleanIn code2 r.2 = true ∧ r.2.cps.size ≤ 1000)
    {p : Program} {loose : List Str} {mean : ExcName → Option Value} {mg mb : Str → Option Value} {dp un : Nat} {gd : Option (List Code)} {env : Env} {outer : List Env} {A₀ : Around} {base h₀ : Heap} {L : Addr} {m : Str → Option Value} {s : Shared} {R : Result → Shared → Prop}
    (B : Below A₀ base outer h₀) (F : Fr h₀ L s.heap m) (X : (heapK w.params).In h₀) (N : News h₀ L s.heap ((ha, instObj 171 dx) :: (dx, dictOf [] 0) :: imm)) (T : Top p loose mean mg mb h₀) (hf : env.frame = some L) (hk : env.scope.kind = .function) (hdp : dp + 2 < recursionLimit) (hun : un + 8 * 2 < cLine)
    (ret : ∀ hsh n tk h' tk', Fr h₀ L h' m → News h₀ L h' ((ha, instObj 171 dx) :: (dx, dictOf [⟨hsh, .str (Str.ofString "_headers") tk, .ref hl⟩] n) :: imm) → R (.ok (.ret .none)) { s with heap := h', toks := tk' }) :
    codeAny (model pw w) (topA hd dp un gd env outer) (.call (.ref 63) ⟨[.ref ha, .ref hl], []⟩) R s := by
  refine' code_def (binds := [(Str.ofString "self", .ref ha), (Str.ofString "headers", .ref hl)]) B F X N T rfl hf hk ?k6 ?k7 ?k8 ?k9 ?kB ?_ ?c2 ?c3 ?c4 ?c5
  case k6 => k_is
  case k7 => k_is
  case k8 => k_room
  case k9 => exact binds_K (Frag.In.keeps X F.keep) rfl (by k_is) rfl rfl rfl
  case c5 => decide
  case kB => exact locs rfl
  case c2 => exact rfl
  case c3 => exact rfl
  case c4 => exact rfl
  intro g' L' h' FG' F' N' B' X' T'
  (try dsimp only)
  k_fold
  obtain ⟨its, e, hml, hP⟩ := hR
  have hne1 : ha ≠ dx := Ne.symm (Nat.ne_of_lt hlt)
  have hne2 : ∀ p ∈ imm, p.1 ≠ dx := fun p hp => Nat.ne_of_lt (hap p hp)
  k_steps
  have hlen := hP.length
  refine ⟨hl, its.toArray, fun i m' news' => news' = _ ∧ UpTw2 (Str.ofString "k") (Str.ofString "v") _ m', _, rfl, by k_asm, by k_asm, ⟨rfl, .inl rfl⟩, ?csrc, ?cok, ?cstep, ?cdone⟩
  case csrc => rintro i m' news' ⟨rfl, _⟩; exact ⟨⟨e, List.mem_cons_of_mem _ (List.mem_cons_of_mem _ hml)⟩, hHu.mono fun _ h => List.mem_cons_of_mem _ (List.mem_cons_of_mem _ h)⟩
  case cok =>
    rintro i v m' news' hv ⟨rfl, _⟩
    obtain ⟨r, hr⟩ : ∃ r, rows[i]? = some r := by
      have : i < its.length := by have := Array.getElem?_eq_some_iff.mp hv; simpa using this.1
      exact ⟨_, List.getElem?_eq_getElem (by omega)⟩
    obtain ⟨T, e, t0, t1, h1, h2⟩ := hP.at_ hr (by simpa using hv)
    exact ⟨T, _, _, e, h1, List.mem_cons_of_mem _ (List.mem_cons_of_mem _ h2)⟩
  case cstep =>
    rintro i v m1 news' m2 hh tk2 I oI hv ⟨rfl, hm1⟩ hup F8 N8 hne
    obtain ⟨r, hr⟩ : ∃ r, rows[i]? = some r := by
      have : i < its.length := by have := Array.getElem?_eq_some_iff.mp hv; simpa using this.1
      exact ⟨_, List.getElem?_eq_getElem (by omega)⟩
    obtain ⟨T, e9, t0, t1, h1, h2⟩ := hP.at_ hr (by simpa using hv)
    obtain ⟨T', y1, y2, e8, h1', h2', rfl⟩ := hup
    obtain ⟨rfl, rfl⟩ := same_pair2 N8 h1 (List.mem_cons_of_mem _ (List.mem_cons_of_mem _ h2)) h1' h2'
    rw [hm1.next] at F8
    clear hm1
    obtain ⟨q1, q2, q3, q4⟩ := hrows r (List.mem_of_getElem? hr)
    have q1' : cleanIn (if true then code1 else code2) r.1 = true := q1
    have q3' : cleanIn (if false then code1 else code2) r.2 = true := q3
    k_steps
    exact ⟨_, _, _, _, rfl, by k_asm, by k_asm, hne, rfl, .inr ⟨_, _, rfl⟩⟩
  case cdone =>
    rintro hh tk2 m1 news' ⟨rfl, hm1⟩ F8 N8
    rcases hm1 with rfl | ⟨y1, y2, rfl⟩
    · k_steps
      exact ret _ _ _ _ _ (by k_asm) (by k_asm)
    · k_steps
      exact ret _ _ _ _ _ (by k_asm) (by k_asm)
end
section
theorem kwXY1_0 : True := by
  w_top off
  k_with_none
  trivial
theorem of_allLt {d : Addr} {l : List (Addr × Obj)} (h : AllLt d l) : ∀ p ∈ l, p.1 < d := by
  induction l with
  | nil => intro p hp; cases hp
  | cons a r ih =>
    intro p hp
    rcases List.mem_cons.mp hp with rfl | hp
    · exact h.1
    · exact ih h.2 p hp
def forBody : List Stmt → List Stmt
  | .For _ _ b _ _ :: _ => b
  | _ => []
@[reducible] noncomputable def IBL : List Stmt := by
  refine (fun (_ : forBody (forBody (List.drop 10 B25)) = ?k) => ?k) ?h
  case h => conv => lhs; whnf
abbrev kO (dct : Option Addr) (sl : Array (Option Value)) (ys : List Value) (nn : Nat) : Obj := { cls := .type "list", dict := dct, data := .seq ys.toArray nn, slots := sl }
def mL (fl Dk ea pa ha kn D sc : Addr) (mo' d : Int) (k9 td : Tok) (v : Value) : Str → Option Value := fun y => if y = Str.ofString "first" then some (.ref fl) else if y = Str.ofString "keys" then some (.ref Dk) else if y = Str.ofString "ends" then some (.ref ea) else if y = Str.ofString "most" then some (.int mo' k9) else if y = Str.ofString "pile" then some (.ref pa) else if y = Str.ofString "table" then some (.ref ha) else if y = Str.ofString "known" then some (.ref kn) else if y = Str.ofString "drawn" then some (.int d td) else if y = Str.ofString "term" then some v else if y = Str.ofString "numbers" then some (.ref D) else List.lookup y [(Str.ofString "script", Value.ref sc)].reverse
def canonL (m0 : Str → Option Value) (ll : Addr) (kv pv ky wv : Option Value) : Str → Option Value := fun z => if z = Str.ofString "worth" then wv else if z = Str.ofString "key" then ky else if z = Str.ofString "place" then pv else if z = Str.ofString "k" then kv else if z = Str.ofString "last" then some (.ref ll) else m0 z
def CallStop (Q : Prop) : Prop := Q
theorem callStop {P : Prop} (h : CallStop P) : P := h
theorem kwXY1_1 : True := by
  k_with "call ref" =>
    (k_here; k_dflt (refine callStop ?_))
  trivial
theorem notInK {w : World} {A : Around} {E : Value → Shared → Prop} {s : Shared} {l : Addr} {vs : List Value} {ns : List Int} {k : Int} {t : Tok} {Q : Value → Shared → Prop} (hl : s.heap.IsList l vs.toArray) (hi : IntsAre vs ns) 
    (h1 : ns.any (· == k) = true → Q (.bool false) s) (h2 : ns.any (· == k) = false → Q (.bool true) s) : wpAny (model pw w) A (compareOp .NotIn (.int k t) (.ref l)) Q E s := notin_list_ints hl hi (by
  cases e : ns.any (· == k)
  · exact h2 e
  · exact h1 e)
theorem kwXY1_2 : True := by
  k_with "compareOp NotIn int ref" =>
    (k_here; k_dflt (refine' notInK ?hl ?hi ?_ ?_; (case hl => is_list); (case hi => assumption); (all_goals intro _)))
  k_with "call builtin:list.append" =>
    (k_here; k_dflt (refine callStop ?_))
  trivial
theorem sliceK {w : World} {A : Around} {E : Value → Shared → Prop} {s : Shared} {hp : Heap} {h₀ : Heap} {L l : Addr} {m : Str → Option Value} {news : List (Addr × Obj)} {value slice : PySem.Expr} {vs : List Value} {ns : List Int} {x : Int} {ux : Tok} {tk : Nat} {Q : Value → Shared → Prop} (F : Fr h₀ L hp m) (N : News h₀ L hp news) (hl : hp.IsList l vs.toArray) (hi' : IntsAre vs ns) (h0 : 0 ≤ x)
    (h : ∀ D ws h', Fr h₀ L h' m → News h₀ L h' ((D, listOf (List.toArray ws) 0) :: news) → (∀ p ∈ news, p.1 < D) → IntsAre ws (ns.drop x.toNat) → Q (.ref D) { s with heap := h', toks := tk })
    (hs : subscripted slice false (.ref l) (.ref hp.objs.size) = operate [.ref hp.objs.size, .ref l] (getItem (.ref l) (.ref hp.objs.size))) (ht : ∀ r, letTemporaryGo value (.ref l) r = pure ()) (hz : vs.toArray.size ≤ sizeLine) :
    wpAny (model pw w) A (subscriptTail value slice (.ref l) (.ref hp.objs.size)) Q E { s with heap := hp.push { cls := .type "slice", data := .fields #[.int x ux, .none, .none] }, toks := tk } :=
  kmk_slice_ints (s := { s with heap := hp, toks := tk }) (vl := .int x ux) (vu := .none) (lo := some x) (hi := none) F N hl (.int x ux) .none hi' (kmk_from hi' h0) rfl (fun D ws h' F' N' l1 i1 _ _ => h D ws h' F' N' l1 i1) hs ht hz
theorem kwXY1_3 : True := by
  k_with "subscriptTail Name Slice ref ref" =>
    (k_here; (refine' sliceK ?F ?N ?l ?i ?m ?_ ?s ?t ?z; (case F => k_asm); (case N => k_asm); (case l => is_list); (case i => assumption); (case m => omega); (case s => with_unfolding_all rfl); (case t => (intro _; with_unfolding_all rfl)); (case z => (rw [List.size_toArray]; simp only [sizeLine]; omega))); intro _ _ _ _ _ l1 _; (try k_lt l1); (try k_sweep))
  trivial
theorem innerB (w : World) {p : Program} {loose : List Str} {mean : ExcName → Option Value} {mg mb : Str → Option Value} {h₀ : Heap} {L fa sc D ha kn pa ea Dk fl ll : Addr} {cd v : Value} {s : Shared} {Q : Flow → Shared → Prop} {E : Value → Shared → Prop} {d mo' : Int} {td k9 ti tp t0 t1 : Tok} {pre : List (Addr × Obj)} {es : List Int} {ys its : List Value} {dct : Option Addr} {sl : Array (Option Value)} {nn e i pn : Nat} {key val : Int}
    (B : Below callerA h₀ [] h₀) (X : (heapK w.params).In h₀) (T : Top p loose mean mg mb h₀)
    (F : Fr h₀ L s.heap (canonL (mL fl Dk ea pa ha kn D sc mo' d k9 td v) ll (some (.int (i : Nat) ti)) (some (.int (pn : Nat) tp)) (some (.int key t0)) (some (.int val t1))))
    (N : News h₀ L s.heap ((ll, listOf its.toArray e) :: pre)) (hap : ∀ q ∈ pre, q.1 ≠ ll) (hkm : (Dk, kO dct sl ys nn) ∈ pre) (hIk : IntsAre ys (es.map fun p => p / 2)) (hi : es[i]? = some (pn : Int)) (hel : es.length ≤ 100) (hpn : pn < 6) (hits : its.length ≤ 900) (hv0 : 0 ≤ val) (hv1 : val < 97)
    (retY : ∀ T' h' tk' k1 k2 e', ((pn : Int) / 2 = key ∧ hasK (es.drop (i + 1)) key = false) → Fr h₀ L h' (canonL (mL fl Dk ea pa ha kn D sc mo' d k9 td v) ll (some (.int (i : Nat) ti)) (some (.int (pn : Nat) tp)) (some (.int key t0)) (some (.int val t1))) →
      News h₀ L h' ((ll, listOf (List.toArray (its ++ [.ref T'])) e') :: (T', tupO (.str (nameStr pn) k1) (.str (showI val) k2) 0) :: pre) → T' ≠ ll → (∀ q ∈ pre, q.1 < T') → Q .next { s with heap := h', toks := tk' })
    (retN : ∀ h' tk', ¬ ((pn : Int) / 2 = key ∧ hasK (es.drop (i + 1)) key = false) → Fr h₀ L h' (canonL (mL fl Dk ea pa ha kn D sc mo' d k9 td v) ll (some (.int (i : Nat) ti)) (some (.int (pn : Nat) tp)) (some (.int key t0)) (some (.int val t1))) →
      News h₀ L h' ((ll, listOf its.toArray e) :: pre) → Q .next { s with heap := h', toks := tk' }) :
    wpAny (model pw w) (callerA.deeper (envOf lawD.name lawD.scope L fa cd)) (execs IBL (envOf lawD.name lawD.scope L fa cd)) Q E s := by
  have hyl := hIk.length
  rw [List.length_map] at hyl
  have hkm2 : (Dk, kO dct sl ys nn) ∈ (ll, listOf its.toArray e) :: pre := .tail _ hkm
  have hilt : i < es.length := (List.getElem?_eq_some_iff.mp hi).1
  have eget : (es.map fun p => p / 2).getD (i : Int).toNat 0 = (pn : Int) / 2 := by
    rw [List.getD_eq_getElem?_getD, Int.toNat_natCast, List.getElem?_map, hi]; rfl
  have edrop : ∀ k, ((List.drop ((i : Int) + 1).toNat (es.map fun p => p / 2)).any fun x => x == k) = hasK (es.drop (i + 1)) k := by
    intro k
    have e1 : ((i : Int) + 1).toNat = i + 1 := by omega
    rw [e1, ← List.map_drop, List.any_map]; rfl
  unfold canonL mL at F
  k_steps
  · rename ((List.drop _ _).any _) = true => hx
    rename Fr _ _ _ _ => kF
    rename News _ _ _ _ => kN
    rw [edrop] at hx
    exact retN _ _ (fun h => by rw [h.2] at hx; cases hx) kF fun q hq => kN q (.tail _ hq)
  · unfold CallStop
    rename ((List.drop _ _).any _) = false => hx
    rename key = _ => hk
    rw [edrop] at hx
    rw [eget] at hk
    rename Fr _ _ _ _ => kF
    rename News _ _ _ _ => kN
    refine Fn.str (name_fn w pn hpn tp _) B kF X kN T rfl rfl (by decide) (by decide) ?_
    intro k1 h1 tk1 F1 N1
    clear kF kN
    k_steps
    unfold CallStop
    rename Fr _ _ _ _ => kF
    rename News _ _ _ _ => kN
    rename_i _ D9 _ _
    rename _ ∧ _ ∧ _ => l9
    refine pushTm (pre := (D9, _) :: pre) kF kN (.tail _ (.tail _ (.head _))) (List.forall_mem_cons.mpr ⟨.head _, fun p hp => .tail _ (.tail _ (.tail _ hp))⟩) (List.forall_mem_cons.mpr ⟨?_, hap⟩) (by omega) ?_
    · exact Ne.symm (Nat.ne_of_lt l9.2.1)
    intro h7 e7 F7 N7
    clear kF kN
    k_steps
    exact retY D9 _ _ _ _ _ ⟨hk.symm, hx⟩ F7 N7 (Ne.symm (Nat.ne_of_lt l9.2.1)) (of_allLt l9.2.2)
  · rename key ≠ _ => hk
    rw [eget] at hk
    exact retN s.heap s.toks (fun h => hk h.1.symm) F N
end
section
theorem kwXF1_0 : True := by
  w_top off
  k_with_none
  trivial

def NeedC (w : World) (k : Nat) : Prop := ∀ (t : Tm) (v : Value) (news : List (Addr × Obj)), t.size < k → TIn news v t → Fn w none 364 [v] t.size news (SameInt news t.need)
theorem NeedC.get {w : World} {k : Nat} {t : Tm} {v : Value} {news : List (Addr × Obj)} (C : NeedC w k) (ht : TIn news v t) (hs : t.size < k) : Fn w none 364 [v] t.size news (SameInt news t.need) := C t v news hs ht
theorem kwXF1_1 : True := by
  k_with "call ref" =>
    (
      k_here
      (with_reducible show wpAny _ _ (call (Value.ref 364) _) _ _ _)
      refine' Fn.int (NeedC.get (by assumption) (by assumption) ?kl) ?k3 ?k4 ?k5 ?k6 ?k7 ?k8 ?k9 ?kd ?ku ?_
      (case k3 => k_asm); (case k4 => k_asm); (case k5 => k_asm); (case k6 => k_asm); (case k7 => k_asm); (case k8 => exact rfl); (case k9 => exact rfl)
      (case kl => simp only [Tm.size] at *; omega)
      (case kd => (simp only [Tm.size, depth_deeper, recursionLimit] at *; (try dsimp only [topA] at *); omega))
      (case ku => (simp only [Tm.size, units_deeper, cLine] at *; (try dsimp only [topA] at *); omega))
      intro _ _ _ _ _; (try dsimp only); (try k_fold))
  trivial
theorem need_step (w : World) (k : Nat) (ih : NeedC w k) : NeedC w (k + 1) := by
  intro t v news hsz ht
  unfold Fn
  intro p loose mean mg mb dp un gd env outer A₀ base h₀ L m s Q E B F X N T hf hk hdp hun ret
  refine wpAny_call ?_
  refine' code_def (binds := [(Str.ofString "term", v)]) B F X N T rfl hf hk ?k6 ?k7 ?k8 ?k9 ?kB ?_ ?c2 ?c3 ?c4 ?c5
  case k6 => k_is
  case k7 => k_is
  case k8 => k_room
  case k9 => exact BindsTo.of_eq rfl
  case c5 => decide
  case kB => exact locs rfl
  case c2 => exact rfl
  case c3 => exact rfl
  case c4 => exact rfl
  intro g' L' h' FG' F' N' B' X' T'
  (try dsimp only)
  k_fold
  cases ht with
  | num hm =>
    k_steps
    exact ret _ _ _ _ (by k_asm) (by k_asm) ⟨rfl, _, rfl⟩
  | nam hm =>
    k_steps
    exact ret _ _ _ _ (by k_asm) (by k_asm) ⟨rfl, _, rfl⟩
  | less hm h1 h2 =>
    k_steps
    exact ret _ _ _ _ (by k_asm) (by k_asm) ⟨rfl, _, by rw [Tm.need, Int.max_def]; congr 1; split <;> split <;> omega⟩
  | lett hm h1 h2 =>
    k_steps
    exact ret _ _ _ _ (by k_asm) (by k_asm) ⟨rfl, _, by rw [Tm.need, Int.max_def]; congr 1; split <;> split <;> omega⟩
theorem need_all (w : World) : ∀ k, NeedC w k
  | 0 => fun _ _ _ h => absurd h (Nat.not_lt_zero _)
  | k + 1 => need_step w k (need_all w k)
end
section
theorem kwXF2_0 : True := by
  w_top off
  k_with_none
  trivial

def EndsC (w : World) (k : Nat) : Prop := ∀ (t : Tm) (v : Value) (news : List (Addr × Obj)), t.size < k → TIn news v t → Fn w none 371 [v] t.size news (NewInts news t.ends)
theorem EndsC.use {w : World} {k : Nat} {t : Tm} {v : Value} {news : List (Addr × Obj)} {p : Program} {loose : List Str} {mean : ExcName → Option Value} {mg mb : Str → Option Value} {dp un : Nat} {gd : Option (List Code)} {env : Env} {outer : List Env} {A₀ : Around} {base h₀ : Heap} {L : Addr} {m : Str → Option Value} {s : Shared} {Q E : Value → Shared → Prop} (C : EndsC w k) (ht : TIn news v t) (hs : t.size < k) (B : Below A₀ base outer h₀) (F : Fr h₀ L s.heap m) (X : (heapK w.params).In h₀) (N : News h₀ L s.heap news) (T : Top p loose mean mg mb h₀) (hf : env.frame = some L) (hk : env.scope.kind = .function) (hdp : dp + t.size < recursionLimit) (hun : un + 8 * t.size < cLine)
    (ret : ∀ a ws h' tk', Fr h₀ L h' m → News h₀ L h' ((a, listOf (List.toArray ws) 0) :: news) → (∀ p ∈ news, p.1 < a) → IntsAre ws t.ends → ws.length ≤ t.size → Q (.ref a) { s with heap := h', toks := tk' }) :
    wpAny (model pw w) (topA none dp un gd env outer) (call (.ref 371) [v]) Q E s :=
  Fn.ints (C t v news hs ht) B F X N T hf hk hdp hun fun a ws h' tk' F' N' l i => ret a ws h' tk' F' N' l i (by rw [i.length]; exact t.ends_le)
theorem kwXF2_1 : True := by
  k_with "rel" =>
    first | assumption | exact TIn.mono (by assumption) (fun _ h => List.mem_cons_of_mem _ h) | exact TIn.mono (by assumption) (fun _ h => List.mem_cons_of_mem _ (List.mem_cons_of_mem _ h))
  k_with "call ref" =>
    (
      k_here
      (with_reducible show wpAny _ _ (call (Value.ref 371) _) _ _ _)
      refine' EndsC.use ?ki ?kr ?kl ?k3 ?k4 ?k5 ?k6 ?k7 ?k8 ?k9 ?kd ?ku ?_
      (case ki => assumption); (case k3 => k_asm); (case k4 => k_asm); (case k5 => k_asm); (case k6 => k_asm); (case k7 => k_asm); (case k8 => exact rfl); (case k9 => exact rfl); (case kr => ktr_rel)
      (case kl => simp only [Tm.size] at *; omega)
      (case kd => (simp only [Tm.size, depth_deeper, recursionLimit] at *; (try dsimp only [topA] at *); omega))
      (case ku => (simp only [Tm.size, units_deeper, cLine] at *; (try dsimp only [topA] at *); omega))
      intro _ _ _ _ _ _ _ _ _; (try dsimp only); (try k_fold))
  k_with "binaryOp Add ref ref" =>
    (
      k_here
      refine' addL ?k1 ?k2 ?k3 ?k4 ?k5 ?_
      (case k1 => k_asm); (case k2 => k_asm); (case k3 => is_list); (case k4 => is_list)
      (case k5 => (simp only [List.length_append, List.length_cons, List.length_nil, Tm.size, sizeLine, recursionLimit] at *; omega))
      intro _ _ _ _ _; (try dsimp only); (try k_fold))
  trivial
theorem ends_step (w : World) (k : Nat) (ih : EndsC w k) : EndsC w (k + 1) := by
  intro t v news hsz ht
  unfold Fn
  intro p loose mean mg mb dp un gd env outer A₀ base h₀ L m s Q E B F X N T hf hk hdp hun ret
  refine wpAny_call ?_
  refine' code_def (binds := [(Str.ofString "term", v)]) B F X N T rfl hf hk ?k6 ?k7 ?k8 ?k9 ?kB ?_ ?c2 ?c3 ?c4 ?c5
  case k6 => k_is
  case k7 => k_is
  case k8 => k_room
  case k9 => exact BindsTo.of_eq rfl
  case c5 => decide
  case kB => exact locs rfl
  case c2 => exact rfl
  case c3 => exact rfl
  case c4 => exact rfl
  intro g' L' h' FG' F' N' B' X' T'
  (try dsimp only)
  k_fold
  cases ht with
  | num hm =>
    k_steps
    exact ret _ _ _ _ (by k_asm) (by k_asm) ⟨_, [], rfl, rfl, (by first | assumption | exact ktn_ltOf (by assumption)), .nil⟩
  | nam hm =>
    k_steps
    exact ret _ _ _ _ (by k_asm) (by k_asm) ⟨_, [], rfl, rfl, (by first | assumption | exact ktn_ltOf (by assumption)), .nil⟩
  | @less a t0 u v x y e hm h1 h2 =>
    k_steps
    rename_i l1 kF kN Tc kX
    exact ret _ _ _ _ (by k_asm) (News.sub2 (by k_asm) (by intro p hp; simp only [List.mem_cons, hp, or_true])) ⟨_, _, rfl, rfl, (fun p hp => l1 p (by simp only [List.mem_cons, hp, or_true])), by
      simpa [Tm.ends] using (IntsAre.append (IntsAre.append (ns := x.ends) (ms := y.ends) (by assumption) (by assumption)) .nil)⟩
  | @lett a t0 t1 u v x y z e hm h1 h2 =>
    k_steps
    rename_i l1 kF kN Tc kX
    exact ret _ _ _ _ (by k_asm) (News.sub2 (by k_asm) (by intro p hp; simp only [List.mem_cons, hp, or_true])) ⟨_, _, rfl, rfl, (fun p hp => l1 p (by simp only [List.mem_cons, hp, or_true])), IntsAre.append (IntsAre.append (ns := x.ends) (ms := y.ends) (by assumption) (by assumption)) (.cons z _ .nil)⟩
theorem ends_all (w : World) : ∀ k, EndsC w k
  | 0 => fun _ _ _ h => absurd h (Nat.not_lt_zero _)
  | k + 1 => ends_step w k (ends_all w k)
end
section
theorem kwXF13_0 : True := by
  w_top off
  k_with_none
  trivial

open PySem.Builtin PySem.Builtin.Str
theorem items_fn (w : World) (hd : Option Value) (ha hl : Addr) (its : List Value) (ex : Nat) (news : List (Addr × Obj)) (hH : HdAt news ha hl) (hm : (hl, listOf (List.toArray its) ex) ∈ news) (hln : its.length ≤ 1000) :
    Fn w hd 135 [.ref ha] 1 news (fun r news' => ∃ D, r = .ref D ∧ news' = (D, listOf (List.toArray its) 0) :: news ∧ ∀ p ∈ news, p.1 < D) := by
  unfold Fn
  intro p loose mean mg mb dp un gd env outer A₀ base h₀ L m s Q E B F X N T hf hk hdp hun ret
  refine wpAny_call ?_
  refine' code_def (binds := [(Str.ofString "self", .ref ha)]) B F X N T rfl hf hk ?k6 ?k7 ?k8 ?k9 ?kB ?_ ?c2 ?c3 ?c4 ?c5
  case k6 => k_is
  case k7 => k_is
  case k8 => k_room
  case k9 => exact BindsTo.of_eq rfl
  case c5 => decide
  case kB => exact locs rfl
  case c2 => exact rfl
  case c3 => exact rfl
  case c4 => exact rfl
  intro g' L' h' FG' F' N' B' X' T'
  (try dsimp only)
  k_fold
  obtain ⟨dx, hsh, n, tkh, hi, hdd⟩ := id hH
  k_steps
  refine' kmk_slice_lit (zs := its) (lo := none) (hi := none) ?F ?N ?hl .none .none ?e ?_ ?s ?t ?z
  case F => k_asm
  case N => k_asm
  case hl => exact ⟨_, (N' _ hm).1, rfl, _, rfl⟩
  case e => rw [slicePick_all, List.toList_toArray]
  case s => with_unfolding_all rfl
  case t => intro _; with_unfolding_all rfl
  case z => rw [List.size_toArray]; simp only [sizeLine]; omega
  intro D h9 F9 N9 l9
  k_steps
  exact ret _ _ _ _ (by k_asm) (by k_asm) ⟨D, rfl, rfl, l9⟩
end
section
theorem kwXY2_0 : True := by
  w_top off
  k_with_none
  trivial
@[reducible] noncomputable def BL4 : List Stmt := by
  refine (fun (_ : List.drop 11 B25 = ?k) => ?k) ?h
  case h => conv => lhs; whnf
def CallStop3 (Q : Prop) : Prop := Q
theorem callStop3 {P : Prop} (h : CallStop3 P) : P := h
theorem kwXY2_1 : True := by
  k_with "call ref" =>
    (k_here; k_dflt (refine callStop3 ?_))
  k_with "binaryOp Add ref ref" =>
    (
      k_here
      k_dflt (
      refine' addL ?k1 ?k2 ?k3 ?k4 ?k5 ?_
      (case k1 => k_asm); (case k2 => k_asm); (case k3 => is_list); (case k4 => is_list)
      (case k5 => (simp only [List.length_append, List.length_cons, List.length_nil, sizeLine] at *; omega))
      intro _ _ _ _ _; (try dsimp only); (try k_fold)))
  k_with "compareOp NotEq ref ref" =>
    (k_here; k_dflt (refine callStop3 ?_))
  k_with "compareOp Eq ref ref" =>
    (k_here; k_dflt (refine callStop3 ?_))
  k_with "getMethod ref" =>
    (
      k_here
      k_dflt (refine' methL_fn ?F ?X ?I ?ga ?gk ?hf ?ht ?hs ?_; (case F => k_asm); (case X => k_asm); (case I => exact instAcc (by k_asm) (by k_mem) (by k_mem)); (case ga => k_is); (case gk => k_is); (case hf => k_is); (case ht => k_is); (case hs => rfl)))
  trivial
theorem lastL_len (d : Int) : ∀ es : List Int, (lastL d es).length ≤ 2 * es.length
  | [] => Nat.le_refl _
  | p :: r => by
    have := lastL_len d r
    rw [lastL, List.length_append, List.length_append, List.length_cons]
    split <;> split <;> simp only [List.length_nil, List.length_singleton] <;> omega
def encR (r : Str × Str) : PyData := .tuple [.str r.1, .str r.2]
theorem readsRow {h₀ h : Heap} {L : Addr} {led : List (Addr × Obj)} (N : News h₀ L h led) {r : Str × Str} {x : Value} (hp : SPairAt led r x) : ∃ as, Reads h x (encR r) as := by
  obtain ⟨t, e, t0, t1, rfl, hm⟩ := hp
  exact ⟨_, reads_tuple_at (N _ hm).1 rfl rfl (.cons (.str r.1 t0) (.cons (.str r.2 t1) .nil))⟩
theorem readsRows {h₀ h : Heap} {L : Addr} {led : List (Addr × Obj)} (N : News h₀ L h led) {rows : List (Str × Str)} {its : List Value} (hp : Paired (SPairAt led) rows its) : ∃ as, ReadsAll h its (rows.map encR) as := by
  induction hp with
  | nil => exact ⟨_, .nil⟩
  | cons h1 _ ih =>
    obtain ⟨as, ha⟩ := ih
    obtain ⟨bs, hb⟩ := readsRow N h1
    exact ⟨_, .cons hb ha⟩
theorem readsRowsL {h₀ h : Heap} {L D : Addr} {led : List (Addr × Obj)} (N : News h₀ L h led) {rows : List (Str × Str)} {its : List Value} {e : Nat} (hp : Paired (SPairAt led) rows its) (hm : (D, listOf its.toArray e) ∈ led) : ∃ as, Reads h (.ref D) (.list (rows.map encR)) as := by
  obtain ⟨as, ha⟩ := readsRows N hp
  exact ⟨_, reads_list_at (N _ hm).1 rfl rfl ha⟩
theorem pairedApp {α β : Type} {F : α → β → Prop} {a c : List α} {b d : List β} (h : Paired F a b) (h2 : Paired F c d) : Paired F (a ++ c) (b ++ d) := by
  induction h with
  | nil => exact h2
  | cons h1 _ ih => exact .cons h1 ih
theorem strOk_name0 : ∀ p < 6, PyData.strOk (nameStr p) = true := by decide +kernel
theorem strOk_show0 : ∀ n < 97, PyData.strOk (showI (n : Nat)) = true := by decide +kernel
theorem strOk_name {p : Int} (hp : p6 p) : PyData.strOk (nameStr p.toNat) = true := p6_cases (P := fun p => PyData.strOk (nameStr p.toNat) = true) strOk_name0 hp
theorem strOk_show {n : Int} (hp : n97 n) : PyData.strOk (showI n) = true := n97_cases (P := fun p => PyData.strOk (showI p) = true) strOk_show0 hp
theorem lay_rows : ∀ {rows : List Rw}, (∀ r ∈ rows, r.ok) → PyData.canLayAll0 ((rows.map Rw.pr).map encR) = true ∧ PyData.depthAll ((rows.map Rw.pr).map encR) ≤ 10
  | [], _ => ⟨rfl, by decide⟩
  | r :: rs, h => by
    have ih := lay_rows (rows := rs) fun x hx => h x (.tail _ hx)
    have hr := h r (.head _)
    have h1 : PyData.strOk r.pr.1 = true ∧ PyData.strOk r.pr.2 = true := by
      cases r with
      | kv p n => exact ⟨strOk_name hr.1, strOk_show hr.2⟩
      | other => exact ⟨by decide +kernel, by decide +kernel⟩
    constructor
    · simp only [List.map_cons, encR, PyData.canLayAll0, PyData.canLay0, h1.1, h1.2, Bool.and_true, Bool.true_and]
      exact ih.1
    · simp only [List.map_cons, encR, PyData.depthAll, PyData.depth]
      have := ih.2
      omega
theorem law4 (w : World) {p : Program} {loose : List Str} {mean : ExcName → Option Value} {mg mb : Str → Option Value} {h₀ : Heap} {L fa sc D ha rl kn pa dx ea Dk fl ll : Addr} {cd v : Value} {s : Shared} {Q : Flow → Shared → Prop} {E : Value → Shared → Prop} {d mo' : Int} {td k9 : Tok} {t : Tm} {imm imm9 : List (Addr × Obj)} {es : List Int} {its9 hits9 fits lits : List Value} {ex9 eh9 fe le : Nat} {kv pv ky wv : Option Value}
    (B : Below callerA h₀ [] h₀) (X : (heapK w.params).In h₀) (T : Top p loose mean mg mb h₀)
    (F : Fr h₀ L s.heap (canonL (mL fl Dk ea pa ha kn D sc mo' d k9 td v) ll kv pv ky wv))
    (N : News h₀ L s.heap imm)
    (hfl : (fl, listOf fits.toArray fe) ∈ imm) (hfp : Paired (SPairAt imm) ((if hasK es 1 then [] else [Rw.kv 3 d]).map Rw.pr) fits)
    (hll : (ll, listOf lits.toArray le) ∈ imm) (hlp : Paired (SPairAt imm) ((lastL d es).map Rw.pr) lits) (hesl : es.length ≤ 100)
    (hpm : (pa, accO dx its9.toArray ex9) ∈ imm) (hrm : (rl, listOf hits9.toArray eh9) ∈ imm) (S9 : StAt pa dx ha rl [It.val (t.worth [(1, d), (0, 40)])] (endsR es (row0 d)) its9 hits9 imm9) (hsub : ∀ p ∈ imm9, p ∈ imm)
    (hK9 : KnIn imm9 (.ref kn) [(1, d), (0, 40)]) (ht9 : TIn imm9 v t) (hok : t.ok) (hsz : t.size ≤ 100) (hd97 : n97 d) (h0 : hasK es 0 = true) (hmo : mo' = t.need)
    (ret : ∀ h tk m, Fr h₀ L h m → Q (.ret (.bool true)) { s with heap := h, toks := tk }) :
    wpAny (model pw w) (callerA.deeper (envOf lawD.name lawD.scope L fa cd)) (execs BL4 (envOf lawD.name lawD.scope L fa cd)) Q E s := by
  subst hmo
  have hHd : HdAt imm ha rl := S9.hd.mono hsub
  have hPd : PdAt imm dx := S9.pd.mono hsub
  have hPd9 : PdAt imm9 dx := S9.pd
  have hfl1 : fits.length ≤ 1 := by rw [← hfp.length, List.length_map]; split <;> simp
  have hll1 : lits.length ≤ 200 := by rw [← hlp.length, List.length_map]; have := lastL_len d es; omega
  have hrows := endsR_all (d := d) (es := es)
  have hh9 : hits9.length ≤ 1000 := by
    rw [← S9.tab.length, List.length_map, hrows, endT, h0]
    have := lastL_len d es
    simp only [List.length_append]
    split <;> simp <;> omega
  have hlen9 := S9.len
  obtain ⟨v9, rfl⟩ : ∃ v9, its9 = [v9] := by
    match its9, hlen9 with
    | [x], _ => exact ⟨x, rfl⟩
  obtain ⟨dx2, hsh2, n2, tk2, hm1, hm2⟩ := id hHd
  obtain ⟨hshp, np, tkp, tp, hmp⟩ := id hPd
  unfold canonL mL at F
  k_steps
  unfold CallStop3
  rename Fr _ _ _ _ => kF
  rename News _ _ _ _ => kN
  refine Fn.use (items_fn w none ha rl hits9 eh9 imm hHd hrm hh9) B kF X kN T rfl rfl ?_ ?_ ?_
  · decide
  · decide
  rintro r news' h1 tk1 F1 N1 ⟨D1, rfl, rfl, hl1⟩
  clear kF kN
  k_steps
  unfold CallStop3
  rename_i T5 _ _ l5 _ _ _ _ d5 _ _ _ _ _ _ d6 _ F6 N6 _
  have hdep : callerA.depth ≤ 600 := by decide
  have huni : callerA.units = 4 := rfl
  have sub : ∀ q ∈ imm, q ∈ (d6, listOf (List.toArray (fits ++ [.ref T5] ++ lits)) 0) :: (d5, listOf (List.toArray (fits ++ [.ref T5])) 0) :: (l5, listOf #[.ref T5] 0) :: (T5, tupO (.str (Str.ofString "Other") tk1) (.str (Str.ofString "kept") (tk1 + 1)) 0) :: (D1, listOf hits9.toArray 0) :: imm := fun q hq => by simp only [List.mem_cons, hq, or_true]
  obtain ⟨ba, ra⟩ := readsRowsL N6 (rows := (endsR es (row0 d)).map Rw.pr) (S9.tab.mono fun _ _ z => z.mono fun q hq => sub q (hsub q hq)) (D := D1) (e := 0) (.tail _ (.tail _ (.tail _ (.tail _ (.head _)))))
  obtain ⟨bb, rb⟩ := readsRowsL N6 (rows := (endsR es (row0 d)).map Rw.pr) (its := fits ++ [.ref T5] ++ lits) (by
    rw [hrows]
    unfold endT
    rw [h0]
    simp only [if_true, List.append_nil, List.map_append]
    exact pairedApp (pairedApp (hfp.mono fun _ _ z => z.mono sub) (.cons ⟨T5, 0, _, _, rfl, .tail _ (.tail _ (.tail _ (.head _)))⟩ .nil)) (hlp.mono fun _ _ z => z.mono sub)) (D := d6) (e := 0) (.head _)
  obtain ⟨hcl, hdl⟩ := lay_rows S9.irw
  have hshp : SeqAt.shaped (.list (((endsR es (row0 d)).map Rw.pr).map encR)) = true := by
    unfold SeqAt.shaped
    rw [Bool.and_eq_true]
    exact ⟨hcl, decide_eq_true (by rw [PyData.depth]; omega)⟩
  refine ne_dataH ra rb hshp hshp ?_ ?_
  · show callerA.units + 3 + 64 < cLine; simp only [cLine]; omega
  have hcl2 : PyData.canLay0 (.list (((endsR es (row0 d)).map Rw.pr).map encR)) = true := hcl
  rw [SeqAt.eqv_refl _ hcl2]
  have N7 : News h₀ L _ imm := fun q hq => N6 q (sub q hq)
  dsimp only [qk, ek, Bool.not_true]
  rename Fr _ _ _ _ => kF
  clear N6 ra rb sub
  rename News _ _ _ (_ :: _ :: _ :: _ :: imm) => kN1
  rename News _ _ _ (_ :: _ :: _ :: imm) => kN2
  clear kN1 kN2
  k_steps
  unfold CallStop3
  have ht : TIn imm v t := ht9.mono hsub
  refine Fn.int (need_all w (t.size + 1) t v imm (Nat.lt_succ_self _) ht) B kF X N7 T rfl rfl ?_ ?_ ?_
  · show callerA.depth + 1 + t.size < recursionLimit; simp only [recursionLimit]; omega
  · show callerA.units + 3 + 8 * t.size < cLine; simp only [cLine]; omega
  intro tk8 h8 tk9 F8 N8
  clear N7 kF
  k_steps
  · rename t.need ≠ t.need => hx
    exact absurd rfl hx
  unfold CallStop3
  dsimp only [List.append_nil, List.cons_append, List.nil_append]
  refine count_use hpm hPd (by simp) B F8 X N8 T rfl rfl ?_ ?_ ?_
  · decide
  · decide
  intro tk10 h10 tk11 F10 N10
  clear N8 F8
  k_steps
  · rename ((List.length _ : Nat) : Int) ≠ 1 => hx
    exact absurd rfl hx
  unfold CallStop3
  dsimp only [List.append_nil, List.cons_append, List.nil_append]
  refine pop_use (its := []) (v := v9) (imm := imm9) hPd9 S9.apa (by simp) B F10 X (fun q hq => by rcases List.mem_cons.mp hq with rfl | hq; exact N10 _ hpm; exact N10 _ (hsub _ hq)) T rfl rfl ?_ ?_ ?_
  · decide
  · decide
  intro e12 h12 tk12 F12 N12
  clear N10 F10
  have hn97 : n97 (t.worth [(1, d), (0, 40)]) := S9.ist (.val _) (.head _)
  have hv9 : SPairAt imm9 (Str.ofString "", showI (t.worth [(1, d), (0, 40)])) v9 := by
    have z := S9.pile
    cases z with
    | cons h _ => exact h
  k_steps
  unfold CallStop3
  refine WorthC.use (worth_all w (t.size + 1)) (t := t) (ks := [(1, d), (0, 40)]) (ht9.mono fun q hq => .tail _ hq) (hK9.mono fun q hq => .tail _ hq) (Nat.lt_succ_self _) (by simp only [List.length_cons, List.length_nil]; omega) B F12 X N12 T rfl rfl ?_ ?_ ?_
  · show callerA.depth + 1 + t.size < recursionLimit; simp only [recursionLimit]; omega
  · show callerA.units + 3 + 8 * t.size < cLine; simp only [cLine]; omega
  intro tk13 h13 tk14 F13 N13
  clear N12 F12
  generalize t.worth [(1, d), (0, 40)] = W at hn97 hv9 ⊢
  obtain ⟨hw0, hw1⟩ := id hn97
  k_steps
  rename_i T9 _ _ N9 _
  obtain ⟨qa, qr⟩ := readsRow N9 (hv9.mono fun q hq => .tail _ (.tail _ hq))
  obtain ⟨qb, qs⟩ := readsRow N9 (r := (Str.ofString "", showI W)) (x := .ref T9) ⟨T9, 0, _, _, rfl, .head _⟩
  have hsw : PyData.canLay0 (encR (Str.ofString "", showI W)) = true := by
    simp only [encR, PyData.canLay0, PyData.canLayAll0, strOk_show hn97, Bool.and_true]
    decide +kernel
  have hshw : SeqAt.shaped (encR (Str.ofString "", showI W)) = true := by
    unfold SeqAt.shaped
    rw [Bool.and_eq_true]
    exact ⟨hsw, by simp only [encR, PyData.depth, PyData.depthAll]; decide⟩
  refine eq_dataH qr qs hshw hshw ?_ ?_
  · show callerA.units + 3 + 64 < cLine; simp only [cLine]; omega
  rw [SeqAt.eqv_refl _ hsw]
  rename Fr _ _ _ _ => kF9
  exact ret _ _ _ kF9
end
section
theorem kwXZ4_0 : True := by
  w_top off
  k_with_none
  trivial
@[reducible] noncomputable def BL3 : List Stmt := by
  refine (fun (_ : List.drop 9 B25 = ?k) => ?k) ?h
  case h => conv => lhs; whnf
def CallStop2 (Q : Prop) : Prop := Q
theorem callStop2 {P : Prop} (h : CallStop2 P) : P := h
theorem kwXZ4_1 : True := by
  k_with "exec For" =>
    (k_here; k_dflt (refine callStop2 ?_))
  k_with "exec For Tuple Call" =>
    (k_here; k_dflt (refine callStop2 ?_))
  k_with "call type:enumerate" =>
    (k_here; k_dflt (refine callStop2 ?_))
  trivial
theorem canonL0 {m0 : Str → Option Value} {ll : Addr} (h1 : m0 (Str.ofString "worth") = none) (h2 : m0 (Str.ofString "key") = none) (h3 : m0 (Str.ofString "place") = none) (h4 : m0 (Str.ofString "k") = none) : (fun z => if z = Str.ofString "last" then some (.ref ll) else m0 z) = canonL m0 ll none none none none := by
  funext z
  unfold canonL
  by_cases q1 : z = Str.ofString "worth"
  · rw [if_pos q1, q1, h1]; rfl
  by_cases q2 : z = Str.ofString "key"
  · rw [if_neg q1, if_pos q2, q2, h2]; rfl
  by_cases q3 : z = Str.ofString "place"
  · rw [if_neg q1, if_neg q2, if_pos q3, q3, h3]; rfl
  by_cases q4 : z = Str.ofString "k"
  · rw [if_neg q1, if_neg q2, if_neg q3, if_pos q4, q4, h4]; rfl
  simp only [if_neg q1, if_neg q2, if_neg q3, if_neg q4]
theorem canonL2 {m0 : Str → Option Value} {ll : Addr} {kv pv ky wv : Option Value} {x v : Value} : (fun z => if z = Str.ofString "place" then some v else if z = Str.ofString "k" then some x else canonL m0 ll kv pv ky wv z) = canonL m0 ll (some x) (some v) ky wv := by
  funext z
  unfold canonL
  by_cases q1 : z = Str.ofString "worth"
  · subst q1; rfl
  by_cases q2 : z = Str.ofString "key"
  · subst q2; rfl
  by_cases q3 : z = Str.ofString "place"
  · subst q3; rfl
  by_cases q4 : z = Str.ofString "k"
  · subst q4; rfl
  simp only [if_neg q1, if_neg q2, if_neg q3, if_neg q4]
theorem canonL3 {m0 : Str → Option Value} {ll : Addr} {kv pv ky wv : Option Value} {x v : Value} : (fun z => if z = Str.ofString "worth" then some v else if z = Str.ofString "key" then some x else canonL m0 ll kv pv ky wv z) = canonL m0 ll kv pv (some x) (some v) := by
  funext z
  unfold canonL
  by_cases q1 : z = Str.ofString "worth"
  · simp only [if_pos q1]
  by_cases q2 : z = Str.ofString "key"
  · simp only [if_neg q1, if_pos q2]
  simp only [if_neg q1, if_neg q2]
def Jlast (imm0 : List (Addr × Obj)) (m0 : Str → Option Value) (ll : Addr) (d : Int) (es : List Int) (i : Nat) (m : Str → Option Value) (led : List (Addr × Obj)) : Prop :=
  ∃ its e imm kv pv ky wv rows, led = (ll, listOf (List.toArray its) e) :: imm ∧ m = canonL m0 ll kv pv ky wv ∧ Paired (SPairAt imm) (rows.map Rw.pr) its ∧ (∀ p ∈ imm, p.1 ≠ ll) ∧ (∀ q ∈ imm0, q ∈ imm) ∧ lastL d es = rows ++ lastL d (es.drop i)
theorem ends_p6 : ∀ t : Tm, t.ok → ∀ p ∈ t.ends, p6 p
  | .num _, _, _, h => nomatch h
  | .nam _, _, _, h => nomatch h
  | .less a b, ho, p, h => (List.mem_append.mp h).elim (ends_p6 a ho.1 p) (ends_p6 b ho.2 p)
  | .lett a b q, ho, p, h => by
    rcases List.mem_append.mp h with h | h
    · exact (List.mem_append.mp h).elim (ends_p6 a ho.1 p) (ends_p6 b ho.2.1 p)
    · rw [List.mem_singleton] at h; subst h; exact ho.2.2
theorem pairedGet {α β : Type} {F : α → β → Prop} {xs : List α} {ys : List β} (h : Paired F xs ys) : ∀ {i : Nat} {y : β}, ys[i]? = some y → ∃ x, xs[i]? = some x ∧ F x y := by
  induction h with
  | nil => intro i y h; simp at h
  | cons h1 _ ih =>
    intro i y h
    cases i with
    | zero => simp at h; subst h; exact ⟨_, by simp, h1⟩
    | succ i => obtain ⟨x, e, f⟩ := ih (i := i) (by simpa using h); exact ⟨x, by simpa using e, f⟩
def Ein (p : Int) (r : List Int) (ks : List (Int × Int)) : List Rw := ks.flatMap fun kd => if p / 2 = kd.1 ∧ hasK r kd.1 = false then [.kv p kd.2] else []
theorem Ein_take {p : Int} {r : List Int} {ks : List (Int × Int)} {j : Nat} {kd : Int × Int} (h : ks[j]? = some kd) : Ein p r (ks.take (j + 1)) = Ein p r (ks.take j) ++ (if p / 2 = kd.1 ∧ hasK r kd.1 = false then [.kv p kd.2] else []) := by
  obtain ⟨hi, rfl⟩ := List.getElem?_eq_some_iff.mp h
  rw [List.take_succ_eq_append_getElem hi]
  unfold Ein
  rw [List.flatMap_append]
  simp only [List.flatMap_cons, List.flatMap_nil, List.append_nil]
theorem lastL_step {d p : Int} {es : List Int} {i : Nat} (h : es[i]? = some p) : lastL d (es.drop i) = Ein p (es.drop (i + 1)) [(1, d), (0, 40)] ++ lastL d (es.drop (i + 1)) := by
  obtain ⟨hi, rfl⟩ := List.getElem?_eq_some_iff.mp h
  rw [List.drop_eq_getElem_cons hi, lastL]
  unfold Ein
  simp only [List.flatMap_cons, List.flatMap_nil, List.append_nil]
theorem Ein_len (p : Int) (r : List Int) : ∀ ks : List (Int × Int), (Ein p r ks).length ≤ ks.length
  | [] => Nat.le_refl _
  | kd :: ks => by
    have := Ein_len p r ks
    unfold Ein at this ⊢
    rw [List.flatMap_cons, List.length_append, List.length_cons]
    split <;> simp only [List.length_nil, List.length_singleton] <;> omega
def Jin (imm0 : List (Addr × Obj)) (m0 : Str → Option Value) (ll e_ it_ : Addr) (oe oi : Obj) (rows0 : List Rw) (p : Int) (r : List Int) (ks : List (Int × Int)) (iv pv : Value) (j : Nat) (m : Str → Option Value) (led : List (Addr × Obj)) : Prop :=
  ∃ its e imm ky wv, led = (e_, oe) :: (it_, oi) :: (ll, listOf (List.toArray its) e) :: imm ∧ m = canonL m0 ll (some iv) (some pv) ky wv ∧ Paired (SPairAt imm) ((rows0 ++ Ein p r (ks.take j)).map Rw.pr) its ∧ (∀ p ∈ imm, p.1 ≠ ll) ∧ (∀ q ∈ imm0, q ∈ imm) ∧ (∀ p ∈ (ll, listOf (List.toArray its) e) :: imm, p.1 ≠ e_ ∧ p.1 ≠ it_)
theorem law3 (w : World) {p : Program} {loose : List Str} {mean : ExcName → Option Value} {mg mb : Str → Option Value} {h₀ : Heap} {L fa sc D ha rl kn pa dx ea Dk fl : Addr} {cd v : Value} {s : Shared} {Q : Flow → Shared → Prop} {E : Value → Shared → Prop} {d mo' : Int} {td k9 : Tok} {t : Tm} {imm imm9 : List (Addr × Obj)} {es : List Int} {ews ys its9 hits9 fits : List Value} {dct : Option Addr} {sl : Array (Option Value)} {nn ex9 eh9 fe : Nat}
    (B : Below callerA h₀ [] h₀) (X : (heapK w.params).In h₀) (T : Top p loose mean mg mb h₀)
    (F : Fr h₀ L s.heap (fun y => if y = Str.ofString "first" then some (.ref fl) else if y = Str.ofString "keys" then some (.ref Dk) else if y = Str.ofString "ends" then some (.ref ea) else if y = Str.ofString "most" then some (.int mo' k9) else if y = Str.ofString "pile" then some (.ref pa) else if y = Str.ofString "table" then some (.ref ha) else if y = Str.ofString "known" then some (.ref kn) else if y = Str.ofString "drawn" then some (.int d td) else if y = Str.ofString "term" then some v else if y = Str.ofString "numbers" then some (.ref D) else List.lookup y [(Str.ofString "script", Value.ref sc)].reverse))
    (N : News h₀ L s.heap imm)
    (hfl : (fl, listOf fits.toArray fe) ∈ imm) (hfp : Paired (SPairAt imm) ((if hasK es 1 then [] else [Rw.kv 3 d]).map Rw.pr) fits)
    (hkm : (Dk, kO dct sl ys nn) ∈ imm) (hIk : IntsAre ys (es.map fun p => p / 2))
    (hem : (ea, listOf ews.toArray 0) ∈ imm) (hIe : IntsAre ews es) (hnl : ews.length ≤ 100)
    (hpm : (pa, accO dx its9.toArray ex9) ∈ imm) (hrm : (rl, listOf hits9.toArray eh9) ∈ imm) (S9 : StAt pa dx ha rl [It.val (t.worth [(1, d), (0, 40)])] (endsR es (row0 d)) its9 hits9 imm9) (hsub : ∀ p ∈ imm9, p ∈ imm)
    (hK9 : KnIn imm9 (.ref kn) [(1, d), (0, 40)]) (ht9 : TIn imm9 v t) (hok : t.ok) (hsz : t.size ≤ 100) (hd97 : n97 d) (hes : t.ends = es) (h0 : hasK es 0 = true) (hmo : mo' = t.need)
    (ret : ∀ h tk m, Fr h₀ L h m → Q (.ret (.bool true)) { s with heap := h, toks := tk }) :
    wpAny (model pw w) (callerA.deeper (envOf lawD.name lawD.scope L fa cd)) (execs BL3 (envOf lawD.name lawD.scope L fa cd)) Q E s := by
  have hK := hK9.mono hsub
  k_steps
  unfold CallStop2
  rename Fr _ _ _ _ => kF
  rename News _ _ _ _ => kN
  rename_i ll _ l9 h9
  have hapl : ∀ q ∈ imm, q.1 ≠ ll := fun q hq => Nat.ne_of_lt (l9 q hq)
  have kF1 := kF
  refine forEnum rfl rfl kF rfl rfl rfl ?_ (fun _ => rfl)
  k_steps
  unfold CallStop2
  refine call_enumerate_list (News.isList kN (.tail _ hem)) ?_
  intro hE he hit hszE hkeep
  dsimp only at he hit hszE hkeep
  have hLl : @LT.lt Nat _ L h9.objs.size := by obtain ⟨o, _, _, ho, _⟩ := kF.ns; exact Heap.lt_size ho
  have hLa : @LE.le Nat _ h₀.objs.size L := kF.above
  have hno : ∀ a : Nat, @LE.le Nat _ L a → h₀.get? a = none := fun a ha => by
    cases q : h₀.get? a with
    | none => rfl
    | some o => exact absurd (Nat.lt_of_lt_of_le (Heap.lt_size q) (Nat.le_trans hLa ha)) (Nat.lt_irrefl _)
  have ec := canonL0 (m0 := mL fl Dk ea pa ha kn D sc mo' d k9 td v) (ll := ll) rfl rfl rfl rfl
  have hesl : es.length ≤ 100 := by have := hIe.length; omega
  have hKs := hK
  obtain ⟨_, kits, ke, hka, hkk, hkp⟩ := hKs
  cases hka
  refine ⟨h9.objs.size + 1, h9.objs.size, ea, ews.toArray, Jlast imm (mL fl Dk ea pa ha kn D sc mo' d k9 td v) ll d es, (ll, listOf (List.toArray []) 0) :: imm, rfl, he, hit, Nat.succ_ne_self _, hno _ (Nat.le_succ_of_le (Nat.le_of_lt hLl)), hno _ (Nat.le_of_lt hLl), Ne.symm (Nat.ne_of_lt (Nat.lt_succ_of_lt hLl)), Ne.symm (Nat.ne_of_lt hLl), ?_, kF1.keeps hkeep, kN.grown hkeep, ?_, ?_, ?_, ?_⟩
  · intro p hp
    have hz := Heap.lt_size (kN p hp).1
    exact ⟨Nat.ne_of_lt (Nat.lt_succ_of_lt hz), Nat.ne_of_lt hz⟩
  · exact ⟨[], 0, imm, none, none, none, none, [], rfl, ec, .nil, hapl, fun _ h => h, rfl⟩
  · rintro i m led ⟨its, e, im, kv, pv, ky, wv, rows, rfl, -, -, -, hs, -⟩
    exact ⟨0, .tail _ (hs _ hem)⟩
  · intro i v' tk' m led hh tk5 oe oi hv hJ F5 N5 hap5
    obtain ⟨its, e', im, kv, pv, ky, wv, rows, rfl, rfl, hP, hapi, hsi, hrows⟩ := hJ
    rw [canonL2] at F5
    obtain ⟨x, tx, rfl, hx⟩ := intsGet hIe (i := i) (v := v') (by simpa using hv)
    have hx6 : p6 x := ends_p6 t hok x (hes ▸ List.mem_of_getElem? hx)
    obtain ⟨pn, rfl⟩ := Int.eq_ofNat_of_zero_le hx6.1
    have hpn : pn < 6 := by have := hx6.2; omega
    have hst := lastL_step (d := d) hx
    have hln := lastL_len d es
    have hrl : rows.length ≤ 200 := by rw [hrows, List.length_append] at hln; omega
    have F6 := F5
    unfold canonL mL at F5
    clear kF kN kF1 he hit hkeep
    k_steps
    unfold CallStop2
    refine forPair rfl F5 rfl rfl rfl ?_ (fun _ => rfl)
    k_steps
    refine ⟨kn, kits.toArray, Jin imm (mL fl Dk ea pa ha kn D sc mo' d k9 td v) ll (h9.objs.size + 1) h9.objs.size oe oi rows pn (es.drop (i + 1)) [(1, d), (0, 40)] (.int (i : Nat) tk') (.int (pn : Int) tx), _, rfl, F6, N5, ?_, ?_, ?_, ?_, ?_⟩
    · exact ⟨its, e', im, ky, wv, rfl, rfl, by simpa [Ein] using hP, hapi, hsi, hap5⟩
    · rintro j m led ⟨its, e, im2, ky, wv, rfl, -, -, -, hs, -⟩
      exact ⟨⟨ke, .tail _ (.tail _ (.tail _ (hs _ hkk)))⟩, .inl rfl⟩
    · rintro j v m led hv ⟨its, e, im2, ky, wv, rfl, -, -, -, hs, -⟩
      obtain ⟨kd, hkd, t8, e8, u0, u1, h1, h2⟩ := pairedGet hkp (i := j) (y := v) (by simpa using hv)
      exact ⟨t8, _, _, e8, h1, .tail _ (.tail _ (.tail _ (hs _ h2)))⟩
    · rintro j v m led m' hh5 tk7 I oI hv ⟨its, e, im2, ky, wv, rfl, rfl, hP2, hap2, hs2, hap3⟩ ⟨T8, y1, y2, e9, rfl, hT8, rfl⟩ F7 N7 hI7
      obtain ⟨kd, hkd, t8, e8, u0, u1, h1, h2⟩ := pairedGet hkp (i := j) (y := .ref T8) (by simpa using hv)
      cases h1
      obtain ⟨rfl, rfl⟩ := same_pair2 N7 rfl (.tail _ (.tail _ (.tail _ (hs2 _ h2)))) rfl hT8
      rw [canonL3] at F7
      have hkd2 : 0 ≤ kd.2 ∧ kd.2 < 97 := by
        have := List.mem_of_getElem? hkd
        simp only [List.mem_cons, List.not_mem_nil, or_false] at this
        rcases this with rfl | rfl
        · exact hd97
        · exact ⟨by decide, by decide⟩
      have hitl : its.length ≤ 900 := by
        have z := hP2.length
        have z2 := Ein_len pn (es.drop (i + 1)) (List.take j [(1, d), (0, 40)])
        rw [List.length_map, List.length_append] at z
        have z4 : (List.take j [((1 : Int), d), (0, 40)]).length ≤ 2 := by rw [List.length_take]; simp only [List.length_cons, List.length_nil]; omega
        omega
      refine innerB w (its := its) (e := e) (pre := (I, oI) :: (h9.objs.size + 1, oe) :: (h9.objs.size, oi) :: im2) B X T F7 (fun q hq => N7 q (by simp only [List.mem_cons] at hq ⊢; rcases hq with h | h | h | h | h <;> simp [h])) ?_ (.tail _ (.tail _ (.tail _ (hs2 _ hkm)))) hIk hx hesl hpn hitl hkd2.1 hkd2.2 ?_ ?_
      · refine List.forall_mem_cons.mpr ⟨Ne.symm (hI7 (ll, listOf (List.toArray its) e) (.tail _ (.tail _ (.head _)))), List.forall_mem_cons.mpr ⟨Ne.symm (hap3 _ (.head _)).1, List.forall_mem_cons.mpr ⟨Ne.symm (hap3 _ (.head _)).2, hap2⟩⟩⟩
      · intro T' h' tk' k1 k2 e4 hc F8 N8 hne hlt
        have hm1 : ∀ q ∈ im2, q ∈ (T', tupO (.str (nameStr pn) k1) (.str (showI kd.2) k2) 0) :: im2 := fun q hq => .tail _ hq
        refine ⟨h', tk', _, (h9.objs.size + 1, oe) :: (h9.objs.size, oi) :: (ll, listOf (List.toArray (its ++ [.ref T'])) e4) :: (T', tupO (.str (nameStr pn) k1) (.str (showI kd.2) k2) 0) :: im2, rfl, F8, (fun q hq => N8 q (by simp only [List.mem_cons] at hq ⊢; rcases hq with h | h | h | h | h | h <;> simp [h])), ?_, its ++ [.ref T'], e4, (T', tupO (.str (nameStr pn) k1) (.str (showI kd.2) k2) 0) :: im2, _, _, rfl, rfl, ?_, List.forall_mem_cons.mpr ⟨hne, hap2⟩, fun q hq => hm1 q (hs2 q hq), ?_⟩
        · exact List.forall_mem_cons.mpr ⟨hI7 (h9.objs.size + 1, oe) (.head _), List.forall_mem_cons.mpr ⟨hI7 (h9.objs.size, oi) (.tail _ (.head _)), List.forall_mem_cons.mpr ⟨hI7 (ll, listOf (List.toArray its) e) (.tail _ (.tail _ (.head _))), List.forall_mem_cons.mpr ⟨Ne.symm (Nat.ne_of_lt (hlt _ (.head _))), fun q hq => hI7 q (.tail _ (.tail _ (.tail _ hq)))⟩⟩⟩⟩
        · rw [Ein_take hkd, if_pos hc, ← List.append_assoc, List.map_append, List.map_singleton]
          exact Paired.snoc (hP2.mono fun _ _ z => z.mono hm1) ⟨T', 0, k1, k2, rfl, .head _⟩
        · exact List.forall_mem_cons.mpr ⟨hap3 (ll, listOf (List.toArray its) e) (.head _), List.forall_mem_cons.mpr ⟨⟨Ne.symm (Nat.ne_of_lt (hlt _ (.tail _ (.head _)))), Ne.symm (Nat.ne_of_lt (hlt _ (.tail _ (.tail _ (.head _)))))⟩, fun q hq => hap3 q (.tail _ hq)⟩⟩
      · intro h' tk' hc F8 N8
        refine ⟨h', tk', _, (h9.objs.size + 1, oe) :: (h9.objs.size, oi) :: (ll, listOf (List.toArray its) e) :: im2, rfl, F8, (fun q hq => N8 q (by simp only [List.mem_cons] at hq ⊢; rcases hq with h | h | h | h | h <;> simp [h])), hI7, its, e, im2, _, _, rfl, rfl, ?_, hap2, hs2, hap3⟩
        rw [Ein_take hkd, if_neg hc, List.append_nil]
        exact hP2
    · rintro hh5 tk7 m led ⟨its, e, im2, ky, wv, rfl, rfl, hP2, hap2, hs2, hap3⟩ F7 N7
      refine wpAny_execs_nil ?_
      dsimp only
      refine wpAny_execs_nil ?_
      have hkl : kits.toArray.size = 2 := by rw [List.size_toArray, ← hkp.length]; rfl
      rw [hkl] at hP2
      exact ⟨hh5, tk7, _, _, rfl, F7, N7, hap3, its, e, im2, _, _, _, _, _, rfl, rfl, hP2, hap2, hs2, by rw [hrows, hst, List.append_assoc]; rfl⟩
  · rintro hh tk7 m led ⟨its, e', im, kv, pv, ky, wv, rows, rfl, rfl, hP, hapi, hsi, hrows⟩ F7 N7
    refine wpAny_execs_nil ?_
    dsimp only
    have hel2 : es.drop ews.toArray.size = [] := by rw [List.size_toArray, hIe.length]; exact List.drop_length
    rw [hel2] at hrows
    have hrows2 : lastL d es = rows := by rw [hrows]; exact List.append_nil _
    have sb : ∀ q ∈ imm, q ∈ (ll, listOf (List.toArray its) e') :: im := fun q hq => .tail _ (hsi q hq)
    have sb2 : ∀ q ∈ im, q ∈ (ll, listOf (List.toArray its) e') :: im := fun q hq => .tail _ hq
    exact law4 w (imm9 := imm9) B X T F7 N7 (sb _ hfl) (hfp.mono fun _ _ z => z.mono sb) (.head _) (by rw [hrows2]; exact hP.mono fun _ _ z => z.mono sb2) hesl (sb _ hpm) (sb _ hrm) S9 (fun q hq => sb q (hsub q hq)) hK9 ht9 hok hsz hd97 h0 hmo ret
end
section
theorem kwXZ3_0 : True := by
  w_top off
  k_with_none
  trivial
@[reducible] noncomputable def BL2 : List Stmt := by
  refine (fun (_ : List.drop 5 B25 = ?k) => ?k) ?h
  case h => conv => lhs; whnf
theorem kwXZ3_1 : True := by
  k_with "call ref" =>
    (k_here; k_dflt (refine callStop ?_))
  trivial
theorem lastStop {A : Around} {p pos : Pos} {e : PySem.Expr} {rest : List Stmt} {env : Env} {Q : Flow → Shared → Prop} {E : Value → Shared → Prop} {s : Shared} {w : World} (h : CallStop (wpAny (model pw w) A (execs (.Assign [.Name (Str.ofString "last") p] e pos :: rest) env) Q E s)) : wpAny (model pw w) A (execs (.Assign [.Name (Str.ofString "last") p] e pos :: rest) env) Q E s := h
theorem inK {w : World} {A : Around} {E : Value → Shared → Prop} {s : Shared} {l : Addr} {vs : List Value} {ns : List Int} {k : Int} {t : Tok} {b : Bool} {Q : Value → Shared → Prop} (hl : s.heap.IsList l vs.toArray) (hi : IntsAre vs ns) (hb : ns.any (· == k) = b)
    (h : Q (.bool b) s) : wpAny (model pw w) A (compareOp .In (.int k t) (.ref l)) Q E s := in_list_ints hl hi (by rw [hb]; exact h)
def GoOn : Prop := True
theorem kwXZ3_2 : True := by
  k_with "eval IfExp" =>
    (k_here; k_dflt ((fail_if_success (rename GoOn => hGoOn)); refine callStop ?_))
  k_with "execs cons" =>
    (k_here; k_dflt (refine lastStop ?_))
  k_with "exec For" =>
    (k_here; k_dflt (refine callStop ?_))
  k_with "compareOp In int ref" =>
    (k_here; k_dflt (refine' inK ?hl ?hi ?hb ?_; (case hl => exact News.isList (by k_asm) (by k_mem)); (case hi => assumption); (case hb => assumption)))
  k_with "assign Tuple" =>
    (
      k_here
      k_dflt (refine' asgT ?F ?N ?hT ?hH ?hL ?ha ?hb ?hp ?_; (case F => k_asm); (case N => k_asm); (case hT => k_mem); (case hH => exact .inl rfl); (case hL => exact rfl); (case ha => exact rfl); (case hb => exact rfl); (case hp => exact rfl); intro _ _ _ _; (try dsimp only); (try k_fold)))
  trivial
theorem law2 (w : World) {p : Program} {loose : List Str} {mean : ExcName → Option Value} {mg mb : Str → Option Value} {h₀ : Heap} {L fa sc D ha rl kn : Addr} {cd v : Value} {s : Shared} {Q : Flow → Shared → Prop} {E : Value → Shared → Prop} {hits : List Value} {d : Int} {td : Tok} {t : Tm} {imm : List (Addr × Obj)}
    (B : Below callerA h₀ [] h₀) (X : (heapK w.params).In h₀) (T : Top p loose mean mg mb h₀)
    (F : Fr h₀ L s.heap (fun y => if y = Str.ofString "table" then some (.ref ha) else if y = Str.ofString "known" then some (.ref kn) else if y = Str.ofString "drawn" then some (.int d td) else if y = Str.ofString "term" then some v else if y = Str.ofString "numbers" then some (.ref D) else List.lookup y [(Str.ofString "script", Value.ref sc)].reverse))
    (N : News h₀ L s.heap ((rl, listOf hits.toArray 0) :: imm)) (htab : Paired (SPairAt imm) ((row0 d).map Rw.pr) hits) (hhd : HdAt imm ha rl) (hah : ∀ p ∈ imm, p.1 ≠ rl) (hK : KnIn imm (.ref kn) [(1, d), (0, 40)]) (ht : TIn imm v t) (hok : t.ok) (hsz : t.size ≤ 100) (hd97 : n97 d) (h0 : hasK t.ends 0 = true)
    (ret : ∀ h tk m, Fr h₀ L h m → Q (.ret (.bool true)) { s with heap := h, toks := tk }) :
    wpAny (model pw w) (callerA.deeper (envOf lawD.name lawD.scope L fa cd)) (execs BL2 (envOf lawD.name lawD.scope L fa cd)) Q E s := by
  obtain ⟨hd0, hd1⟩ := id hd97
  have hdep : callerA.depth ≤ 600 := by decide
  have huni : callerA.units = 4 := rfl
  k_steps
  unfold CallStop
  rename Fr _ _ _ _ => kF
  rename News _ _ _ _ => kN
  refine LinesC.use (lines_all w (t.size + 1)) (t := t) (ht.mono fun p hp => .tail _ hp) hok (Nat.lt_succ_self _) (by omega) B kF X kN T rfl rfl ?_ ?_ ?_
  · show callerA.depth + 1 + (t.size + 2) < recursionLimit; simp only [recursionLimit]; omega
  · show callerA.units + 3 + 8 * (t.size + 2) < cLine; simp only [cLine]; omega
  intro la ls h1 tk1 F1 N1 l1 hLn hll
  clear kF kN
  k_steps
  unfold CallStop
  rename Fr _ _ _ _ => kF
  rename News _ _ _ _ => kN
  obtain ⟨mo', hmo, hS⟩ := run_term t [(1, d), (0, 40)] (row0 d) [] 0 hok (fun k => by
    simp only [row0, lk, Look]
    have e3 : (3 : Int) / 2 = 1 := by decide
    have e0 : (0 : Int) / 2 = 0 := by decide
    rw [e3, e0]
    by_cases h1 : 1 = k
    · simp [h1]
    · by_cases h2 : 0 = k
      · subst h2; simp
      · simp [h1, h2])
  have hlnl : t.lns.length ≤ 400 := by
    have := t.lines_le
    rw [lines_lns, List.length_map] at this
    omega
  have hrowok : ∀ r ∈ row0 d, r.ok := by
    intro r hr
    simp only [row0, List.mem_cons, List.not_mem_nil, or_false] at hr
    rcases hr with rfl | rfl | rfl
    · exact ⟨⟨by decide, by decide⟩, hd97⟩
    · exact ⟨⟨by decide, by decide⟩, ⟨by decide, by decide⟩⟩
    · trivial
  have s1 : ∀ q ∈ imm, q ∈ (la, listOf (List.toArray ls) 0) :: imm := fun q hq => .tail _ hq
  refine run_fn w la ha rl (row0 d) _ _ mo' hits ls 0 0 t.lns ((la, listOf (List.toArray ls) 0) :: imm) hS (by rw [← lines_lns]; exact hLn) hlnl (by simp [row0]) (.head _) (htab.mono fun _ _ z => z.mono s1) (hhd.mono s1) (List.forall_mem_cons.mpr ⟨Ne.symm (Nat.ne_of_lt (l1 (rl, listOf hits.toArray 0) (.head _))), hah⟩) hrowok B kF X (fun q hq => kN q (by simp only [List.mem_cons] at hq ⊢; rcases hq with h | h | h <;> simp [h])) T X T rfl ?_ ?_ ?_
  · show callerA.depth + 1 + 9 < recursionLimit; simp only [recursionLimit]; omega
  · show callerA.units + 3 + 8 * 9 < cLine; simp only [cLine]; omega
  intro Tr pa dx its9 hits9 ex9 eh9 imm9 k9 h2 tk2 F2 N2 S9 hnw
  have ht9 : TIn imm9 v t := ht.mono fun q hq => hnw q (.tail _ hq)
  have hK9 : KnIn imm9 (.ref kn) [(1, d), (0, 40)] := hK.mono fun q hq => hnw q (.tail _ hq)
  clear kF kN l1 hLn htab hhd hah hK ht hnw s1
  dsimp only [led2] at N2
  k_steps
  unfold CallStop
  rename Fr _ _ _ _ => kF
  rename News _ _ _ _ => kN
  refine EndsC.use (ends_all w (t.size + 1)) (t := t) (ht9.mono fun p hp => by simp only [List.mem_cons, hp, or_true]) (Nat.lt_succ_self _) B kF X kN T rfl rfl ?_ ?_ ?_
  · show callerA.depth + 1 + t.size < recursionLimit; simp only [recursionLimit]; omega
  · show callerA.units + 3 + 8 * t.size < cLine; simp only [cLine]; omega
  intro ea ews h3 tk3 F3 N3 l3 hIe hel
  clear kF kN
  have hnl := hIe.length
  generalize hes : t.ends = es at *
  k_steps
  unfold CallStop
  rename_i hq1 kF kN hqa hqb Dk ys hk tkk Fk Nk hk0 hkl hkc
  have hIk : IntsAre ys (es.map fun p => p / 2) := by
    have z := hkc.intsOf
    rw [List.filter_eq_self.mpr (fun _ _ => rfl)] at z
    have e : (List.map (fun a : Int => a.fdiv 2) es) = es.map fun p => p / 2 := List.map_congr_left fun a _ => Int.fdiv_eq_ediv_of_nonneg _ (by decide)
    rw [e] at z
    exact z
  have hany : (es.map fun p => p / 2).any (· == 1) = hasK es 1 := by unfold hasK; rw [List.any_map]; rfl
  obtain ⟨⟨cc, dct, dt, sl⟩, hkg, hc, nn, hd⟩ := hkl
  replace hc : cc = .type "list" := hc
  replace hd : dt = .seq ys.toArray nn := hd
  subst hc hd
  have Nk2 := News.more Fk Nk hkg (fun es n h => nomatch h) hk0
  have hal : ∀ q ∈ imm9, q ∈ (Dk, kO dct sl ys nn) :: (ea, listOf ews.toArray 0) :: (Tr, tupO (.ref pa) (.int mo' k9) 0) :: (pa, accO dx its9.toArray ex9) :: (rl, listOf hits9.toArray eh9) :: imm9 := fun q hq => by simp only [List.mem_cons, hq, or_true]
  clear kF kN hqa hqb hkc Nk hkg
  have goOn : GoOn := True.intro
  have hmoe : mo' = t.need := by rw [hmo]; have := need_pos t; simp only [List.length_nil]; rw [Int.max_def]; split <;> simp at * <;> omega
  rcases hb1 : hasK es 1
  · rw [hb1] at hany
    k_steps
    unfold CallStop
    rename_i ag hx0 hx1 fl hx2 hx3 hx4 Ff Nf
    exact law3 w (fits := [.ref ag]) (fe := 0) (imm9 := imm9) B X T Ff Nf (.head _) (by rw [hb1]; exact .cons ⟨ag, 0, _, _, rfl, .tail _ (.head _)⟩ .nil) (.tail _ (.tail _ (.head _))) hIk (.tail _ (.tail _ (.tail _ (.head _)))) hIe (by omega) (.tail _ (.tail _ (.tail _ (.tail _ (.tail _ (.head _)))))) (.tail _ (.tail _ (.tail _ (.tail _ (.tail _ (.tail _ (.head _))))))) S9 (fun q hq => .tail _ (.tail _ (hal q hq))) hK9 ht9 hok hsz hd97 hes h0 hmoe ret
  · rw [hb1] at hany
    k_steps
    unfold CallStop
    rename_i fl hx2 al hx3 Ff Nf
    exact law3 w (fits := []) (fe := 0) (imm9 := imm9) B X T Ff Nf (.head _) (by rw [hb1]; exact .nil) (.tail _ (.head _)) hIk (.tail _ (.tail _ (.head _))) hIe (by omega) (.tail _ (.tail _ (.tail _ (.tail _ (.head _))))) (.tail _ (.tail _ (.tail _ (.tail _ (.tail _ (.head _)))))) S9 (fun q hq => .tail _ (hal q hq)) hK9 ht9 hok hsz hd97 hes h0 hmoe ret
end
section
def has0 (sh : List Tm) : Prop := ∃ t ∈ sh, hasK t.ends 0 = true
theorem hasK_app (a b : List Int) (k : Int) : hasK (a ++ b) k = (hasK a k || hasK b k) := by unfold hasK; exact List.any_append
theorem has0_less {l r : Tm} {q : List Tm} (h : has0 (r :: l :: q)) : has0 (.less l r :: q) := by
  obtain ⟨t, ht, h0⟩ := h
  simp only [List.mem_cons] at ht
  rcases ht with rfl | rfl | ht
  · exact ⟨_, .head _, by rw [Tm.ends, hasK_app, h0, Bool.or_true]⟩
  · exact ⟨_, .head _, by rw [Tm.ends, hasK_app, h0, Bool.true_or]⟩
  · exact ⟨t, .tail _ ht, h0⟩
theorem has0_lett {l r : Tm} {p : Int} {q : List Tm} (h : has0 (r :: l :: q)) : has0 (.lett l r p :: q) := by
  obtain ⟨t, ht, h0⟩ := h
  simp only [List.mem_cons] at ht
  rcases ht with rfl | rfl | ht
  · exact ⟨_, .head _, by rw [Tm.ends, hasK_app, hasK_app, h0, Bool.or_true, Bool.true_or]⟩
  · exact ⟨_, .head _, by rw [Tm.ends, hasK_app, hasK_app, h0, Bool.true_or, Bool.true_or]⟩
  · exact ⟨t, .tail _ ht, h0⟩
theorem has0_cons {t : Tm} {sh : List Tm} (h : has0 sh) : has0 (t :: sh) := let ⟨x, hx, h0⟩ := h; ⟨x, .tail _ hx, h0⟩
theorem has0_step {x : Int} {sh : List Tm} (h : has0 sh) : has0 (shStep x sh) := by
  unfold shStep
  split
  · split
    · exact has0_less h
    · split
      · exact has0_lett h
      · split
        · exact has0_cons h
        · exact has0_cons h
  · split
    · exact has0_cons h
    · exact has0_cons h
theorem has0_fold (xs : List Int) : ∀ {sh : List Tm}, has0 sh → has0 (xs.foldl (fun sh x => shStep x sh) sh) := by
  induction xs with
  | nil => intro sh h; exact h
  | cons x r ih => intro sh h; exact ih (has0_step h)
theorem has0_pre : has0 (shelf preI) := by
  have e : (shelf preI).any (fun t => hasK t.ends 0) = true := by decide +kernel
  obtain ⟨t, ht, h⟩ := List.any_eq_true.mp e
  exact ⟨t, ht, h⟩
theorem has0_close : ∀ (k : Nat) {sh : List Tm}, has0 sh → has0 (closeF k sh)
  | 0, _, h => h
  | k + 1, [], h => h
  | k + 1, [_], h => h
  | k + 1, r :: l :: q, h => has0_close k (sh := .lett l r ((q.length : Int).fmod 6) :: q) (has0_lett h)
theorem term_facts {ns : List Int} {t : Tm} (hn : ns.length ≤ 8) (h : closeF 30 (shelf (preI ++ ns)) = [t]) : t.ok ∧ t.size ≤ 100 ∧ hasK t.ends 0 = true := by
  obtain ⟨h1, h2, h3⟩ := shelf_ok (preI ++ ns)
  have hl : (preI ++ ns).length ≤ 19 := by rw [List.length_append]; show 11 + ns.length ≤ 19; omega
  have h0 : has0 (shelf (preI ++ ns)) := by
    unfold shelf
    rw [List.foldl_append]
    exact has0_fold ns has0_pre
  have hne : shelf (preI ++ ns) ≠ [] := by
    obtain ⟨x, hx, _⟩ := h0
    intro e; rw [e] at hx; cases hx
  obtain ⟨t2, e2, ho, hs⟩ := closeF_ok 30 h1 hne (by omega)
  rw [h] at e2
  obtain rfl : t = t2 := by injection e2
  refine ⟨ho, by omega, ?_⟩
  have hc := has0_close 30 h0
  rw [h] at hc
  obtain ⟨x, hx, h9⟩ := hc
  rw [List.mem_singleton] at hx
  subst hx
  exact h9
end
section
theorem kwXZ2_0 : True := by
  w_top off
  k_with_none
  trivial
@[reducible] noncomputable def BL1 : List Stmt := by
  refine (fun (_ : List.drop 1 B25 = ?k) => ?k) ?h
  case h => conv => lhs; whnf
theorem tupStop {A : Around} {ps : List PySem.Expr} {k : Nat} {p pos : Pos} {e : PySem.Expr} {rest : List Stmt} {env : Env} {Q : Flow → Shared → Prop} {E : Value → Shared → Prop} {s : Shared} {w : World} (h : CallStop (wpAny (model pw w) A (execs (.Assign [.Tuple ps k p] e pos :: rest) env) Q E s)) : wpAny (model pw w) A (execs (.Assign [.Tuple ps k p] e pos :: rest) env) Q E s := h
theorem kwXZ2_1 : True := by
  k_with "execs cons" =>
    (k_here; k_dflt (refine tupStop ?_))
  trivial
theorem rowsMk {h₀ h : Heap} {L rl D0 D1 D2 : Addr} {t0 t1 t2 t3 t4 t5 : Tok} {d : Int} {rest : List (Addr × Obj)} (_N : News h₀ L h ((rl, listOf #[.ref D2, .ref D1, .ref D0] 0) :: (D0, tupO (.str (Str.ofString "Other") t0) (.str (Str.ofString "kept") t1) 0) :: (D1, tupO (.str (Str.ofString "k") t2) (.str (Str.ofString "40") t3) 0) :: (D2, tupO (.str (Str.ofString "Q\"") t4) (.str (Str.ofString (toString d)) t5) 0) :: rest)) :
    Paired (SPairAt ((D0, tupO (.str (Str.ofString "Other") t0) (.str (Str.ofString "kept") t1) 0) :: (D1, tupO (.str (Str.ofString "k") t2) (.str (Str.ofString "40") t3) 0) :: (D2, tupO (.str (Str.ofString "Q\"") t4) (.str (Str.ofString (toString d)) t5) 0) :: rest)) ((row0 d).map Rw.pr) [.ref D2, .ref D1, .ref D0] := by
  have e1 : (Rw.kv 3 d).pr = (Str.ofString "Q\"", Str.ofString (toString d)) := by
    have : nameStr 3 = Str.ofString "Q\"" := by decide +kernel
    show (nameStr 3, _) = _
    rw [this]; rfl
  have e2 : (Rw.kv 0 40).pr = (Str.ofString "k", Str.ofString "40") := by decide +kernel
  show Paired _ [(Rw.kv 3 d).pr, (Rw.kv 0 40).pr, (Str.ofString "Other", Str.ofString "kept")] _
  rw [e1, e2]
  exact .cons ⟨D2, 0, _, _, rfl, .tail _ (.tail _ (.head _))⟩ (.cons ⟨D1, 0, _, _, rfl, .tail _ (.head _)⟩ (.cons ⟨D0, 0, _, _, rfl, .head _⟩ .nil))
theorem kwXZ2_2 : True := by
  k_with "call ref" =>
    (k_here; k_dflt (refine callStop ?_))
  k_with "exec For" =>
    (k_here; k_dflt (refine callStop ?_))
  k_with "binaryOp Mod int int" =>
    (k_here; k_dflt (refine modK (by assumption) (by decide) ?_))
  trivial
theorem sumL {w : World} {A : Around} {E : Value → Shared → Prop} {s : Shared} {h₀ : Heap} {L D : Addr} {m : Str → Option Value} {news : List (Addr × Obj)} {ys : List Value} {ns : List Int} {Q : Value → Shared → Prop} (hh : A.handled = none) (F : Fr h₀ L s.heap m) (N : News h₀ L s.heap news) (hl : s.heap.IsList D ys.toArray) (hi : IntsAre ys ns)
    (h : ∀ h' tk t', Fr h₀ L h' m → News h₀ L h' news → Q (.int ns.sum t') { s with heap := h', toks := tk }) :
    wpAny (model pw w) A (call (.builtin "sum") [.ref D]) Q E s := by
  obtain ⟨xs, hx⟩ := hi.allInts.items
  have hn : numsOf ys.toArray.toList = ns := by rw [show ys.toArray.toList = ys from rfl, hi.numsOf]
  rw [hx] at hl hn
  rw [nums_intItems] at hn
  refine sum_intListG hh hl fun h' tk t' hk => ?_
  have := h h' tk t' (F.keeps hk) (N.grown hk)
  rw [preSum_eq, List.take_of_length_le (by simp), hn]
  exact this
theorem ne8 {rl ha dx a b c d e f g : Addr} {oh ox o1 o2 o3 o4 o5 o6 o7 : Obj} {news' : List (Addr × Obj)} (h : a < rl ∧ b < rl ∧ c < rl ∧ d < rl ∧ e < rl ∧ f < rl ∧ g < rl ∧ AllLt rl news') (h1 : rl < dx) (h2 : dx < ha) : ∀ p ∈ (ha, oh) :: (dx, ox) :: (a, o1) :: (b, o2) :: (c, o3) :: (d, o4) :: (e, o5) :: (f, o6) :: (g, o7) :: news', p.1 ≠ rl := by
  obtain ⟨ha1, hb, hc, hd, he, hf, hg, hn⟩ := h
  exact List.forall_mem_cons.mpr ⟨Ne.symm (Nat.ne_of_lt (Nat.lt_trans h1 h2)), List.forall_mem_cons.mpr ⟨Ne.symm (Nat.ne_of_lt h1), List.forall_mem_cons.mpr ⟨Nat.ne_of_lt ha1, List.forall_mem_cons.mpr ⟨Nat.ne_of_lt hb, List.forall_mem_cons.mpr ⟨Nat.ne_of_lt hc, List.forall_mem_cons.mpr ⟨Nat.ne_of_lt hd, List.forall_mem_cons.mpr ⟨Nat.ne_of_lt he, List.forall_mem_cons.mpr ⟨Nat.ne_of_lt hf, List.forall_mem_cons.mpr ⟨Nat.ne_of_lt hg, fun p hp => Nat.ne_of_lt (of_allLt hn p hp)⟩⟩⟩⟩⟩⟩⟩⟩⟩
theorem law1 (w : World) {p : Program} {loose : List Str} {mean : ExcName → Option Value} {mg mb : Str → Option Value} {h₀ : Heap} {L fa sc D : Addr} {cd : Value} {s : Shared} {Q : Flow → Shared → Prop} {E : Value → Shared → Prop} {ws : List Value} {ns : List Int}
    (B : Below callerA h₀ [] h₀) (X : (heapK w.params).In h₀) (T : Top p loose mean mg mb h₀)
    (F : Fr h₀ L s.heap (fun y => if y = Str.ofString "numbers" then some (.ref D) else List.lookup y [(Str.ofString "script", Value.ref sc)].reverse)) (N : News h₀ L s.heap [(D, listOf ws.toArray 0)]) (hI : IntsAre ws ns) (hn : ns.length ≤ 8)
    (ret : ∀ h tk m, Fr h₀ L h m → Q (.ret (.bool true)) { s with heap := h, toks := tk }) :
    wpAny (model pw w) (callerA.deeper (envOf lawD.name lawD.scope L fa cd)) (execs BL1 (envOf lawD.name lawD.scope L fa cd)) Q E s := by
  have hwl := hI.length
  k_steps
  unfold CallStop
  refine Fn.use (hd := none) (term_fn w D ws 0 ns 0 _ (.head _) hI hn) B F X N T rfl rfl ?_ ?_ ?_
  · decide
  · decide
  rintro r news' h' tk' F1 N1 ⟨hsub, t, hcl, ht⟩
  have N2 : News h₀ L h' ((D, listOf ws.toArray 0) :: news') := fun q hq => N1 q (by rcases List.mem_cons.mp hq with rfl | hq; exact hsub _ (.head _); exact hq)
  clear F N N1 hsub
  k_steps
  rename CarriedAll _ _ => hc
  rename Heap.IsList _ _ _ => hl
  rename Fr _ _ _ _ => kF
  rename News _ _ _ _ => kN
  refine sumL rfl kF kN hl hc.intsOf ?_
  intro h9 tk9 t9 F9 N9
  clear kF kN hl
  generalize (List.map (fun a : Int => a.fmod 97) (List.filter (fun _ => true) ns)).sum = S at hc ⊢
  obtain ⟨d, hd⟩ : ∃ d, (11 + S).fmod 97 = d := ⟨_, rfl⟩
  have hd97 : 0 ≤ d ∧ d < 97 := hd ▸ fmod_n97 _
  obtain ⟨hd0, hd1⟩ := id hd97
  clear hc
  k_steps
  unfold CallStop
  rename Fr _ _ _ _ => kF
  rename News _ _ _ _ => kN
  rename _ ∧ _ => l9
  rename_i D4 _ _ D3 _ _ kn _ _ _ D2 _ _ D1 _ _ D0 _ _ rl _
  have hP := rowsMk kN
  have hrows : ∀ r ∈ (row0 d).map Rw.pr, cleanIn code1 r.1 = true ∧ r.1.cps.size ≤ 1000 ∧ cleanIn code2 r.2 = true ∧ r.2.cps.size ≤ 1000 := by
    intro r hr
    obtain ⟨x, hx, rfl⟩ := List.mem_map.mp hr
    have h3 : p6 3 := ⟨by decide, by decide⟩
    have h0 : p6 0 := ⟨by decide, by decide⟩
    have h40 : n97 40 := ⟨by decide, by decide⟩
    have a1 := name_ok h3
    have a2 := show_ok hd97
    have a3 := name_ok h0
    have a4 := show_ok h40
    simp only [row0, List.mem_cons, List.not_mem_nil, or_false] at hx
    rcases hx with rfl | rfl | rfl
    · exact ⟨a1.own, a1.sz, a2.1, a2.2.1⟩
    · exact ⟨a3.own, a3.sz, a4.1, a4.2.1⟩
    · exact ⟨by decide +kernel, by decide +kernel, by decide +kernel, by decide +kernel⟩
  refine call_cls kF X kN (by k_is) (by k_is) (by k_is) ?_
  intro ha dx h8 F8 N8 hap8 hlt8
  refine init_fn w none ha dx rl ((row0 d).map Rw.pr) _ (.inl rfl) ⟨_, 0, .head _, hP.mono fun _ _ z => z.mono fun q hq => .tail _ hq⟩ hap8 hlt8 hrows B F8 X N8 T rfl rfl ?_ ?_ ?_
  · exact Nat.le_of_ble_eq_true rfl
  · exact Nat.le_of_ble_eq_true rfl
  intro hsh8 n8 tk8 h7 tk7 F7 N7
  refine ⟨rfl, ?_⟩
  clear kF kN hrows F8 N8
  have hrd := hap8 (rl, listOf #[.ref D2, .ref D1, .ref D0] 0) (.head _)
  obtain ⟨hok, hsz, h0⟩ := term_facts hn hcl
  k_steps
  unfold CallStop
  rename Fr _ _ _ _ => kF
  rename News _ _ _ _ => kN
  refine law2 w (hits := [.ref D2, .ref D1, .ref D0]) (imm := (ha, instObj 171 dx) :: (dx, dictOf [⟨hsh8, .str (Str.ofString "_headers") tk8, .ref rl⟩] n8) :: _) B X T kF (fun q hq => kN q ?_) (hP.mono fun _ _ z => z.mono fun q hq => .tail _ (.tail _ hq)) ⟨dx, hsh8, n8, tk8, .head _, .tail _ (.head _)⟩ (ne8 l9 hrd hlt8) ?_ ?_ hok hsz hd97 h0 ret
  · simp only [List.mem_cons] at hq ⊢
    rcases hq with h | h | h | h
    · exact .inr (.inr (.inl h))
    · exact .inl h
    · exact .inr (.inl h)
    · exact .inr (.inr (.inr h))
  · exact ⟨kn, [.ref D4, .ref D3], 0, rfl, .tail _ (.tail _ (.tail _ (.tail _ (.tail _ (.head _))))), .cons ⟨D4, 0, _, _, rfl, .tail _ (.tail _ (.tail _ (.tail _ (.tail _ (.tail _ (.tail _ (.head _)))))))⟩ (.cons ⟨D3, 0, _, _, rfl, .tail _ (.tail _ (.tail _ (.tail _ (.tail _ (.tail _ (.head _))))))⟩ .nil)⟩
  · exact ht.mono fun q hq => by simp only [List.mem_cons, hq, or_true]
end
section
theorem kwXZ1_0 : True := by
  w_top off
  k_with_none
  trivial
theorem termStop {A : Around} {p pos : Pos} {e : PySem.Expr} {rest : List Stmt} {env : Env} {Q : Flow → Shared → Prop} {E : Value → Shared → Prop} {s : Shared} {w : World} (h : CallStop (wpAny (model pw w) A (execs (.Assign [.Name (Str.ofString "term") p] e pos :: rest) env) Q E s)) : wpAny (model pw w) A (execs (.Assign [.Name (Str.ofString "term") p] e pos :: rest) env) Q E s := h
theorem kwXZ1_1 : True := by
  k_with "execs cons" =>
    (k_here; k_dflt (refine termStop ?_))
  trivial
theorem cw : PySem.Challenge.rw_xn0023_01.Holds := hd (by
  w_strict (
    k_go0
    k_steps
    unfold CallStop
    rename Top _ _ _ _ _ _ => kT
    rename Below _ _ _ _ => kB
    rename Frag.In _ _ => kX
    rename Fr _ _ _ _ => kF
    rename News _ _ _ _ => kN
    rename IntsAre _ (List.take 8 _) => kI
    refine law1 _ kB kX kT kF kN kI (List.length_take_le _ _) ?_
    intro h9 tk9 m9 F9
    show GoodW _ _ _ _ _ (.ok (.ret (.bool true))) _
    refine goodW_bool F9 (by assumption) (raisesW_false ?_) ?_
    · wrow_none_raised
    · wrow_post))
end
end Mine
theorem PySem.Challenge.cw_xn0023_01_holds : PySem.Challenge.rw_xn0023_01.Holds :=
  Mine.cw
