/-
  NARROWER THAN 'FOR EVERY INPUT', by the rows' own cells (each row's printed sentence says how): FnToNTT: laid · FnFromNTT: laid · FnNTTLinear: laid · FnT1Hat: ifaces, laid · FnNTTBack: laid · FnNTTProduct: laid.
  DERIVED. THE GIVEN ROWS OF THIS SEAT. 6 by the template 'for every input the law returns true; each argument reads behind the call as it read before'; 0 by the template 'total and deterministic' (their statements: YtpfabgmoadljnaaDoorTotals.lean).
  GIVEN WITH THE SEED: the statements are not yours to turn. If you find one false, say at which input.
  Laid BY PROGRAM, IN A SANDBOX (cutbox-rows.mjs): the forced cells as the released guide's own fill.sh prints them over the translation d1db51ead5499a59… (all of the seat's roots in one cut). By AI agents, Wed Nov 11 2026. No macro, syntax, notation, axiom, sorry.
-/
import Derived.Test.YtpfabgmoadljnaaDoorChecked
import GoSem.Claim
import GoSem.ClaimJoined
import GoSem.ClaimMapViews
import Derived.JoinedTies
import Derived.KernelRfl
namespace Go.Proofs.YtpfabgmoadljnaaDoor
/- THE CELL 'sum', in the pinned program and in every row, IS THE sha256 OF THE DUMP (.gsa) THAT YtpfabgmoadljnaaDoorProg.lean LOADS. Nothing in Lean hashes anything: it is a label: what it is worth is what the hold of that sum in a sandbox is worth. -/
noncomputable def Tryd.pinned : Pinned := { name := "ytpfabgmoadljnaadoor", sum := "d1db51ead5499a59ecde57565e5c0fe8af762e3d8e69b6a5d9a00d58be228e31", checked := Tryd.checked }
namespace Rows
def none {H : Type} : Left H := { results := [], args := [] }

/- WHAT THE LISTED PACKAGE-LEVEL VARIABLES READ AS WHEN THE CALL BEGINS. Each datum BY PROGRAM (the guide's laid-datum.mjs) off the statement by which the dump's own 'gosem.cut.vars' lays the variable. In a bare row this is a premise. The card (YtpfabgmoadljnaaDoorCards.lean) ties it to the program's text. -/
def laid_loop_example_pub_g03236_pub_mldsa_zetas {H : Type} : DataW H := .agg [.lit (.int .u32 4193792), .lit (.int .u32 25847), .lit (.int .u32 5771523), .lit (.int .u32 7861508), .lit (.int .u32 237124), .lit (.int .u32 7602457), .lit (.int .u32 7504169), .lit (.int .u32 466468), .lit (.int .u32 1826347), .lit (.int .u32 2353451), .lit (.int .u32 8021166), .lit (.int .u32 6288512), .lit (.int .u32 3119733), .lit (.int .u32 5495562), .lit (.int .u32 3111497), .lit (.int .u32 2680103), .lit (.int .u32 2725464), .lit (.int .u32 1024112), .lit (.int .u32 7300517), .lit (.int .u32 3585928), .lit (.int .u32 7830929), .lit (.int .u32 7260833), .lit (.int .u32 2619752), .lit (.int .u32 6271868), .lit (.int .u32 6262231), .lit (.int .u32 4520680), .lit (.int .u32 6980856), .lit (.int .u32 5102745), .lit (.int .u32 1757237), .lit (.int .u32 8360995), .lit (.int .u32 4010497), .lit (.int .u32 280005), .lit (.int .u32 2706023), .lit (.int .u32 95776), .lit (.int .u32 3077325), .lit (.int .u32 3530437), .lit (.int .u32 6718724), .lit (.int .u32 4788269), .lit (.int .u32 5842901), .lit (.int .u32 3915439), .lit (.int .u32 4519302), .lit (.int .u32 5336701), .lit (.int .u32 3574422), .lit (.int .u32 5512770), .lit (.int .u32 3539968), .lit (.int .u32 8079950), .lit (.int .u32 2348700), .lit (.int .u32 7841118), .lit (.int .u32 6681150), .lit (.int .u32 6736599), .lit (.int .u32 3505694), .lit (.int .u32 4558682), .lit (.int .u32 3507263), .lit (.int .u32 6239768), .lit (.int .u32 6779997), .lit (.int .u32 3699596), .lit (.int .u32 811944), .lit (.int .u32 531354), .lit (.int .u32 954230), .lit (.int .u32 3881043), .lit (.int .u32 3900724), .lit (.int .u32 5823537), .lit (.int .u32 2071892), .lit (.int .u32 5582638), .lit (.int .u32 4450022), .lit (.int .u32 6851714), .lit (.int .u32 4702672), .lit (.int .u32 5339162), .lit (.int .u32 6927966), .lit (.int .u32 3475950), .lit (.int .u32 2176455), .lit (.int .u32 6795196), .lit (.int .u32 7122806), .lit (.int .u32 1939314), .lit (.int .u32 4296819), .lit (.int .u32 7380215), .lit (.int .u32 5190273), .lit (.int .u32 5223087), .lit (.int .u32 4747489), .lit (.int .u32 126922), .lit (.int .u32 3412210), .lit (.int .u32 7396998), .lit (.int .u32 2147896), .lit (.int .u32 2715295), .lit (.int .u32 5412772), .lit (.int .u32 4686924), .lit (.int .u32 7969390), .lit (.int .u32 5903370), .lit (.int .u32 7709315), .lit (.int .u32 7151892), .lit (.int .u32 8357436), .lit (.int .u32 7072248), .lit (.int .u32 7998430), .lit (.int .u32 1349076), .lit (.int .u32 1852771), .lit (.int .u32 6949987), .lit (.int .u32 5037034), .lit (.int .u32 264944), .lit (.int .u32 508951), .lit (.int .u32 3097992), .lit (.int .u32 44288), .lit (.int .u32 7280319), .lit (.int .u32 904516), .lit (.int .u32 3958618), .lit (.int .u32 4656075), .lit (.int .u32 8371839), .lit (.int .u32 1653064), .lit (.int .u32 5130689), .lit (.int .u32 2389356), .lit (.int .u32 8169440), .lit (.int .u32 759969), .lit (.int .u32 7063561), .lit (.int .u32 189548), .lit (.int .u32 4827145), .lit (.int .u32 3159746), .lit (.int .u32 6529015), .lit (.int .u32 5971092), .lit (.int .u32 8202977), .lit (.int .u32 1315589), .lit (.int .u32 1341330), .lit (.int .u32 1285669), .lit (.int .u32 6795489), .lit (.int .u32 7567685), .lit (.int .u32 6940675), .lit (.int .u32 5361315), .lit (.int .u32 4499357), .lit (.int .u32 4751448), .lit (.int .u32 3839961), .lit (.int .u32 2091667), .lit (.int .u32 3407706), .lit (.int .u32 2316500), .lit (.int .u32 3817976), .lit (.int .u32 5037939), .lit (.int .u32 2244091), .lit (.int .u32 5933984), .lit (.int .u32 4817955), .lit (.int .u32 266997), .lit (.int .u32 2434439), .lit (.int .u32 7144689), .lit (.int .u32 3513181), .lit (.int .u32 4860065), .lit (.int .u32 4621053), .lit (.int .u32 7183191), .lit (.int .u32 5187039), .lit (.int .u32 900702), .lit (.int .u32 1859098), .lit (.int .u32 909542), .lit (.int .u32 819034), .lit (.int .u32 495491), .lit (.int .u32 6767243), .lit (.int .u32 8337157), .lit (.int .u32 7857917), .lit (.int .u32 7725090), .lit (.int .u32 5257975), .lit (.int .u32 2031748), .lit (.int .u32 3207046), .lit (.int .u32 4823422), .lit (.int .u32 7855319), .lit (.int .u32 7611795), .lit (.int .u32 4784579), .lit (.int .u32 342297), .lit (.int .u32 286988), .lit (.int .u32 5942594), .lit (.int .u32 4108315), .lit (.int .u32 3437287), .lit (.int .u32 5038140), .lit (.int .u32 1735879), .lit (.int .u32 203044), .lit (.int .u32 2842341), .lit (.int .u32 2691481), .lit (.int .u32 5790267), .lit (.int .u32 1265009), .lit (.int .u32 4055324), .lit (.int .u32 1247620), .lit (.int .u32 2486353), .lit (.int .u32 1595974), .lit (.int .u32 4613401), .lit (.int .u32 1250494), .lit (.int .u32 2635921), .lit (.int .u32 4832145), .lit (.int .u32 5386378), .lit (.int .u32 1869119), .lit (.int .u32 1903435), .lit (.int .u32 7329447), .lit (.int .u32 7047359), .lit (.int .u32 1237275), .lit (.int .u32 5062207), .lit (.int .u32 6950192), .lit (.int .u32 7929317), .lit (.int .u32 1312455), .lit (.int .u32 3306115), .lit (.int .u32 6417775), .lit (.int .u32 7100756), .lit (.int .u32 1917081), .lit (.int .u32 5834105), .lit (.int .u32 7005614), .lit (.int .u32 1500165), .lit (.int .u32 777191), .lit (.int .u32 2235880), .lit (.int .u32 3406031), .lit (.int .u32 7838005), .lit (.int .u32 5548557), .lit (.int .u32 6709241), .lit (.int .u32 6533464), .lit (.int .u32 5796124), .lit (.int .u32 4656147), .lit (.int .u32 594136), .lit (.int .u32 4603424), .lit (.int .u32 6366809), .lit (.int .u32 2432395), .lit (.int .u32 2454455), .lit (.int .u32 8215696), .lit (.int .u32 1957272), .lit (.int .u32 3369112), .lit (.int .u32 185531), .lit (.int .u32 7173032), .lit (.int .u32 5196991), .lit (.int .u32 162844), .lit (.int .u32 1616392), .lit (.int .u32 3014001), .lit (.int .u32 810149), .lit (.int .u32 1652634), .lit (.int .u32 4686184), .lit (.int .u32 6581310), .lit (.int .u32 5341501), .lit (.int .u32 3523897), .lit (.int .u32 3866901), .lit (.int .u32 269760), .lit (.int .u32 2213111), .lit (.int .u32 7404533), .lit (.int .u32 1717735), .lit (.int .u32 472078), .lit (.int .u32 7953734), .lit (.int .u32 1723600), .lit (.int .u32 6577327), .lit (.int .u32 1910376), .lit (.int .u32 6712985), .lit (.int .u32 7276084), .lit (.int .u32 8119771), .lit (.int .u32 4546524), .lit (.int .u32 5441381), .lit (.int .u32 6144432), .lit (.int .u32 7959518), .lit (.int .u32 6094090), .lit (.int .u32 183443), .lit (.int .u32 7403526), .lit (.int .u32 1612842), .lit (.int .u32 4834730), .lit (.int .u32 7826001), .lit (.int .u32 3919660), .lit (.int .u32 8332111), .lit (.int .u32 7018208), .lit (.int .u32 3937738), .lit (.int .u32 1400424), .lit (.int .u32 7534263), .lit (.int .u32 1976782)]
def laid_loop_example_pub_g03236_pub_mldsa_errUnreducedFieldElement {H : Type} : DataW H := .iface "*errors.errorString" (.ptr (.agg [.lit (.string [109, 108, 100, 115, 97, 58, 32, 117, 110, 114, 101, 100, 117, 99, 101, 100, 32, 102, 105, 101, 108, 100, 32, 101, 108, 101, 109, 101, 110, 116])]))

/-- 'laws.FnToNTT': WHATEVER THE INPUT: true; the input reads as it did. -/
def fnToNTTSpec : ChangeSpec := { name := "fnToNTT", vars := ["loop.example/pub-g03236/pub/mldsa.zetas"], fn := fun _ => fun
  | [d, g1] => { results := [.lit (.bool true)], args := [d], vars := [g1] }
  | _ => none }
def fnToNTTRow : OpenClaim := { program := "ytpfabgmoadljnaadoor", sum := "d1db51ead5499a59ecde57565e5c0fe8af762e3d8e69b6a5d9a00d58be228e31", func := "loop.example/pub-g03236/laws.FnToNTT", spec := "fnToNTT", inPlace := ["math/bits.Sub64"], named := ["loop.example/pub-g03236/pub/mldsa.zetas"], apart := false, laid := [("loop.example/pub-g03236/pub/mldsa.zetas", laid_loop_example_pub_g03236_pub_mldsa_zetas)] }
def FnToNTTSaid : Prop := fnToNTTRow.holds Tryd.pinned (OpenSpec.ofChange fnToNTTSpec)

/-- ITS FALSE NEIGHBOUR: 'it returns false'. Refute it at one input. -/
def fnToNTTWrong : ChangeSpec := { name := "fnToNTT", vars := ["loop.example/pub-g03236/pub/mldsa.zetas"], fn := fun _ => fun
  | [d, g1] => { results := [.lit (.bool false)], args := [d], vars := [g1] }
  | _ => none }
def FnToNTTWrongFalsely : Prop := fnToNTTRow.holds Tryd.pinned (OpenSpec.ofChange fnToNTTWrong)

/-- 'laws.FnFromNTT': WHATEVER THE INPUT: true; the input reads as it did. -/
def fnFromNTTSpec : ChangeSpec := { name := "fnFromNTT", vars := ["loop.example/pub-g03236/pub/mldsa.zetas"], fn := fun _ => fun
  | [d, g1] => { results := [.lit (.bool true)], args := [d], vars := [g1] }
  | _ => none }
def fnFromNTTRow : OpenClaim := { program := "ytpfabgmoadljnaadoor", sum := "d1db51ead5499a59ecde57565e5c0fe8af762e3d8e69b6a5d9a00d58be228e31", func := "loop.example/pub-g03236/laws.FnFromNTT", spec := "fnFromNTT", inPlace := ["math/bits.Sub64"], named := ["loop.example/pub-g03236/pub/mldsa.zetas"], apart := false, laid := [("loop.example/pub-g03236/pub/mldsa.zetas", laid_loop_example_pub_g03236_pub_mldsa_zetas)] }
def FnFromNTTSaid : Prop := fnFromNTTRow.holds Tryd.pinned (OpenSpec.ofChange fnFromNTTSpec)

/-- ITS FALSE NEIGHBOUR: 'it returns false'. Refute it at one input. -/
def fnFromNTTWrong : ChangeSpec := { name := "fnFromNTT", vars := ["loop.example/pub-g03236/pub/mldsa.zetas"], fn := fun _ => fun
  | [d, g1] => { results := [.lit (.bool false)], args := [d], vars := [g1] }
  | _ => none }
def FnFromNTTWrongFalsely : Prop := fnFromNTTRow.holds Tryd.pinned (OpenSpec.ofChange fnFromNTTWrong)

/-- 'laws.FnNTTLinear': WHATEVER THE INPUT: true; the input reads as it did. -/
def fnNTTLinearSpec : ChangeSpec := { name := "fnNTTLinear", vars := ["loop.example/pub-g03236/pub/mldsa.zetas"], fn := fun _ => fun
  | [d1, d2, g1] => { results := [.lit (.bool true)], args := [d1, d2], vars := [g1] }
  | _ => none }
def fnNTTLinearRow : OpenClaim := { program := "ytpfabgmoadljnaadoor", sum := "d1db51ead5499a59ecde57565e5c0fe8af762e3d8e69b6a5d9a00d58be228e31", func := "loop.example/pub-g03236/laws.FnNTTLinear", spec := "fnNTTLinear", inPlace := ["math/bits.Sub64"], named := ["loop.example/pub-g03236/pub/mldsa.zetas"], apart := false, laid := [("loop.example/pub-g03236/pub/mldsa.zetas", laid_loop_example_pub_g03236_pub_mldsa_zetas)] }
def FnNTTLinearSaid : Prop := fnNTTLinearRow.holds Tryd.pinned (OpenSpec.ofChange fnNTTLinearSpec)

/-- ITS FALSE NEIGHBOUR: 'it returns false'. Refute it at one input. -/
def fnNTTLinearWrong : ChangeSpec := { name := "fnNTTLinear", vars := ["loop.example/pub-g03236/pub/mldsa.zetas"], fn := fun _ => fun
  | [d1, d2, g1] => { results := [.lit (.bool false)], args := [d1, d2], vars := [g1] }
  | _ => none }
def FnNTTLinearWrongFalsely : Prop := fnNTTLinearRow.holds Tryd.pinned (OpenSpec.ofChange fnNTTLinearWrong)

/-- 'laws.FnT1Hat': WHATEVER THE INPUT: true; the input reads as it did. -/
def fnT1HatSpec : ChangeSpec := { name := "fnT1Hat", vars := ["loop.example/pub-g03236/pub/mldsa.errUnreducedFieldElement", "loop.example/pub-g03236/pub/mldsa.zetas"], fn := fun _ => fun
  | [d, g1, g2] => { results := [.lit (.bool true)], args := [d], vars := [g1, g2] }
  | _ => none }
def fnT1HatRow : OpenClaim := { program := "ytpfabgmoadljnaadoor", sum := "d1db51ead5499a59ecde57565e5c0fe8af762e3d8e69b6a5d9a00d58be228e31", func := "loop.example/pub-g03236/laws.FnT1Hat", spec := "fnT1Hat", inPlace := ["math/bits.Sub64"], named := ["loop.example/pub-g03236/pub/mldsa.errUnreducedFieldElement", "loop.example/pub-g03236/pub/mldsa.zetas"], ifaces := true, apart := false, laid := [("loop.example/pub-g03236/pub/mldsa.errUnreducedFieldElement", laid_loop_example_pub_g03236_pub_mldsa_errUnreducedFieldElement), ("loop.example/pub-g03236/pub/mldsa.zetas", laid_loop_example_pub_g03236_pub_mldsa_zetas)] }
def FnT1HatSaid : Prop := fnT1HatRow.holds Tryd.pinned (OpenSpec.ofChange fnT1HatSpec)

/-- ITS FALSE NEIGHBOUR: 'it returns false'. Refute it at one input. -/
def fnT1HatWrong : ChangeSpec := { name := "fnT1Hat", vars := ["loop.example/pub-g03236/pub/mldsa.errUnreducedFieldElement", "loop.example/pub-g03236/pub/mldsa.zetas"], fn := fun _ => fun
  | [d, g1, g2] => { results := [.lit (.bool false)], args := [d], vars := [g1, g2] }
  | _ => none }
def FnT1HatWrongFalsely : Prop := fnT1HatRow.holds Tryd.pinned (OpenSpec.ofChange fnT1HatWrong)

/-- 'laws.FnNTTBack': WHATEVER THE INPUT: true; the input reads as it did. -/
def fnNTTBackSpec : ChangeSpec := { name := "fnNTTBack", vars := ["loop.example/pub-g03236/pub/mldsa.zetas"], fn := fun _ => fun
  | [d, g1] => { results := [.lit (.bool true)], args := [d], vars := [g1] }
  | _ => none }
def fnNTTBackRow : OpenClaim := { program := "ytpfabgmoadljnaadoor", sum := "d1db51ead5499a59ecde57565e5c0fe8af762e3d8e69b6a5d9a00d58be228e31", func := "loop.example/pub-g03236/laws.FnNTTBack", spec := "fnNTTBack", inPlace := ["math/bits.Sub64"], named := ["loop.example/pub-g03236/pub/mldsa.zetas"], apart := false, laid := [("loop.example/pub-g03236/pub/mldsa.zetas", laid_loop_example_pub_g03236_pub_mldsa_zetas)] }
def FnNTTBackSaid : Prop := fnNTTBackRow.holds Tryd.pinned (OpenSpec.ofChange fnNTTBackSpec)

/-- ITS FALSE NEIGHBOUR: 'it returns false'. Refute it at one input. -/
def fnNTTBackWrong : ChangeSpec := { name := "fnNTTBack", vars := ["loop.example/pub-g03236/pub/mldsa.zetas"], fn := fun _ => fun
  | [d, g1] => { results := [.lit (.bool false)], args := [d], vars := [g1] }
  | _ => none }
def FnNTTBackWrongFalsely : Prop := fnNTTBackRow.holds Tryd.pinned (OpenSpec.ofChange fnNTTBackWrong)

/-- 'laws.FnNTTProduct': WHATEVER THE INPUT: true; the input reads as it did. -/
def fnNTTProductSpec : ChangeSpec := { name := "fnNTTProduct", vars := ["loop.example/pub-g03236/pub/mldsa.zetas"], fn := fun _ => fun
  | [d1, d2, g1] => { results := [.lit (.bool true)], args := [d1, d2], vars := [g1] }
  | _ => none }
def fnNTTProductRow : OpenClaim := { program := "ytpfabgmoadljnaadoor", sum := "d1db51ead5499a59ecde57565e5c0fe8af762e3d8e69b6a5d9a00d58be228e31", func := "loop.example/pub-g03236/laws.FnNTTProduct", spec := "fnNTTProduct", inPlace := ["math/bits.Sub64"], named := ["loop.example/pub-g03236/pub/mldsa.zetas"], apart := false, laid := [("loop.example/pub-g03236/pub/mldsa.zetas", laid_loop_example_pub_g03236_pub_mldsa_zetas)] }
def FnNTTProductSaid : Prop := fnNTTProductRow.holds Tryd.pinned (OpenSpec.ofChange fnNTTProductSpec)

/-- ITS FALSE NEIGHBOUR: 'it returns false'. Refute it at one input. -/
def fnNTTProductWrong : ChangeSpec := { name := "fnNTTProduct", vars := ["loop.example/pub-g03236/pub/mldsa.zetas"], fn := fun _ => fun
  | [d1, d2, g1] => { results := [.lit (.bool false)], args := [d1, d2], vars := [g1] }
  | _ => none }
def FnNTTProductWrongFalsely : Prop := fnNTTProductRow.holds Tryd.pinned (OpenSpec.ofChange fnNTTProductWrong)

/- THE SECOND FORM. 'bulk': how many values and letters a reading holds, each counted each time it is reached (what is shared counts as often as it is met; a slice's spare places count too). A statement '..UptoSaid' is the law's where the arguments, and the package variables that the reading takes, are together of bulk at most 1048576: NARROWER than '..Said'. Prove '..Said' where nothing that the law and all that it calls make is longer than what came in: it says more and counts as full. Else prove '..UptoSaid'. A law counts once. -/
mutual
def uptoBulk {H : Type} : DataW H → Nat
  | .lit (.string bytes) => bytes.length + 1
  | .lit _ => 1
  | .nil => 1
  | .ptr d => uptoBulk d + 1
  | .slice elems spare => uptoBulkAll elems + uptoBulkAll spare + 1
  | .agg parts => uptoBulkAll parts + 1
  | .iface _ d => uptoBulk d + 1
  | .map entries => uptoBulkEntries entries + 1
  | .held _ => 1
def uptoBulkAll {H : Type} : List (DataW H) → Nat
  | [] => 0
  | d :: r => uptoBulk d + uptoBulkAll r
def uptoBulkEntries {H : Type} : List (Lit × DataW H) → Nat
  | [] => 0
  | x :: r => uptoBulkEntry x + uptoBulkEntries r
def uptoBulkEntry {H : Type} : Lit × DataW H → Nat
  | (.string bytes, d) => bytes.length + uptoBulk d + 1
  | (_, d) => uptoBulk d + 1
 end
def uptoSmall : (H : Type) → List (DataW H) → Bool := fun _ ds => decide (uptoBulkAll ds ≤ 1048576)
def OpenSpec.upto (s : _root_.Go.ChangeSpec) : _root_.Go.OpenSpec := { _root_.Go.OpenSpec.ofChange s with cond := some uptoSmall }

/-- 'laws.FnToNTT', WHERE WHAT IT READS IS OF BULK AT MOST 1048576: true; the input reads as it did. -/
def fnToNTTUptoRow : OpenClaim := { program := "ytpfabgmoadljnaadoor", sum := "d1db51ead5499a59ecde57565e5c0fe8af762e3d8e69b6a5d9a00d58be228e31", func := "loop.example/pub-g03236/laws.FnToNTT", spec := "fnToNTT", inPlace := ["math/bits.Sub64"], named := ["loop.example/pub-g03236/pub/mldsa.zetas"], apart := false, laid := [("loop.example/pub-g03236/pub/mldsa.zetas", laid_loop_example_pub_g03236_pub_mldsa_zetas)], narrowed := true }
def FnToNTTUptoSaid : Prop := fnToNTTUptoRow.holds Tryd.pinned (OpenSpec.upto fnToNTTSpec)

/-- 'laws.FnFromNTT', WHERE WHAT IT READS IS OF BULK AT MOST 1048576: true; the input reads as it did. -/
def fnFromNTTUptoRow : OpenClaim := { program := "ytpfabgmoadljnaadoor", sum := "d1db51ead5499a59ecde57565e5c0fe8af762e3d8e69b6a5d9a00d58be228e31", func := "loop.example/pub-g03236/laws.FnFromNTT", spec := "fnFromNTT", inPlace := ["math/bits.Sub64"], named := ["loop.example/pub-g03236/pub/mldsa.zetas"], apart := false, laid := [("loop.example/pub-g03236/pub/mldsa.zetas", laid_loop_example_pub_g03236_pub_mldsa_zetas)], narrowed := true }
def FnFromNTTUptoSaid : Prop := fnFromNTTUptoRow.holds Tryd.pinned (OpenSpec.upto fnFromNTTSpec)

/-- 'laws.FnNTTLinear', WHERE WHAT IT READS IS OF BULK AT MOST 1048576: true; the input reads as it did. -/
def fnNTTLinearUptoRow : OpenClaim := { program := "ytpfabgmoadljnaadoor", sum := "d1db51ead5499a59ecde57565e5c0fe8af762e3d8e69b6a5d9a00d58be228e31", func := "loop.example/pub-g03236/laws.FnNTTLinear", spec := "fnNTTLinear", inPlace := ["math/bits.Sub64"], named := ["loop.example/pub-g03236/pub/mldsa.zetas"], apart := false, laid := [("loop.example/pub-g03236/pub/mldsa.zetas", laid_loop_example_pub_g03236_pub_mldsa_zetas)], narrowed := true }
def FnNTTLinearUptoSaid : Prop := fnNTTLinearUptoRow.holds Tryd.pinned (OpenSpec.upto fnNTTLinearSpec)

/-- 'laws.FnT1Hat', WHERE WHAT IT READS IS OF BULK AT MOST 1048576: true; the input reads as it did. -/
def fnT1HatUptoRow : OpenClaim := { program := "ytpfabgmoadljnaadoor", sum := "d1db51ead5499a59ecde57565e5c0fe8af762e3d8e69b6a5d9a00d58be228e31", func := "loop.example/pub-g03236/laws.FnT1Hat", spec := "fnT1Hat", inPlace := ["math/bits.Sub64"], named := ["loop.example/pub-g03236/pub/mldsa.errUnreducedFieldElement", "loop.example/pub-g03236/pub/mldsa.zetas"], ifaces := true, apart := false, laid := [("loop.example/pub-g03236/pub/mldsa.errUnreducedFieldElement", laid_loop_example_pub_g03236_pub_mldsa_errUnreducedFieldElement), ("loop.example/pub-g03236/pub/mldsa.zetas", laid_loop_example_pub_g03236_pub_mldsa_zetas)], narrowed := true }
def FnT1HatUptoSaid : Prop := fnT1HatUptoRow.holds Tryd.pinned (OpenSpec.upto fnT1HatSpec)

/-- 'laws.FnNTTBack', WHERE WHAT IT READS IS OF BULK AT MOST 1048576: true; the input reads as it did. -/
def fnNTTBackUptoRow : OpenClaim := { program := "ytpfabgmoadljnaadoor", sum := "d1db51ead5499a59ecde57565e5c0fe8af762e3d8e69b6a5d9a00d58be228e31", func := "loop.example/pub-g03236/laws.FnNTTBack", spec := "fnNTTBack", inPlace := ["math/bits.Sub64"], named := ["loop.example/pub-g03236/pub/mldsa.zetas"], apart := false, laid := [("loop.example/pub-g03236/pub/mldsa.zetas", laid_loop_example_pub_g03236_pub_mldsa_zetas)], narrowed := true }
def FnNTTBackUptoSaid : Prop := fnNTTBackUptoRow.holds Tryd.pinned (OpenSpec.upto fnNTTBackSpec)

/-- 'laws.FnNTTProduct', WHERE WHAT IT READS IS OF BULK AT MOST 1048576: true; the input reads as it did. -/
def fnNTTProductUptoRow : OpenClaim := { program := "ytpfabgmoadljnaadoor", sum := "d1db51ead5499a59ecde57565e5c0fe8af762e3d8e69b6a5d9a00d58be228e31", func := "loop.example/pub-g03236/laws.FnNTTProduct", spec := "fnNTTProduct", inPlace := ["math/bits.Sub64"], named := ["loop.example/pub-g03236/pub/mldsa.zetas"], apart := false, laid := [("loop.example/pub-g03236/pub/mldsa.zetas", laid_loop_example_pub_g03236_pub_mldsa_zetas)], narrowed := true }
def FnNTTProductUptoSaid : Prop := fnNTTProductUptoRow.holds Tryd.pinned (OpenSpec.upto fnNTTProductSpec)

end Rows
end Go.Proofs.YtpfabgmoadljnaaDoor
