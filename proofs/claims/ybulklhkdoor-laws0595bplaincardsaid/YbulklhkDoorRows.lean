/-
  NARROWER THAN 'FOR EVERY INPUT', by the rows' own cells (each row's printed sentence says how): LawS0595BPlain: ifaces, laid.
  DERIVED. THE GIVEN ROWS OF THIS SEAT. 1 by the template 'for every input the law returns true; each argument reads behind the call as it read before'; 0 by the template 'total and deterministic' (their statements: YbulklhkDoorTotals.lean).
  GIVEN WITH THE SEED: the statements are not yours to turn. If you find one false, say at which input.
  Laid BY PROGRAM, IN A SANDBOX (cutbox-rows.mjs): the forced cells as the released guide's own fill.sh prints them over the translation c85c337ec73a993e… (all of the seat's roots in one cut). By AI agents, Wed Nov 11 2026. No macro, syntax, notation, axiom, sorry.
-/
import Derived.Test.YbulklhkDoorChecked
import GoSem.Claim
import GoSem.ClaimJoined
import GoSem.ClaimMapViews
import Derived.JoinedTies
import Derived.KernelRfl
namespace Go.Proofs.YbulklhkDoor
/- THE CELL 'sum', in the pinned program and in every row, IS THE sha256 OF THE DUMP (.gsa) THAT YbulklhkDoorProg.lean LOADS. Nothing in Lean hashes anything: it is a label: what it is worth is what the hold of that sum in a sandbox is worth. -/
noncomputable def Ybad.pinned : Pinned := { name := "ybulklhkdoor", sum := "c85c337ec73a993ee872d779363967a97fc929230e5dea8f6a84ff508d98eac5", checked := Ybad.checked }
namespace Rows
def none {H : Type} : Left H := { results := [], args := [] }

/- WHAT THE LISTED PACKAGE-LEVEL VARIABLES READ AS WHEN THE CALL BEGINS. Each datum BY PROGRAM (the guide's laid-datum.mjs) off the statement by which the dump's own 'gosem.cut.vars' lays the variable. In a bare row this is a premise. The card (YbulklhkDoorCards.lean) ties it to the program's text. -/
def laid_math_pow10tab {H : Type} : DataW H := .agg [.lit (.float .f64 4607182418800017408), .lit (.float .f64 4621819117588971520), .lit (.float .f64 4636737291354636288), .lit (.float .f64 4652007308841189376), .lit (.float .f64 4666723172467343360), .lit (.float .f64 4681608360884174848), .lit (.float .f64 4696837146684686336), .lit (.float .f64 4711630319722168320), .lit (.float .f64 4726483295884279808), .lit (.float .f64 4741671816366391296), .lit (.float .f64 4756540486875873280), .lit (.float .f64 4771362005757984768), .lit (.float .f64 4786511204640096256), .lit (.float .f64 4801453603149578240), .lit (.float .f64 4816244402031689728), .lit (.float .f64 4831355200913801216), .lit (.float .f64 4846369599423283200), .lit (.float .f64 4861130398305394688), .lit (.float .f64 4876203697187506176), .lit (.float .f64 4891288408196988160), .lit (.float .f64 4906019910204099648), .lit (.float .f64 4921056587992461136), .lit (.float .f64 4936209963552724370), .lit (.float .f64 4950912855330343670), .lit (.float .f64 4965913770331839924), .lit (.float .f64 4981134201117475473), .lit (.float .f64 4995809153217856309), .lit (.float .f64 5010775143622804482), .lit (.float .f64 5026061058026967681), .lit (.float .f64 5040708725286295329), .lit (.float .f64 5055640609639927018), .lit (.float .f64 5070927765361438756)]
def laid_math_pow10postab32 {H : Type} : DataW H := .agg [.lit (.float .f64 4607182418800017408), .lit (.float .f64 5085611494797045271), .lit (.float .f64 5564284217833028085), .lit (.float .f64 6043257259031049059), .lit (.float .f64 6521906365687930162), .lit (.float .f64 7000496887210966211), .lit (.float .f64 7479368607221621995), .lit (.float .f64 7958223736346011545), .lit (.float .f64 8436737289693151036), .lit (.float .f64 8915514139102383430)]
def laid_math_pow10negtab32 {H : Type} : DataW H := .agg [.lit (.float .f64 4607182418800017408), .lit (.float .f64 4128101167230658355), .lit (.float .f64 3649340653511681853), .lit (.float .f64 3170840353250979498), .lit (.float .f64 2691949749288605597), .lit (.float .f64 2213095475689254516), .lit (.float .f64 1734519108376626298), .lit (.float .f64 1255832114822727210), .lit (.float .f64 776877706278891331), .lit (.float .f64 298220099847875929), .lit (.float .f64 2024)]
def laid_example_com_tideline_tideline_internal_store_ErrCorrupt {H : Type} : DataW H := .iface "*errors.errorString" (.ptr (.agg [.lit (.string [116, 104, 101, 32, 100, 97, 116, 97, 32, 100, 105, 114, 101, 99, 116, 111, 114, 121, 32, 105, 115, 32, 99, 111, 114, 114, 117, 112, 116])]))
def laid_example_com_tideline_tideline_internal_store_rangeCodes {H : Type} : DataW H := .agg [.agg [.lit (.int .u8 0), .lit (.int .u8 0), .lit (.int .u8 0), .lit (.int .u8 0), .lit (.int .u8 0), .lit (.int .u8 0), .lit (.int .u8 0), .lit (.int .u8 0)], .agg [.lit (.int .u8 4), .lit (.int .u8 4), .lit (.int .u8 4), .lit (.int .u8 4), .lit (.int .u8 5), .lit (.int .u8 5), .lit (.int .u8 5), .lit (.int .u8 5)], .agg [.lit (.int .u8 4), .lit (.int .u8 4), .lit (.int .u8 4), .lit (.int .u8 4), .lit (.int .u8 9), .lit (.int .u8 9), .lit (.int .u8 10), .lit (.int .u8 10)], .agg [.lit (.int .u8 4), .lit (.int .u8 4), .lit (.int .u8 4), .lit (.int .u8 4), .lit (.int .u8 9), .lit (.int .u8 9), .lit (.int .u8 14), .lit (.int .u8 15)], .agg [.lit (.int .u8 8), .lit (.int .u8 8), .lit (.int .u8 9), .lit (.int .u8 9), .lit (.int .u8 10), .lit (.int .u8 10), .lit (.int .u8 11), .lit (.int .u8 11)]]

/-- 'store.LawS0595BPlain': WHATEVER THE INPUT: true; the input reads as it did. -/
def lawS0595BPlainSpec : ChangeSpec := { name := "lawS0595BPlain", vars := ["example.com/tideline/tideline/internal/store.ErrCorrupt", "example.com/tideline/tideline/internal/store.rangeCodes"], fn := fun _ => fun
  | [d1, d2, d3, d4, g1, g2] => { results := [.lit (.bool true)], args := [d1, d2, d3, d4], vars := [g1, g2] }
  | _ => none }
def lawS0595BPlainRow : OpenClaim := { program := "ybulklhkdoor", sum := "c85c337ec73a993ee872d779363967a97fc929230e5dea8f6a84ff508d98eac5", func := "example.com/tideline/tideline/internal/store.LawS0595BPlain", spec := "lawS0595BPlain", inPlace := ["math.Float64frombits", "math.Float64bits"], recurses := true, named := ["example.com/tideline/tideline/internal/store.ErrCorrupt", "encoding/binary.BigEndian", "math.pow10postab32", "math.pow10tab", "math.pow10negtab32", "encoding/binary.LittleEndian", "example.com/tideline/tideline/internal/store.rangeCodes"], ifaces := true, apart := false, laid := [("math.pow10tab", laid_math_pow10tab), ("math.pow10postab32", laid_math_pow10postab32), ("math.pow10negtab32", laid_math_pow10negtab32), ("example.com/tideline/tideline/internal/store.ErrCorrupt", laid_example_com_tideline_tideline_internal_store_ErrCorrupt), ("example.com/tideline/tideline/internal/store.rangeCodes", laid_example_com_tideline_tideline_internal_store_rangeCodes)] }
def LawS0595BPlainSaid : Prop := lawS0595BPlainRow.holds Ybad.pinned (OpenSpec.ofChange lawS0595BPlainSpec)

/-- ITS FALSE NEIGHBOUR: 'it returns false'. Refute it at one input. -/
def lawS0595BPlainWrong : ChangeSpec := { name := "lawS0595BPlain", vars := ["example.com/tideline/tideline/internal/store.ErrCorrupt", "example.com/tideline/tideline/internal/store.rangeCodes"], fn := fun _ => fun
  | [d1, d2, d3, d4, g1, g2] => { results := [.lit (.bool false)], args := [d1, d2, d3, d4], vars := [g1, g2] }
  | _ => none }
def LawS0595BPlainWrongFalsely : Prop := lawS0595BPlainRow.holds Ybad.pinned (OpenSpec.ofChange lawS0595BPlainWrong)

end Rows
end Go.Proofs.YbulklhkDoor
