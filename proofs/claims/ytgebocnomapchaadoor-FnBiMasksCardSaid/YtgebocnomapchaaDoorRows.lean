/-
  NARROWER THAN 'FOR EVERY INPUT', by the rows' own cells (each row's printed sentence says how): FnNmSigns: laid · FnUciPercent: laid · FnBiMasks: laid · FnBiLinear: laid · FnSanOptions: laid · FnNmMethods: laid · FnNmColors: laid.
  DERIVED. THE GIVEN ROWS OF THIS SEAT. 7 by the template 'for every input the law returns true; each argument reads behind the call as it read before'; 0 by the template 'total and deterministic' (their statements: YtgebocnomapchaaDoorTotals.lean).
  GIVEN WITH THE SEED: the statements are not yours to turn. If you find one false, say at which input.
  Laid BY PROGRAM, IN A SANDBOX (cutbox-rows.mjs): the forced cells as the released guide's own fill.sh prints them over the translation 398452f268077f0e… (all of the seat's roots in one cut). By AI agents, Wed Nov 11 2026. No macro, syntax, notation, axiom, sorry.
-/
import Derived.Test.YtgebocnomapchaaDoorChecked
import GoSem.PinnedTables
import GoSem.Claim
import GoSem.ClaimJoined
import GoSem.ClaimMapViews
import Derived.JoinedTies
import Derived.KernelRfl
namespace Go.Proofs.YtgebocnomapchaaDoor
/- THE CELL 'sum', in the pinned program and in every row, IS THE sha256 OF THE DUMP (.gsa) THAT YtgebocnomapchaaDoorProg.lean LOADS. Nothing in Lean hashes anything: it is a label: what it is worth is what the hold of that sum in a sandbox is worth. -/
noncomputable def Tryd.pinned : Pinned := { name := "ytgebocnomapchaadoor", sum := "398452f268077f0e700314744b0de324cedf39728eac7d33e6a37b6762cf2f6a", checked := Tryd.checked }
namespace Rows
def none {H : Type} : Left H := { results := [], args := [] }

/- WHAT THE LISTED PACKAGE-LEVEL VARIABLES READ AS WHEN THE CALL BEGINS. Each datum BY PROGRAM (the guide's laid-datum.mjs) off the statement by which the dump's own 'gosem.cut.vars' lays the variable. In a bare row this is a premise. The card (YtgebocnomapchaaDoorCards.lean) ties it to the program's text. -/
def laid_pub_fianchetto_pub_chess_pieceUnicodes {H : Type} : DataW H := .slice [.lit (.string [32]), .lit (.string [226, 153, 148]), .lit (.string [226, 153, 149]), .lit (.string [226, 153, 150]), .lit (.string [226, 153, 151]), .lit (.string [226, 153, 152]), .lit (.string [226, 153, 153]), .lit (.string [226, 153, 154]), .lit (.string [226, 153, 155]), .lit (.string [226, 153, 156]), .lit (.string [226, 153, 157]), .lit (.string [226, 153, 158]), .lit (.string [226, 153, 159])] []
def laid_pub_fianchetto_pub_chess_pieceDarkUnicodes {H : Type} : DataW H := .slice [.lit (.string [32]), .lit (.string [226, 153, 154]), .lit (.string [226, 153, 155]), .lit (.string [226, 153, 156]), .lit (.string [226, 153, 157]), .lit (.string [226, 153, 158]), .lit (.string [226, 153, 159]), .lit (.string [226, 153, 148]), .lit (.string [226, 153, 149]), .lit (.string [226, 153, 150]), .lit (.string [226, 153, 151]), .lit (.string [226, 153, 152]), .lit (.string [226, 153, 153])] []
def laid_pub_fianchetto_pub_chess_uci_missingWdlErr {H : Type} : DataW H := .iface "*errors.errorString" (.ptr (.agg [.lit (.string [117, 99, 105, 58, 32, 119, 100, 108, 32, 117, 110, 97, 118, 97, 105, 108, 97, 98, 108, 101, 59, 32, 116, 104, 105, 115, 32, 105, 115, 32, 109, 111, 115, 116, 108, 121, 32, 108, 105, 107, 101, 108, 121, 32, 98, 101, 99, 97, 117, 115, 101, 32, 85, 67, 73, 95, 83, 104, 111, 119, 87, 68, 76, 32, 104, 97, 115, 32, 110, 111, 116, 32, 98, 101, 101, 110, 32, 115, 101, 116])]))
def laid_pub_fianchetto_pub_chess_bbFiles {H : Type} : DataW H := .agg [.lit (.int .u64 9259542123273814144), .lit (.int .u64 4629771061636907072), .lit (.int .u64 2314885530818453536), .lit (.int .u64 1157442765409226768), .lit (.int .u64 578721382704613384), .lit (.int .u64 289360691352306692), .lit (.int .u64 144680345676153346), .lit (.int .u64 72340172838076673)]
def laid_pub_fianchetto_pub_chess_bbRanks {H : Type} : DataW H := .agg [.lit (.int .u64 18374686479671623680), .lit (.int .u64 71776119061217280), .lit (.int .u64 280375465082880), .lit (.int .u64 1095216660480), .lit (.int .u64 4278190080), .lit (.int .u64 16711680), .lit (.int .u64 65280), .lit (.int .u64 255)]
def laid_pub_fianchetto_pub_chess_bbDiagonals {H : Type} : DataW H := .agg [.lit (.int .u64 9241421688590303745), .lit (.int .u64 4620710844295151872), .lit (.int .u64 2310355422147575808), .lit (.int .u64 1155177711073755136), .lit (.int .u64 577588855528488960), .lit (.int .u64 288794425616760832), .lit (.int .u64 144396663052566528), .lit (.int .u64 72057594037927936), .lit (.int .u64 36099303471055874), .lit (.int .u64 9241421688590303745), .lit (.int .u64 4620710844295151872), .lit (.int .u64 2310355422147575808), .lit (.int .u64 1155177711073755136), .lit (.int .u64 577588855528488960), .lit (.int .u64 288794425616760832), .lit (.int .u64 144396663052566528), .lit (.int .u64 141012904183812), .lit (.int .u64 36099303471055874), .lit (.int .u64 9241421688590303745), .lit (.int .u64 4620710844295151872), .lit (.int .u64 2310355422147575808), .lit (.int .u64 1155177711073755136), .lit (.int .u64 577588855528488960), .lit (.int .u64 288794425616760832), .lit (.int .u64 550831656968), .lit (.int .u64 141012904183812), .lit (.int .u64 36099303471055874), .lit (.int .u64 9241421688590303745), .lit (.int .u64 4620710844295151872), .lit (.int .u64 2310355422147575808), .lit (.int .u64 1155177711073755136), .lit (.int .u64 577588855528488960), .lit (.int .u64 2151686160), .lit (.int .u64 550831656968), .lit (.int .u64 141012904183812), .lit (.int .u64 36099303471055874), .lit (.int .u64 9241421688590303745), .lit (.int .u64 4620710844295151872), .lit (.int .u64 2310355422147575808), .lit (.int .u64 1155177711073755136), .lit (.int .u64 8405024), .lit (.int .u64 2151686160), .lit (.int .u64 550831656968), .lit (.int .u64 141012904183812), .lit (.int .u64 36099303471055874), .lit (.int .u64 9241421688590303745), .lit (.int .u64 4620710844295151872), .lit (.int .u64 2310355422147575808), .lit (.int .u64 32832), .lit (.int .u64 8405024), .lit (.int .u64 2151686160), .lit (.int .u64 550831656968), .lit (.int .u64 141012904183812), .lit (.int .u64 36099303471055874), .lit (.int .u64 9241421688590303745), .lit (.int .u64 4620710844295151872), .lit (.int .u64 128), .lit (.int .u64 32832), .lit (.int .u64 8405024), .lit (.int .u64 2151686160), .lit (.int .u64 550831656968), .lit (.int .u64 141012904183812), .lit (.int .u64 36099303471055874), .lit (.int .u64 9241421688590303745)]
def laid_pub_fianchetto_pub_chess_bbAntiDiagonals {H : Type} : DataW H := .agg [.lit (.int .u64 9223372036854775808), .lit (.int .u64 4647714815446351872), .lit (.int .u64 2323998145211531264), .lit (.int .u64 1161999622361579520), .lit (.int .u64 580999813328273408), .lit (.int .u64 290499906672525312), .lit (.int .u64 145249953336295424), .lit (.int .u64 72624976668147840), .lit (.int .u64 4647714815446351872), .lit (.int .u64 2323998145211531264), .lit (.int .u64 1161999622361579520), .lit (.int .u64 580999813328273408), .lit (.int .u64 290499906672525312), .lit (.int .u64 145249953336295424), .lit (.int .u64 72624976668147840), .lit (.int .u64 283691315109952), .lit (.int .u64 2323998145211531264), .lit (.int .u64 1161999622361579520), .lit (.int .u64 580999813328273408), .lit (.int .u64 290499906672525312), .lit (.int .u64 145249953336295424), .lit (.int .u64 72624976668147840), .lit (.int .u64 283691315109952), .lit (.int .u64 1108169199648), .lit (.int .u64 1161999622361579520), .lit (.int .u64 580999813328273408), .lit (.int .u64 290499906672525312), .lit (.int .u64 145249953336295424), .lit (.int .u64 72624976668147840), .lit (.int .u64 283691315109952), .lit (.int .u64 1108169199648), .lit (.int .u64 4328785936), .lit (.int .u64 580999813328273408), .lit (.int .u64 290499906672525312), .lit (.int .u64 145249953336295424), .lit (.int .u64 72624976668147840), .lit (.int .u64 283691315109952), .lit (.int .u64 1108169199648), .lit (.int .u64 4328785936), .lit (.int .u64 16909320), .lit (.int .u64 290499906672525312), .lit (.int .u64 145249953336295424), .lit (.int .u64 72624976668147840), .lit (.int .u64 283691315109952), .lit (.int .u64 1108169199648), .lit (.int .u64 4328785936), .lit (.int .u64 16909320), .lit (.int .u64 66052), .lit (.int .u64 145249953336295424), .lit (.int .u64 72624976668147840), .lit (.int .u64 283691315109952), .lit (.int .u64 1108169199648), .lit (.int .u64 4328785936), .lit (.int .u64 16909320), .lit (.int .u64 66052), .lit (.int .u64 258), .lit (.int .u64 72624976668147840), .lit (.int .u64 283691315109952), .lit (.int .u64 1108169199648), .lit (.int .u64 4328785936), .lit (.int .u64 16909320), .lit (.int .u64 66052), .lit (.int .u64 258), .lit (.int .u64 1)]
def laid_pub_fianchetto_pub_chess_bbKnightMoves {H : Type} : DataW H := .agg [.lit (.int .u64 9077567998918656), .lit (.int .u64 4679521487814656), .lit (.int .u64 38368557762871296), .lit (.int .u64 19184278881435648), .lit (.int .u64 9592139440717824), .lit (.int .u64 4796069720358912), .lit (.int .u64 2257297371824128), .lit (.int .u64 1128098930098176), .lit (.int .u64 2305878468463689728), .lit (.int .u64 1152939783987658752), .lit (.int .u64 9799982666336960512), .lit (.int .u64 4899991333168480256), .lit (.int .u64 2449995666584240128), .lit (.int .u64 1224997833292120064), .lit (.int .u64 576469569871282176), .lit (.int .u64 288234782788157440), .lit (.int .u64 4620693356194824192), .lit (.int .u64 11533718717099671552), .lit (.int .u64 5802888705324613632), .lit (.int .u64 2901444352662306816), .lit (.int .u64 1450722176331153408), .lit (.int .u64 725361088165576704), .lit (.int .u64 362539804446949376), .lit (.int .u64 145241105196122112), .lit (.int .u64 18049583422636032), .lit (.int .u64 45053588738670592), .lit (.int .u64 22667534005174272), .lit (.int .u64 11333767002587136), .lit (.int .u64 5666883501293568), .lit (.int .u64 2833441750646784), .lit (.int .u64 1416171111120896), .lit (.int .u64 567348067172352), .lit (.int .u64 70506185244672), .lit (.int .u64 175990581010432), .lit (.int .u64 88545054707712), .lit (.int .u64 44272527353856), .lit (.int .u64 22136263676928), .lit (.int .u64 11068131838464), .lit (.int .u64 5531918402816), .lit (.int .u64 2216203387392), .lit (.int .u64 275414786112), .lit (.int .u64 687463207072), .lit (.int .u64 345879119952), .lit (.int .u64 172939559976), .lit (.int .u64 86469779988), .lit (.int .u64 43234889994), .lit (.int .u64 21609056261), .lit (.int .u64 8657044482), .lit (.int .u64 1075839008), .lit (.int .u64 2685403152), .lit (.int .u64 1351090312), .lit (.int .u64 675545156), .lit (.int .u64 337772578), .lit (.int .u64 168886289), .lit (.int .u64 84410376), .lit (.int .u64 33816580), .lit (.int .u64 4202496), .lit (.int .u64 10489856), .lit (.int .u64 5277696), .lit (.int .u64 2638848), .lit (.int .u64 1319424), .lit (.int .u64 659712), .lit (.int .u64 329728), .lit (.int .u64 132096)]
def laid_pub_fianchetto_pub_chess_bbKingMoves {H : Type} : DataW H := .agg [.lit (.int .u64 4665729213955833856), .lit (.int .u64 11592265440851656704), .lit (.int .u64 5796132720425828352), .lit (.int .u64 2898066360212914176), .lit (.int .u64 1449033180106457088), .lit (.int .u64 724516590053228544), .lit (.int .u64 362258295026614272), .lit (.int .u64 144959613005987840), .lit (.int .u64 13853283560024178688), .lit (.int .u64 16186183351374184448), .lit (.int .u64 8093091675687092224), .lit (.int .u64 4046545837843546112), .lit (.int .u64 2023272918921773056), .lit (.int .u64 1011636459460886528), .lit (.int .u64 505818229730443264), .lit (.int .u64 216739030602088448), .lit (.int .u64 54114388906344448), .lit (.int .u64 63227278716305408), .lit (.int .u64 31613639358152704), .lit (.int .u64 15806819679076352), .lit (.int .u64 7903409839538176), .lit (.int .u64 3951704919769088), .lit (.int .u64 1975852459884544), .lit (.int .u64 846636838289408), .lit (.int .u64 211384331665408), .lit (.int .u64 246981557485568), .lit (.int .u64 123490778742784), .lit (.int .u64 61745389371392), .lit (.int .u64 30872694685696), .lit (.int .u64 15436347342848), .lit (.int .u64 7718173671424), .lit (.int .u64 3307175149568), .lit (.int .u64 825720045568), .lit (.int .u64 964771708928), .lit (.int .u64 482385854464), .lit (.int .u64 241192927232), .lit (.int .u64 120596463616), .lit (.int .u64 60298231808), .lit (.int .u64 30149115904), .lit (.int .u64 12918652928), .lit (.int .u64 3225468928), .lit (.int .u64 3768639488), .lit (.int .u64 1884319744), .lit (.int .u64 942159872), .lit (.int .u64 471079936), .lit (.int .u64 235539968), .lit (.int .u64 117769984), .lit (.int .u64 50463488), .lit (.int .u64 12599488), .lit (.int .u64 14721248), .lit (.int .u64 7360624), .lit (.int .u64 3680312), .lit (.int .u64 1840156), .lit (.int .u64 920078), .lit (.int .u64 460039), .lit (.int .u64 197123), .lit (.int .u64 49216), .lit (.int .u64 57504), .lit (.int .u64 28752), .lit (.int .u64 14376), .lit (.int .u64 7188), .lit (.int .u64 3594), .lit (.int .u64 1797), .lit (.int .u64 770)]
def laid_pub_fianchetto_pub_chess_emptyComponents {H : Type} : DataW H := .agg [.lit (.string []), .lit (.string []), .lit (.string []), .lit (.string []), .lit (.string []), .lit (.string []), .lit (.string []), .lit (.string [])]
def laid_math_bits_deBruijn32tab {H : Type} : DataW H := .agg [.lit (.int .u8 0), .lit (.int .u8 1), .lit (.int .u8 28), .lit (.int .u8 2), .lit (.int .u8 29), .lit (.int .u8 14), .lit (.int .u8 24), .lit (.int .u8 3), .lit (.int .u8 30), .lit (.int .u8 22), .lit (.int .u8 20), .lit (.int .u8 15), .lit (.int .u8 25), .lit (.int .u8 17), .lit (.int .u8 4), .lit (.int .u8 8), .lit (.int .u8 31), .lit (.int .u8 27), .lit (.int .u8 13), .lit (.int .u8 23), .lit (.int .u8 21), .lit (.int .u8 19), .lit (.int .u8 16), .lit (.int .u8 7), .lit (.int .u8 26), .lit (.int .u8 12), .lit (.int .u8 18), .lit (.int .u8 6), .lit (.int .u8 11), .lit (.int .u8 5), .lit (.int .u8 10), .lit (.int .u8 9)]
def laid_math_bits_deBruijn64tab {H : Type} : DataW H := .agg [.lit (.int .u8 0), .lit (.int .u8 1), .lit (.int .u8 56), .lit (.int .u8 2), .lit (.int .u8 57), .lit (.int .u8 49), .lit (.int .u8 28), .lit (.int .u8 3), .lit (.int .u8 61), .lit (.int .u8 58), .lit (.int .u8 42), .lit (.int .u8 50), .lit (.int .u8 38), .lit (.int .u8 29), .lit (.int .u8 17), .lit (.int .u8 4), .lit (.int .u8 62), .lit (.int .u8 47), .lit (.int .u8 59), .lit (.int .u8 36), .lit (.int .u8 45), .lit (.int .u8 43), .lit (.int .u8 51), .lit (.int .u8 22), .lit (.int .u8 53), .lit (.int .u8 39), .lit (.int .u8 33), .lit (.int .u8 30), .lit (.int .u8 24), .lit (.int .u8 18), .lit (.int .u8 12), .lit (.int .u8 5), .lit (.int .u8 63), .lit (.int .u8 55), .lit (.int .u8 48), .lit (.int .u8 27), .lit (.int .u8 60), .lit (.int .u8 41), .lit (.int .u8 37), .lit (.int .u8 16), .lit (.int .u8 46), .lit (.int .u8 35), .lit (.int .u8 44), .lit (.int .u8 21), .lit (.int .u8 52), .lit (.int .u8 32), .lit (.int .u8 23), .lit (.int .u8 11), .lit (.int .u8 54), .lit (.int .u8 26), .lit (.int .u8 40), .lit (.int .u8 15), .lit (.int .u8 34), .lit (.int .u8 20), .lit (.int .u8 31), .lit (.int .u8 10), .lit (.int .u8 25), .lit (.int .u8 14), .lit (.int .u8 19), .lit (.int .u8 9), .lit (.int .u8 13), .lit (.int .u8 8), .lit (.int .u8 7), .lit (.int .u8 6)]
def laid_internal_strconv_uint64pow10 {H : Type} : DataW H := .agg [.lit (.int .u64 1), .lit (.int .u64 10), .lit (.int .u64 100), .lit (.int .u64 1000), .lit (.int .u64 10000), .lit (.int .u64 100000), .lit (.int .u64 1000000), .lit (.int .u64 10000000), .lit (.int .u64 100000000), .lit (.int .u64 1000000000), .lit (.int .u64 10000000000), .lit (.int .u64 100000000000), .lit (.int .u64 1000000000000), .lit (.int .u64 10000000000000), .lit (.int .u64 100000000000000), .lit (.int .u64 1000000000000000), .lit (.int .u64 10000000000000000), .lit (.int .u64 100000000000000000), .lit (.int .u64 1000000000000000000), .lit (.int .u64 10000000000000000000)]
def laid_pub_fianchetto_pub_chess_Method_index {H : Type} : DataW H := .agg [.lit (.int .u8 0), .lit (.int .u8 8), .lit (.int .u8 17), .lit (.int .u8 28), .lit (.int .u8 37), .lit (.int .u8 46), .lit (.int .u8 65), .lit (.int .u8 83), .lit (.int .u8 96), .lit (.int .u8 115), .lit (.int .u8 135)]
def laid_unicode_utf8_acceptRanges {H : Type} : DataW H := .agg [.agg [.lit (.int .u8 128), .lit (.int .u8 191)], .agg [.lit (.int .u8 160), .lit (.int .u8 191)], .agg [.lit (.int .u8 128), .lit (.int .u8 159)], .agg [.lit (.int .u8 144), .lit (.int .u8 191)], .agg [.lit (.int .u8 128), .lit (.int .u8 143)], .agg [.lit (.int .u8 0), .lit (.int .u8 0)], .agg [.lit (.int .u8 0), .lit (.int .u8 0)], .agg [.lit (.int .u8 0), .lit (.int .u8 0)], .agg [.lit (.int .u8 0), .lit (.int .u8 0)], .agg [.lit (.int .u8 0), .lit (.int .u8 0)], .agg [.lit (.int .u8 0), .lit (.int .u8 0)], .agg [.lit (.int .u8 0), .lit (.int .u8 0)], .agg [.lit (.int .u8 0), .lit (.int .u8 0)], .agg [.lit (.int .u8 0), .lit (.int .u8 0)], .agg [.lit (.int .u8 0), .lit (.int .u8 0)], .agg [.lit (.int .u8 0), .lit (.int .u8 0)]]
/-- One of Go's own tables, pinned by name: the form's constant. -/
def laid_unicode_CaseRanges : DataW Unit := Go.Pinned.caseRanges
/-- One of Go's own tables, pinned by name: the form's constant. -/
def laid_unicode_utf8_first : DataW Unit := Go.Pinned.utf8First

/-- 'laws.FnNmSigns': WHATEVER THE INPUT: true; the input reads as it did. -/
def fnNmSignsSpec : ChangeSpec := { name := "fnNmSigns", fn := fun _ => fun
  | [d1, d2] => { results := [.lit (.bool true)], args := [d1, d2] }
  | _ => none }
def fnNmSignsRow : OpenClaim := { program := "ytgebocnomapchaadoor", sum := "398452f268077f0e700314744b0de324cedf39728eac7d33e6a37b6762cf2f6a", func := "pub-fianchetto/laws.FnNmSigns", spec := "fnNmSigns", unfollowed := true, recurses := true, named := ["pub-fianchetto/pub/chess.pieceDarkUnicodes", "pub-fianchetto/pub/chess.pieceUnicodes"], apart := false, laid := [("pub-fianchetto/pub/chess.pieceUnicodes", laid_pub_fianchetto_pub_chess_pieceUnicodes), ("pub-fianchetto/pub/chess.pieceDarkUnicodes", laid_pub_fianchetto_pub_chess_pieceDarkUnicodes)] }
def FnNmSignsSaid : Prop := fnNmSignsRow.holds Tryd.pinned (OpenSpec.ofChange fnNmSignsSpec)

/-- ITS FALSE NEIGHBOUR: 'it returns false'. Refute it at one input. -/
def fnNmSignsWrong : ChangeSpec := { name := "fnNmSigns", fn := fun _ => fun
  | [d1, d2] => { results := [.lit (.bool false)], args := [d1, d2] }
  | _ => none }
def FnNmSignsWrongFalsely : Prop := fnNmSignsRow.holds Tryd.pinned (OpenSpec.ofChange fnNmSignsWrong)

/-- 'laws.FnUciPercent': WHATEVER THE INPUT: true; the input reads as it did. -/
def fnUciPercentSpec : ChangeSpec := { name := "fnUciPercent", fn := fun _ => fun
  | [d1, d2, d3] => { results := [.lit (.bool true)], args := [d1, d2, d3] }
  | _ => none }
def fnUciPercentRow : OpenClaim := { program := "ytgebocnomapchaadoor", sum := "398452f268077f0e700314744b0de324cedf39728eac7d33e6a37b6762cf2f6a", func := "pub-fianchetto/laws.FnUciPercent", spec := "fnUciPercent", unfollowed := true, recurses := true, named := ["pub-fianchetto/pub/chess/uci.missingWdlErr"], apart := false, laid := [("pub-fianchetto/pub/chess/uci.missingWdlErr", laid_pub_fianchetto_pub_chess_uci_missingWdlErr)] }
def FnUciPercentSaid : Prop := fnUciPercentRow.holds Tryd.pinned (OpenSpec.ofChange fnUciPercentSpec)

/-- ITS FALSE NEIGHBOUR: 'it returns false'. Refute it at one input. -/
def fnUciPercentWrong : ChangeSpec := { name := "fnUciPercent", fn := fun _ => fun
  | [d1, d2, d3] => { results := [.lit (.bool false)], args := [d1, d2, d3] }
  | _ => none }
def FnUciPercentWrongFalsely : Prop := fnUciPercentRow.holds Tryd.pinned (OpenSpec.ofChange fnUciPercentWrong)

/-- 'laws.FnBiMasks': WHATEVER THE INPUT: true; the input reads as it did. -/
def fnBiMasksSpec : ChangeSpec := { name := "fnBiMasks", fn := fun _ => fun
  | [d] => { results := [.lit (.bool true)], args := [d] }
  | _ => none }
def fnBiMasksRow : OpenClaim := { program := "ytgebocnomapchaadoor", sum := "398452f268077f0e700314744b0de324cedf39728eac7d33e6a37b6762cf2f6a", func := "pub-fianchetto/laws.FnBiMasks", spec := "fnBiMasks", unfollowed := true, recurses := true, named := ["pub-fianchetto/pub/chess.bbKingMoves", "pub-fianchetto/pub/chess.bbKnightMoves", "pub-fianchetto/pub/chess.bbDiagonals", "pub-fianchetto/pub/chess.bbAntiDiagonals", "pub-fianchetto/pub/chess.bbFiles", "pub-fianchetto/pub/chess.bbRanks"], apart := false, laid := [("pub-fianchetto/pub/chess.bbFiles", laid_pub_fianchetto_pub_chess_bbFiles), ("pub-fianchetto/pub/chess.bbRanks", laid_pub_fianchetto_pub_chess_bbRanks), ("pub-fianchetto/pub/chess.bbDiagonals", laid_pub_fianchetto_pub_chess_bbDiagonals), ("pub-fianchetto/pub/chess.bbAntiDiagonals", laid_pub_fianchetto_pub_chess_bbAntiDiagonals), ("pub-fianchetto/pub/chess.bbKnightMoves", laid_pub_fianchetto_pub_chess_bbKnightMoves), ("pub-fianchetto/pub/chess.bbKingMoves", laid_pub_fianchetto_pub_chess_bbKingMoves)] }
def FnBiMasksSaid : Prop := fnBiMasksRow.holds Tryd.pinned (OpenSpec.ofChange fnBiMasksSpec)

/-- ITS FALSE NEIGHBOUR: 'it returns false'. Refute it at one input. -/
def fnBiMasksWrong : ChangeSpec := { name := "fnBiMasks", fn := fun _ => fun
  | [d] => { results := [.lit (.bool false)], args := [d] }
  | _ => none }
def FnBiMasksWrongFalsely : Prop := fnBiMasksRow.holds Tryd.pinned (OpenSpec.ofChange fnBiMasksWrong)

/-- 'laws.FnBiLinear': WHATEVER THE INPUT: true; the input reads as it did. -/
def fnBiLinearSpec : ChangeSpec := { name := "fnBiLinear", fn := fun _ => fun
  | [d1, d2] => { results := [.lit (.bool true)], args := [d1, d2] }
  | _ => none }
def fnBiLinearRow : OpenClaim := { program := "ytgebocnomapchaadoor", sum := "398452f268077f0e700314744b0de324cedf39728eac7d33e6a37b6762cf2f6a", func := "pub-fianchetto/laws.FnBiLinear", spec := "fnBiLinear", unfollowed := true, recurses := true, named := ["pub-fianchetto/pub/chess.bbDiagonals", "pub-fianchetto/pub/chess.bbAntiDiagonals", "pub-fianchetto/pub/chess.bbFiles", "pub-fianchetto/pub/chess.bbRanks"], apart := false, laid := [("pub-fianchetto/pub/chess.bbFiles", laid_pub_fianchetto_pub_chess_bbFiles), ("pub-fianchetto/pub/chess.bbRanks", laid_pub_fianchetto_pub_chess_bbRanks), ("pub-fianchetto/pub/chess.bbDiagonals", laid_pub_fianchetto_pub_chess_bbDiagonals), ("pub-fianchetto/pub/chess.bbAntiDiagonals", laid_pub_fianchetto_pub_chess_bbAntiDiagonals)] }
def FnBiLinearSaid : Prop := fnBiLinearRow.holds Tryd.pinned (OpenSpec.ofChange fnBiLinearSpec)

/-- ITS FALSE NEIGHBOUR: 'it returns false'. Refute it at one input. -/
def fnBiLinearWrong : ChangeSpec := { name := "fnBiLinear", fn := fun _ => fun
  | [d1, d2] => { results := [.lit (.bool false)], args := [d1, d2] }
  | _ => none }
def FnBiLinearWrongFalsely : Prop := fnBiLinearRow.holds Tryd.pinned (OpenSpec.ofChange fnBiLinearWrong)

/-- 'laws.FnSanOptions': WHATEVER THE INPUT: true; the input reads as it did. -/
def fnSanOptionsSpec : ChangeSpec := { name := "fnSanOptions", fn := fun _ => fun
  | [d] => { results := [.lit (.bool true)], args := [d] }
  | _ => none }
def fnSanOptionsRow : OpenClaim := { program := "ytgebocnomapchaadoor", sum := "398452f268077f0e700314744b0de324cedf39728eac7d33e6a37b6762cf2f6a", func := "pub-fianchetto/laws.FnSanOptions", spec := "fnSanOptions", inPlace := ["internal/abi.NoEscape"], unfollowed := true, recurses := true, named := ["pub-fianchetto/pub/chess.emptyComponents"], apart := false, laid := [("pub-fianchetto/pub/chess.emptyComponents", laid_pub_fianchetto_pub_chess_emptyComponents)] }
def FnSanOptionsSaid : Prop := fnSanOptionsRow.holds Tryd.pinned (OpenSpec.ofChange fnSanOptionsSpec)

/-- ITS FALSE NEIGHBOUR: 'it returns false'. Refute it at one input. -/
def fnSanOptionsWrong : ChangeSpec := { name := "fnSanOptions", fn := fun _ => fun
  | [d] => { results := [.lit (.bool false)], args := [d] }
  | _ => none }
def FnSanOptionsWrongFalsely : Prop := fnSanOptionsRow.holds Tryd.pinned (OpenSpec.ofChange fnSanOptionsWrong)

/-- 'laws.FnNmMethods': WHATEVER THE INPUT: true; the input reads as it did. -/
def fnNmMethodsSpec : ChangeSpec := { name := "fnNmMethods", fn := fun _ => fun
  | [d] => { results := [.lit (.bool true)], args := [d] }
  | _ => none }
def fnNmMethodsRow : OpenClaim := { program := "ytgebocnomapchaadoor", sum := "398452f268077f0e700314744b0de324cedf39728eac7d33e6a37b6762cf2f6a", func := "pub-fianchetto/laws.FnNmMethods", spec := "fnNmMethods", unfollowed := true, recurses := true, named := ["pub-fianchetto/pub/chess._Method_index", "internal/strconv.uint64pow10", "math/bits.deBruijn32tab", "math/bits.deBruijn64tab"], apart := false, laid := [("math/bits.deBruijn32tab", laid_math_bits_deBruijn32tab), ("math/bits.deBruijn64tab", laid_math_bits_deBruijn64tab), ("internal/strconv.uint64pow10", laid_internal_strconv_uint64pow10), ("pub-fianchetto/pub/chess._Method_index", laid_pub_fianchetto_pub_chess_Method_index)] }
def FnNmMethodsSaid : Prop := fnNmMethodsRow.holds Tryd.pinned (OpenSpec.ofChange fnNmMethodsSpec)

/-- ITS FALSE NEIGHBOUR: 'it returns false'. Refute it at one input. -/
def fnNmMethodsWrong : ChangeSpec := { name := "fnNmMethods", fn := fun _ => fun
  | [d] => { results := [.lit (.bool false)], args := [d] }
  | _ => none }
def FnNmMethodsWrongFalsely : Prop := fnNmMethodsRow.holds Tryd.pinned (OpenSpec.ofChange fnNmMethodsWrong)

/-- 'laws.FnNmColors': WHATEVER THE INPUT: true; the input reads as it did. -/
def fnNmColorsSpec : ChangeSpec := { name := "fnNmColors", fn := fun _ => fun
  | [d] => { results := [.lit (.bool true)], args := [d] }
  | _ => none }
def fnNmColorsRow : OpenClaim := { program := "ytgebocnomapchaadoor", sum := "398452f268077f0e700314744b0de324cedf39728eac7d33e6a37b6762cf2f6a", func := "pub-fianchetto/laws.FnNmColors", spec := "fnNmColors", inPlace := ["internal/abi.NoEscape", "internal/bytealg.MakeNoZero"], unfollowed := true, recurses := true, named := ["unicode/utf8.first", "unicode/utf8.acceptRanges", "unicode.CaseRanges"], apart := false, laid := [("unicode/utf8.acceptRanges", laid_unicode_utf8_acceptRanges), ("unicode.CaseRanges", laid_unicode_CaseRanges), ("unicode/utf8.first", laid_unicode_utf8_first)] }
def FnNmColorsSaid : Prop := fnNmColorsRow.holds Tryd.pinned (OpenSpec.ofChange fnNmColorsSpec)

/-- ITS FALSE NEIGHBOUR: 'it returns false'. Refute it at one input. -/
def fnNmColorsWrong : ChangeSpec := { name := "fnNmColors", fn := fun _ => fun
  | [d] => { results := [.lit (.bool false)], args := [d] }
  | _ => none }
def FnNmColorsWrongFalsely : Prop := fnNmColorsRow.holds Tryd.pinned (OpenSpec.ofChange fnNmColorsWrong)

/- THE SECOND FORM. 'bulk': how many values and letters a reading holds, each counted each time it is reached (what is shared counts as often as it is met; a slice's spare places count too). A statement '..UptoSaid' is the law's where the arguments, and the package variables that the reading takes, are together of bulk at most 1048576: NARROWER than '..Said'. Prove '..Said' where nothing that the law and all that it calls make is longer than what came in: it says more and counts as full. Else prove '..UptoSaid'. A law counts once. -/
mutual
def uptoBulk {H : Type} : DataW H → Nat
  | .lit (.string bytes) => bytes.length + 1
  | .lit _ => 1
  | .nil => 1
  | .ptr d => uptoBulk d + 1
  | .slice elems spare => uptoBulkAll elems + uptoBulkAll spare + 1
  | .agg parts => uptoBulkAll parts + 1
  | .iface _ d => uptoBulk d + 1
  | .map entries => uptoBulkEntries entries + 1
  | .held _ => 1
def uptoBulkAll {H : Type} : List (DataW H) → Nat
  | [] => 0
  | d :: r => uptoBulk d + uptoBulkAll r
def uptoBulkEntries {H : Type} : List (Lit × DataW H) → Nat
  | [] => 0
  | x :: r => uptoBulkEntry x + uptoBulkEntries r
def uptoBulkEntry {H : Type} : Lit × DataW H → Nat
  | (.string bytes, d) => bytes.length + uptoBulk d + 1
  | (_, d) => uptoBulk d + 1
 end
def uptoSmall : (H : Type) → List (DataW H) → Bool := fun _ ds => decide (uptoBulkAll ds ≤ 1048576)
def OpenSpec.upto (s : _root_.Go.ChangeSpec) : _root_.Go.OpenSpec := { _root_.Go.OpenSpec.ofChange s with cond := some uptoSmall }

/-- 'laws.FnNmSigns', WHERE WHAT IT READS IS OF BULK AT MOST 1048576: true; the input reads as it did. -/
def fnNmSignsUptoRow : OpenClaim := { program := "ytgebocnomapchaadoor", sum := "398452f268077f0e700314744b0de324cedf39728eac7d33e6a37b6762cf2f6a", func := "pub-fianchetto/laws.FnNmSigns", spec := "fnNmSigns", unfollowed := true, recurses := true, named := ["pub-fianchetto/pub/chess.pieceDarkUnicodes", "pub-fianchetto/pub/chess.pieceUnicodes"], apart := false, laid := [("pub-fianchetto/pub/chess.pieceUnicodes", laid_pub_fianchetto_pub_chess_pieceUnicodes), ("pub-fianchetto/pub/chess.pieceDarkUnicodes", laid_pub_fianchetto_pub_chess_pieceDarkUnicodes)], narrowed := true }
def FnNmSignsUptoSaid : Prop := fnNmSignsUptoRow.holds Tryd.pinned (OpenSpec.upto fnNmSignsSpec)

/-- 'laws.FnUciPercent', WHERE WHAT IT READS IS OF BULK AT MOST 1048576: true; the input reads as it did. -/
def fnUciPercentUptoRow : OpenClaim := { program := "ytgebocnomapchaadoor", sum := "398452f268077f0e700314744b0de324cedf39728eac7d33e6a37b6762cf2f6a", func := "pub-fianchetto/laws.FnUciPercent", spec := "fnUciPercent", unfollowed := true, recurses := true, named := ["pub-fianchetto/pub/chess/uci.missingWdlErr"], apart := false, laid := [("pub-fianchetto/pub/chess/uci.missingWdlErr", laid_pub_fianchetto_pub_chess_uci_missingWdlErr)], narrowed := true }
def FnUciPercentUptoSaid : Prop := fnUciPercentUptoRow.holds Tryd.pinned (OpenSpec.upto fnUciPercentSpec)

/-- 'laws.FnBiMasks', WHERE WHAT IT READS IS OF BULK AT MOST 1048576: true; the input reads as it did. -/
def fnBiMasksUptoRow : OpenClaim := { program := "ytgebocnomapchaadoor", sum := "398452f268077f0e700314744b0de324cedf39728eac7d33e6a37b6762cf2f6a", func := "pub-fianchetto/laws.FnBiMasks", spec := "fnBiMasks", unfollowed := true, recurses := true, named := ["pub-fianchetto/pub/chess.bbKingMoves", "pub-fianchetto/pub/chess.bbKnightMoves", "pub-fianchetto/pub/chess.bbDiagonals", "pub-fianchetto/pub/chess.bbAntiDiagonals", "pub-fianchetto/pub/chess.bbFiles", "pub-fianchetto/pub/chess.bbRanks"], apart := false, laid := [("pub-fianchetto/pub/chess.bbFiles", laid_pub_fianchetto_pub_chess_bbFiles), ("pub-fianchetto/pub/chess.bbRanks", laid_pub_fianchetto_pub_chess_bbRanks), ("pub-fianchetto/pub/chess.bbDiagonals", laid_pub_fianchetto_pub_chess_bbDiagonals), ("pub-fianchetto/pub/chess.bbAntiDiagonals", laid_pub_fianchetto_pub_chess_bbAntiDiagonals), ("pub-fianchetto/pub/chess.bbKnightMoves", laid_pub_fianchetto_pub_chess_bbKnightMoves), ("pub-fianchetto/pub/chess.bbKingMoves", laid_pub_fianchetto_pub_chess_bbKingMoves)], narrowed := true }
def FnBiMasksUptoSaid : Prop := fnBiMasksUptoRow.holds Tryd.pinned (OpenSpec.upto fnBiMasksSpec)

/-- 'laws.FnBiLinear', WHERE WHAT IT READS IS OF BULK AT MOST 1048576: true; the input reads as it did. -/
def fnBiLinearUptoRow : OpenClaim := { program := "ytgebocnomapchaadoor", sum := "398452f268077f0e700314744b0de324cedf39728eac7d33e6a37b6762cf2f6a", func := "pub-fianchetto/laws.FnBiLinear", spec := "fnBiLinear", unfollowed := true, recurses := true, named := ["pub-fianchetto/pub/chess.bbDiagonals", "pub-fianchetto/pub/chess.bbAntiDiagonals", "pub-fianchetto/pub/chess.bbFiles", "pub-fianchetto/pub/chess.bbRanks"], apart := false, laid := [("pub-fianchetto/pub/chess.bbFiles", laid_pub_fianchetto_pub_chess_bbFiles), ("pub-fianchetto/pub/chess.bbRanks", laid_pub_fianchetto_pub_chess_bbRanks), ("pub-fianchetto/pub/chess.bbDiagonals", laid_pub_fianchetto_pub_chess_bbDiagonals), ("pub-fianchetto/pub/chess.bbAntiDiagonals", laid_pub_fianchetto_pub_chess_bbAntiDiagonals)], narrowed := true }
def FnBiLinearUptoSaid : Prop := fnBiLinearUptoRow.holds Tryd.pinned (OpenSpec.upto fnBiLinearSpec)

/-- 'laws.FnSanOptions', WHERE WHAT IT READS IS OF BULK AT MOST 1048576: true; the input reads as it did. -/
def fnSanOptionsUptoRow : OpenClaim := { program := "ytgebocnomapchaadoor", sum := "398452f268077f0e700314744b0de324cedf39728eac7d33e6a37b6762cf2f6a", func := "pub-fianchetto/laws.FnSanOptions", spec := "fnSanOptions", inPlace := ["internal/abi.NoEscape"], unfollowed := true, recurses := true, named := ["pub-fianchetto/pub/chess.emptyComponents"], apart := false, laid := [("pub-fianchetto/pub/chess.emptyComponents", laid_pub_fianchetto_pub_chess_emptyComponents)], narrowed := true }
def FnSanOptionsUptoSaid : Prop := fnSanOptionsUptoRow.holds Tryd.pinned (OpenSpec.upto fnSanOptionsSpec)

/-- 'laws.FnNmMethods', WHERE WHAT IT READS IS OF BULK AT MOST 1048576: true; the input reads as it did. -/
def fnNmMethodsUptoRow : OpenClaim := { program := "ytgebocnomapchaadoor", sum := "398452f268077f0e700314744b0de324cedf39728eac7d33e6a37b6762cf2f6a", func := "pub-fianchetto/laws.FnNmMethods", spec := "fnNmMethods", unfollowed := true, recurses := true, named := ["pub-fianchetto/pub/chess._Method_index", "internal/strconv.uint64pow10", "math/bits.deBruijn32tab", "math/bits.deBruijn64tab"], apart := false, laid := [("math/bits.deBruijn32tab", laid_math_bits_deBruijn32tab), ("math/bits.deBruijn64tab", laid_math_bits_deBruijn64tab), ("internal/strconv.uint64pow10", laid_internal_strconv_uint64pow10), ("pub-fianchetto/pub/chess._Method_index", laid_pub_fianchetto_pub_chess_Method_index)], narrowed := true }
def FnNmMethodsUptoSaid : Prop := fnNmMethodsUptoRow.holds Tryd.pinned (OpenSpec.upto fnNmMethodsSpec)

/-- 'laws.FnNmColors', WHERE WHAT IT READS IS OF BULK AT MOST 1048576: true; the input reads as it did. -/
def fnNmColorsUptoRow : OpenClaim := { program := "ytgebocnomapchaadoor", sum := "398452f268077f0e700314744b0de324cedf39728eac7d33e6a37b6762cf2f6a", func := "pub-fianchetto/laws.FnNmColors", spec := "fnNmColors", inPlace := ["internal/abi.NoEscape", "internal/bytealg.MakeNoZero"], unfollowed := true, recurses := true, named := ["unicode/utf8.first", "unicode/utf8.acceptRanges", "unicode.CaseRanges"], apart := false, laid := [("unicode/utf8.acceptRanges", laid_unicode_utf8_acceptRanges), ("unicode.CaseRanges", laid_unicode_CaseRanges), ("unicode/utf8.first", laid_unicode_utf8_first)], narrowed := true }
def FnNmColorsUptoSaid : Prop := fnNmColorsUptoRow.holds Tryd.pinned (OpenSpec.upto fnNmColorsSpec)

end Rows
end Go.Proofs.YtgebocnomapchaaDoor
