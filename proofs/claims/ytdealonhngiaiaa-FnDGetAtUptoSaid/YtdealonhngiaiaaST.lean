/-
  The types' facts that the shallow forms ask, and the calls' names. Conditions: none.
-/
import Derived.Test.YtdealonhngiaiaaProg
import Derived.Test.YtdealonhngiaiaaHq
import Derived.KernelRfl
namespace Go.Proofs.Ytdealonhngiaiaa
open Go.Hp
set_option maxRecDepth 100000
set_option maxHeartbeats 8000000
set_option linter.unusedVariables false
set_option linter.unusedSimpArgs false
theorem mixed : Try.prog.follows .mixedOrders = true := by kernel_rfl
theorem HB_11 : hasBody Try.prog 11 := ⟨_, Try.func11, rfl, by kernel_rfl⟩
theorem TB_30 : TyB Try.prog 30 [(.int .i64 0), (.int .i64 0)] [(0, 1), (1, 1)] := ⟨_, _, _, Try.underlying30, Try.type30, rfl, rfl, ⟨rfl, ⟨_, Try.type3, rfl⟩, ⟨rfl, ⟨_, Try.type3, rfl⟩, trivial⟩⟩⟩
theorem HB_12 : hasBody Try.prog 12 := ⟨_, Try.func12, rfl, by kernel_rfl⟩
theorem HB_10 : hasBody Try.prog 10 := ⟨_, Try.func10, rfl, by kernel_rfl⟩
theorem HB_8 : hasBody Try.prog 8 := ⟨_, Try.func8, rfl, by kernel_rfl⟩
theorem HB_9 : hasBody Try.prog 9 := ⟨_, Try.func9, rfl, by kernel_rfl⟩
theorem HB_27 : hasBody Try.prog 27 := ⟨_, Try.func27, rfl, by kernel_rfl⟩
theorem TE_22 : TyE Try.prog 22 30 2 := ⟨Try.underlying22, _, Try.type30, rfl⟩
theorem TN_30 : TyN Try.prog 30 2 := ⟨⟨_, Try.underlying30, rfl⟩, _, Try.type30, rfl⟩
theorem HB_28 : hasBody Try.prog 28 := ⟨_, Try.func28, rfl, by kernel_rfl⟩
theorem TF_30_0 : TyF Try.prog 30 0 0 := ⟨_, _, _, Try.underlying30, rfl, rfl, Try.type3, by decide⟩
theorem T1_3 : Ty1 Try.prog 3 := ⟨_, Try.underlying3, rfl⟩
theorem HB_51 : hasBody Try.prog 51 := ⟨_, Try.func51, rfl, by kernel_rfl⟩
theorem TE_47 : TyE Try.prog 47 3 1 := ⟨Try.underlying47, _, Try.type3, rfl⟩
theorem HB_30 : hasBody Try.prog 30 := ⟨_, Try.func30, rfl, by kernel_rfl⟩
theorem HB_29 : hasBody Try.prog 29 := ⟨_, Try.func29, rfl, by kernel_rfl⟩
theorem TN_34 : TyN Try.prog 34 3 := ⟨⟨_, Try.underlying34, rfl⟩, _, Try.type34, rfl⟩
theorem HB_36 : hasBody Try.prog 36 := ⟨_, Try.func36, rfl, by kernel_rfl⟩
theorem HB_52 : hasBody Try.prog 52 := ⟨_, Try.func52, rfl, by kernel_rfl⟩
theorem HB_53 : hasBody Try.prog 53 := ⟨_, Try.func53, rfl, by kernel_rfl⟩
theorem HB_54 : hasBody Try.prog 54 := ⟨_, Try.func54, rfl, by kernel_rfl⟩
theorem HB_31 : hasBody Try.prog 31 := ⟨_, Try.func31, rfl, by kernel_rfl⟩
theorem TF_34_0 : TyF Try.prog 34 0 0 := ⟨_, _, _, Try.underlying34, rfl, rfl, Try.type22, by decide⟩
theorem T1_22 : Ty1 Try.prog 22 := ⟨_, Try.underlying22, rfl⟩
theorem TF_34_1 : TyF Try.prog 34 1 1 := ⟨_, _, _, Try.underlying34, rfl, rfl, Try.type32, by decide⟩
theorem T1_32 : Ty1 Try.prog 32 := ⟨_, Try.underlying32, rfl⟩
theorem HB_33 : hasBody Try.prog 33 := ⟨_, Try.func33, rfl, by kernel_rfl⟩
theorem HB_64 : hasBody Try.prog 64 := ⟨_, Try.func64, rfl, by kernel_rfl⟩
theorem TV_92 : TyV Try.prog 92 [(.int .u64 0), (.pointer none), (.pointer none), (.int .i64 0), (.int .i64 0), (.int .i64 0), (.int .i64 0), (.int .i64 0), (.bool false), (.bool false)] := ⟨_, _, Try.type92, rfl, rfl⟩
theorem HB_55 : hasBody Try.prog 55 := ⟨_, Try.func55, rfl, by kernel_rfl⟩
theorem HB_81 : hasBody Try.prog 81 := ⟨_, Try.func81, rfl, by kernel_rfl⟩
theorem TF_92_5 : TyF Try.prog 92 5 6 := ⟨_, _, _, Try.underlying92, rfl, rfl, Try.type3, by decide⟩
theorem TS_3 : TyS Try.prog 3 1 := ⟨_, Try.type3, rfl⟩
theorem TF_92_6 : TyF Try.prog 92 6 7 := ⟨_, _, _, Try.underlying92, rfl, rfl, Try.type3, by decide⟩
theorem TF_92_4 : TyF Try.prog 92 4 4 := ⟨_, _, _, Try.underlying92, rfl, rfl, Try.type90, by decide⟩
theorem TF_90_0 : TyF Try.prog 90 0 0 := ⟨_, _, _, Try.underlying90, rfl, rfl, Try.type3, by decide⟩
theorem TI_3 : ∃ dt, Try.prog.underlying 3 = some dt ∧ ∀ ms, dt ≠ .interface ms := ⟨_, Try.underlying3, by intro k hk; cases hk⟩
theorem TF_92_7 : TyF Try.prog 92 7 8 := ⟨_, _, _, Try.underlying92, rfl, rfl, Try.type4, by decide⟩
theorem TS_4 : TyS Try.prog 4 1 := ⟨_, Try.type4, rfl⟩
theorem T1_4 : Ty1 Try.prog 4 := ⟨_, Try.underlying4, rfl⟩
theorem TF_92_8 : TyF Try.prog 92 8 9 := ⟨_, _, _, Try.underlying92, rfl, rfl, Try.type4, by decide⟩
theorem TV_65 : TyV Try.prog 65 [(.pointer none)] := ⟨_, _, Try.type65, rfl, rfl⟩
theorem HB_57 : hasBody Try.prog 57 := ⟨_, Try.func57, rfl, by kernel_rfl⟩
theorem TS_65 : TyS Try.prog 65 1 := ⟨_, Try.type65, rfl⟩
theorem TN_65 : TyN Try.prog 65 1 := ⟨⟨_, Try.underlying65, rfl⟩, _, Try.type65, rfl⟩
theorem HB_61 : hasBody Try.prog 61 := ⟨_, Try.func61, rfl, by kernel_rfl⟩
theorem TE_32 : TyE Try.prog 32 34 3 := ⟨Try.underlying32, _, Try.type34, rfl⟩
theorem TV_34 : TyV Try.prog 34 [(.slice none 0 0), (.slice none 0 0), (.int .i64 0)] := ⟨_, _, Try.type34, rfl, rfl⟩
theorem TS_34 : TyS Try.prog 34 3 := ⟨_, Try.type34, rfl⟩
theorem HB_60 : hasBody Try.prog 60 := ⟨_, Try.func60, rfl, by kernel_rfl⟩
theorem TV_30 : TyV Try.prog 30 [(.int .i64 0), (.int .i64 0)] := ⟨_, _, Try.type30, rfl, rfl⟩
theorem TS_30 : TyS Try.prog 30 2 := ⟨_, Try.type30, rfl⟩
theorem TF_30_1 : TyF Try.prog 30 1 1 := ⟨_, _, _, Try.underlying30, rfl, rfl, Try.type3, by decide⟩
theorem HB_59 : hasBody Try.prog 59 := ⟨_, Try.func59, rfl, by kernel_rfl⟩
theorem HB_58 : hasBody Try.prog 58 := ⟨_, Try.func58, rfl, by kernel_rfl⟩
theorem HB_66 : hasBody Try.prog 66 := ⟨_, Try.func66, rfl, by kernel_rfl⟩
theorem TB_65 : TyB Try.prog 65 [(.pointer none)] [(0, 1)] := ⟨_, _, _, Try.underlying65, Try.type65, rfl, rfl, ⟨rfl, ⟨_, Try.type63, rfl⟩, trivial⟩⟩
theorem TV_105 : TyV Try.prog 105 [(.int .u64 0), (.int .i64 0), (.slice none 0 0), (.pointer none)] := ⟨_, _, Try.type105, rfl, rfl⟩
theorem TF_92_0 : TyF Try.prog 92 0 0 := ⟨_, _, _, Try.underlying92, rfl, rfl, Try.type87, by decide⟩
theorem T1_87 : Ty1 Try.prog 87 := ⟨_, Try.underlying87, rfl⟩
theorem TF_105_0 : TyF Try.prog 105 0 0 := ⟨_, _, _, Try.underlying105, rfl, rfl, Try.type87, by decide⟩
theorem TS_87 : TyS Try.prog 87 1 := ⟨_, Try.type87, rfl⟩
theorem TV_111 : TyV Try.prog 111 [(.slice none 0 0)] := ⟨_, _, Try.type111, rfl, rfl⟩
theorem TF_105_3 : TyF Try.prog 105 3 3 := ⟨_, _, _, Try.underlying105, rfl, rfl, Try.type103, by decide⟩
theorem TS_103 : TyS Try.prog 103 1 := ⟨_, Try.type103, rfl⟩
theorem TF_65_0 : TyF Try.prog 65 0 0 := ⟨_, _, _, Try.underlying65, rfl, rfl, Try.type63, by decide⟩
theorem T1_63 : Ty1 Try.prog 63 := ⟨_, Try.underlying63, rfl⟩
theorem TF_105_2 : TyF Try.prog 105 2 2 := ⟨_, _, _, Try.underlying105, rfl, rfl, Try.type102, by decide⟩
theorem T1_102 : Ty1 Try.prog 102 := ⟨_, Try.underlying102, rfl⟩
theorem TB_90 : TyB Try.prog 90 [(.int .i64 0), (.int .i64 0)] [(0, 1), (1, 1)] := ⟨_, _, _, Try.underlying90, Try.type90, rfl, rfl, ⟨rfl, ⟨_, Try.type3, rfl⟩, ⟨rfl, ⟨_, Try.type3, rfl⟩, trivial⟩⟩⟩
theorem TZ_102 : TyZ Try.prog 102 90 2 16 [(.int .i64 0), (.int .i64 0)] := ⟨Try.underlying102, _, _, Try.type90, rfl, rfl, rfl, rfl⟩
theorem TU_102 : ∃ du, Try.prog.underlying 102 = some du ∧ ∀ k, du ≠ .int k := ⟨_, Try.underlying102, by intro k hk; cases hk⟩
theorem TS_102 : TyS Try.prog 102 1 := ⟨_, Try.type102, rfl⟩
theorem T1_103 : Ty1 Try.prog 103 := ⟨_, Try.underlying103, rfl⟩
theorem T1_111 : Ty1 Try.prog 111 := ⟨_, Try.underlying111, rfl⟩
theorem TZ_111 : TyZ Try.prog 111 63 1 8 [(.pointer none)] := ⟨Try.underlying111, _, _, Try.type63, rfl, rfl, rfl, rfl⟩
theorem TU_111 : ∃ du, Try.prog.underlying 111 = some du ∧ ∀ k, du ≠ .int k := ⟨_, Try.underlying111, by intro k hk; cases hk⟩
theorem TS_111 : TyS Try.prog 111 1 := ⟨_, Try.type111, rfl⟩
theorem HB_69 : hasBody Try.prog 69 := ⟨_, Try.func69, rfl, by kernel_rfl⟩
theorem TF_105_1 : TyF Try.prog 105 1 1 := ⟨_, _, _, Try.underlying105, rfl, rfl, Try.type3, by decide⟩
theorem HB_78 : hasBody Try.prog 78 := ⟨_, Try.func78, rfl, by kernel_rfl⟩
theorem TE_111 : TyE Try.prog 111 63 1 := ⟨Try.underlying111, _, Try.type63, rfl⟩
theorem TF_92_2 : TyF Try.prog 92 2 2 := ⟨_, _, _, Try.underlying92, rfl, rfl, Try.type63, by decide⟩
theorem TS_63 : TyS Try.prog 63 1 := ⟨_, Try.type63, rfl⟩
theorem TF_92_3 : TyF Try.prog 92 3 3 := ⟨_, _, _, Try.underlying92, rfl, rfl, Try.type3, by decide⟩
theorem HB_80 : hasBody Try.prog 80 := ⟨_, Try.func80, rfl, by kernel_rfl⟩
theorem TZ_47 : TyZ Try.prog 47 3 1 8 [(.int .i64 0)] := ⟨Try.underlying47, _, _, Try.type3, rfl, rfl, rfl, rfl⟩
theorem HB_92 : hasBody Try.prog 92 := ⟨_, Try.func92, rfl, by kernel_rfl⟩
theorem HB_77 : hasBody Try.prog 77 := ⟨_, Try.func77, rfl, by kernel_rfl⟩
theorem TE_102 : TyE Try.prog 102 90 2 := ⟨Try.underlying102, _, Try.type90, rfl⟩
theorem TF_90_1 : TyF Try.prog 90 1 1 := ⟨_, _, _, Try.underlying90, rfl, rfl, Try.type3, by decide⟩
theorem TU_47 : ∃ du, Try.prog.underlying 47 = some du ∧ ∀ k, du ≠ .int k := ⟨_, Try.underlying47, by intro k hk; cases hk⟩
theorem HB_90 : hasBody Try.prog 90 := ⟨_, Try.func90, rfl, by kernel_rfl⟩
theorem TZ_22 : TyZ Try.prog 22 30 2 16 [(.int .i64 0), (.int .i64 0)] := ⟨Try.underlying22, _, _, Try.type30, rfl, rfl, rfl, rfl⟩
theorem TB_34 : TyB Try.prog 34 [(.slice none 0 0), (.slice none 0 0), (.int .i64 0)] [(0, 1), (1, 1), (2, 1)] := ⟨_, _, _, Try.underlying34, Try.type34, rfl, rfl, ⟨rfl, ⟨_, Try.type22, rfl⟩, ⟨rfl, ⟨_, Try.type32, rfl⟩, ⟨rfl, ⟨_, Try.type3, rfl⟩, trivial⟩⟩⟩⟩
theorem TZ_32 : TyZ Try.prog 32 34 3 56 [(.slice none 0 0), (.slice none 0 0), (.int .i64 0)] := ⟨Try.underlying32, _, _, Try.type34, rfl, rfl, rfl, rfl⟩
theorem HB_32 : hasBody Try.prog 32 := ⟨_, Try.func32, rfl, by kernel_rfl⟩
theorem HB_56 : hasBody Try.prog 56 := ⟨_, Try.func56, rfl, by kernel_rfl⟩
theorem HB_14 : hasBody Try.prog 14 := ⟨_, Try.func14, rfl, by kernel_rfl⟩
theorem HB_15 : hasBody Try.prog 15 := ⟨_, Try.func15, rfl, by kernel_rfl⟩
theorem HB_17 : hasBody Try.prog 17 := ⟨_, Try.func17, rfl, by kernel_rfl⟩
theorem HB_16 : hasBody Try.prog 16 := ⟨_, Try.func16, rfl, by kernel_rfl⟩
theorem HB_13 : hasBody Try.prog 13 := ⟨_, Try.func13, rfl, by kernel_rfl⟩
theorem TB_49 : TyB Try.prog 49 [(.slice none 0 0), (.int .i64 0), (.bool false)] [(0, 1), (1, 1), (2, 1)] := ⟨_, _, _, Try.underlying49, Try.type49, rfl, rfl, ⟨rfl, ⟨_, Try.type47, rfl⟩, ⟨rfl, ⟨_, Try.type3, rfl⟩, ⟨rfl, ⟨_, Try.type4, rfl⟩, trivial⟩⟩⟩⟩
theorem HB_34 : hasBody Try.prog 34 := ⟨_, Try.func34, rfl, by kernel_rfl⟩
theorem HB_47 : hasBody Try.prog 47 := ⟨_, Try.func47, rfl, by kernel_rfl⟩
theorem TF_49_1 : TyF Try.prog 49 1 1 := ⟨_, _, _, Try.underlying49, rfl, rfl, Try.type3, by decide⟩
theorem HB_43 : hasBody Try.prog 43 := ⟨_, Try.func43, rfl, by kernel_rfl⟩
theorem HB_62 : hasBody Try.prog 62 := ⟨_, Try.func62, rfl, by kernel_rfl⟩
theorem TF_49_0 : TyF Try.prog 49 0 0 := ⟨_, _, _, Try.underlying49, rfl, rfl, Try.type47, by decide⟩
theorem T1_47 : Ty1 Try.prog 47 := ⟨_, Try.underlying47, rfl⟩
theorem TU_22 : ∃ du, Try.prog.underlying 22 = some du ∧ ∀ k, du ≠ .int k := ⟨_, Try.underlying22, by intro k hk; cases hk⟩
theorem TV_38 : TyV Try.prog 38 [(.int .i64 0), (.int .i64 0), (.bool false)] := ⟨_, _, Try.type38, rfl, rfl⟩
theorem HB_37 : hasBody Try.prog 37 := ⟨_, Try.func37, rfl, by kernel_rfl⟩
theorem HB_35 : hasBody Try.prog 35 := ⟨_, Try.func35, rfl, by kernel_rfl⟩
theorem TS_38 : TyS Try.prog 38 3 := ⟨_, Try.type38, rfl⟩
theorem TN_38 : TyN Try.prog 38 3 := ⟨⟨_, Try.underlying38, rfl⟩, _, Try.type38, rfl⟩
theorem HB_63 : hasBody Try.prog 63 := ⟨_, Try.func63, rfl, by kernel_rfl⟩
theorem TB_38 : TyB Try.prog 38 [(.int .i64 0), (.int .i64 0), (.bool false)] [(0, 2), (2, 1)] := ⟨_, _, _, Try.underlying38, Try.type38, rfl, rfl, ⟨rfl, ⟨_, Try.type30, rfl⟩, ⟨rfl, ⟨_, Try.type4, rfl⟩, trivial⟩⟩⟩
theorem HB_65 : hasBody Try.prog 65 := ⟨_, Try.func65, rfl, by kernel_rfl⟩
theorem HB_38 : hasBody Try.prog 38 := ⟨_, Try.func38, rfl, by kernel_rfl⟩
def s_Fits.call : FSem := CallsH Try.prog 27
def l_fit.call : FSem := CallsH Try.prog 8
def s_Rank.call : FSem := CallsH Try.prog 51
def s_Before.call : FSem := CallsH Try.prog 28
def s_Rising.call : FSem := CallsH Try.prog 9
def degreeToMinMax.call : FSem := CallsH Try.prog 81
def Map_ii_init.call : FSem := CallsH Try.prog 55
def NewMap_ii.call : FSem := CallsH Try.prog 31
def Map_ii_newNode.call : FSem := CallsH Try.prog 66
def Map_ii_DoorLeaf.call : FSem := CallsH Try.prog 57
def Map_ii_DoorInner.call : FSem := CallsH Try.prog 58
def DoorMapNode_ii_DoorItem.call : FSem := CallsH Try.prog 59
def DoorMapNode_ii_DoorAppend.call : FSem := CallsH Try.prog 60
def mapNode_ii_leaf.call : FSem := CallsH Try.prog 78
def mapNode_ii_updateCount.call : FSem := CallsH Try.prog 69
def DoorMapNode_ii_DoorUpdateCount.call : FSem := CallsH Try.prog 61
def i_plantedMap.call : FSem := CallsH Try.prog 33
def Map_ii_DoorPlant.call : FSem := CallsH Try.prog 64
def i_standMap.call : FSem := CallsH Try.prog 36
def Map_ii_Len.call : FSem := CallsH Try.prog 53
def Map_ii_copy.call : FSem := CallsH Try.prog 90
def Map_ii_isoLoad.call : FSem := CallsH Try.prog 77
def Map_ii_nodeKeyValues.call : FSem := CallsH Try.prog 92
def Map_ii_keyValues.call : FSem := CallsH Try.prog 80
def Map_ii_KeyValues.call : FSem := CallsH Try.prog 52
def Map_ii_Height.call : FSem := CallsH Try.prog 54
def i_DKeyValues.call : FSem := CallsH Try.prog 29
def l_exNode.call : FSem := CallsH Try.prog 30
def l_aliveD.call : FSem := CallsH Try.prog 10
def Map_ii_search.call : FSem := CallsH Try.prog 56
def Map_ii_DoorSearch.call : FSem := CallsH Try.prog 32
def i_DSearch.call : FSem := CallsH Try.prog 11
def s_Place.call : FSem := CallsH Try.prog 12
def l_FnDSearch.call : FSem := CallsH Try.prog 3
def l_zzFits3.call : FSem := CallsH Try.prog 13
def s_NodeItems.call : FSem := CallsH Try.prog 17
def s_Width.call : FSem := CallsH Try.prog 43
def s_Levels.call : FSem := CallsH Try.prog 47
def s_Filled.call : FSem := CallsH Try.prog 62
def s_Valid.call : FSem := CallsH Try.prog 34
def l_validD.call : FSem := CallsH Try.prog 14
def i_found.call : FSem := CallsH Try.prog 63
def i_pair.call : FSem := CallsH Try.prog 35
def Map_ii_getAt.call : FSem := CallsH Try.prog 65
def Map_ii_GetAt.call : FSem := CallsH Try.prog 37
def i_DGetAt.call : FSem := CallsH Try.prog 15
def s_Cut.call : FSem := CallsH Try.prog 38
def s_At.call : FSem := CallsH Try.prog 16
def l_FnDGetAt.call : FSem := CallsH Try.prog 4
end Go.Proofs.Ytdealonhngiaiaa
