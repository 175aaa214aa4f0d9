/-
  The types' facts that the shallow forms ask, and the calls' names. Conditions: none.
-/
import Derived.Test.YtfojeibloilneaaProg
import Derived.Test.YtfojeibloilneaaHy
import Derived.KernelRfl
namespace Go.Proofs.Ytfojeibloilneaa
open Go.Hp
set_option maxRecDepth 100000
set_option maxHeartbeats 8000000
set_option linter.unusedVariables false
set_option linter.unusedSimpArgs false
theorem mixed : Try.prog.follows .mixedOrders = true := by kernel_rfl
theorem HB_23 : hasBody Try.prog 23 := ⟨_, Try.func23, rfl, by kernel_rfl⟩
theorem HB_22 : hasBody Try.prog 22 := ⟨_, Try.func22, rfl, by kernel_rfl⟩
theorem HB_18 : hasBody Try.prog 18 := ⟨_, Try.func18, rfl, by kernel_rfl⟩
theorem TZ_43 : TyZ Try.prog 43 22 1 24 [(.slice none 0 0)] := ⟨Try.underlying43, _, _, Try.type22, rfl, rfl, rfl, rfl⟩
theorem HB_15 : hasBody Try.prog 15 := ⟨_, Try.func15, rfl, by kernel_rfl⟩
theorem HB_11 : hasBody Try.prog 11 := ⟨_, Try.func11, rfl, by kernel_rfl⟩
theorem HB_12 : hasBody Try.prog 12 := ⟨_, Try.func12, rfl, by kernel_rfl⟩
theorem HB_13 : hasBody Try.prog 13 := ⟨_, Try.func13, rfl, by kernel_rfl⟩
theorem TE_22 : TyE Try.prog 22 9 1 := ⟨Try.underlying22, _, Try.type9, rfl⟩
theorem T1_9 : Ty1 Try.prog 9 := ⟨_, Try.underlying9, rfl⟩
theorem HB_9 : hasBody Try.prog 9 := ⟨_, Try.func9, rfl, by kernel_rfl⟩
theorem HB_24 : hasBody Try.prog 24 := ⟨_, Try.func24, rfl, by kernel_rfl⟩
theorem HB_28 : hasBody Try.prog 28 := ⟨_, Try.func28, rfl, by kernel_rfl⟩
theorem TV_65 : TyV Try.prog 65 [(.int .u64 0), (.pointer none), (.pointer none), (.int .i64 0), (.string ⟨#[]⟩), (.int .i64 0), (.int .i64 0), (.bool false), (.bool false)] := ⟨_, _, Try.type65, rfl, rfl⟩
theorem HB_27 : hasBody Try.prog 27 := ⟨_, Try.func27, rfl, by kernel_rfl⟩
theorem TF_65_0 : TyF Try.prog 65 0 0 := ⟨_, _, _, Try.underlying65, rfl, rfl, Try.type63, by decide⟩
theorem TB_59 : TyB Try.prog 59 [] [] := ⟨_, _, _, Try.underlying59, Try.type59, rfl, rfl, trivial⟩
theorem HB_43 : hasBody Try.prog 43 := ⟨_, Try.func43, rfl, by kernel_rfl⟩
theorem TV_59 : TyV Try.prog 59 [] := ⟨_, _, Try.type59, rfl, rfl⟩
theorem TN_59 : TyN Try.prog 59 0 := ⟨⟨_, Try.underlying59, rfl⟩, _, Try.type59, rfl⟩
theorem TB_61 : TyB Try.prog 61 [(.string ⟨#[]⟩)] [(0, 0), (0, 1)] := ⟨_, _, _, Try.underlying61, Try.type61, rfl, rfl, ⟨rfl, ⟨_, Try.type59, rfl⟩, ⟨rfl, ⟨_, Try.type9, rfl⟩, trivial⟩⟩⟩
theorem TV_61 : TyV Try.prog 61 [(.string ⟨#[]⟩)] := ⟨_, _, Try.type61, rfl, rfl⟩
theorem TS_61 : TyS Try.prog 61 1 := ⟨_, Try.type61, rfl⟩
theorem TF_63_2 : TyF Try.prog 63 2 2 := ⟨_, _, _, Try.underlying63, rfl, rfl, Try.type58, by decide⟩
theorem TN_61 : TyN Try.prog 61 1 := ⟨⟨_, Try.underlying61, rfl⟩, _, Try.type61, rfl⟩
theorem HB_56 : hasBody Try.prog 56 := ⟨_, Try.func56, rfl, by kernel_rfl⟩
theorem TS_59 : TyS Try.prog 59 0 := ⟨_, Try.type59, rfl⟩
theorem TF_63_3 : TyF Try.prog 63 3 3 := ⟨_, _, _, Try.underlying63, rfl, rfl, Try.type3, by decide⟩
theorem T1_3 : Ty1 Try.prog 3 := ⟨_, Try.underlying3, rfl⟩
theorem TS_3 : TyS Try.prog 3 1 := ⟨_, Try.type3, rfl⟩
theorem TF_63_4 : TyF Try.prog 63 4 4 := ⟨_, _, _, Try.underlying63, rfl, rfl, Try.type61, by decide⟩
theorem TFZ_61_0 : ∃ fs f j, Try.prog.underlying 61 = some (.struct fs) ∧ fs[0]? = some f ∧ f.offset = 0 ∧ f.byteOffset = 0 ∧ 0 = 0 ∧ Try.prog.info? f.type = some j ∧ j.size = 0 := ⟨_, _, _, Try.underlying61, rfl, rfl, rfl, rfl, Try.type59, rfl⟩
theorem T1_58 : Ty1 Try.prog 58 := ⟨_, Try.underlying58, rfl⟩
theorem HB_57 : hasBody Try.prog 57 := ⟨_, Try.func57, rfl, by kernel_rfl⟩
theorem HB_55 : hasBody Try.prog 55 := ⟨_, Try.func55, rfl, by kernel_rfl⟩
theorem TS_58 : TyS Try.prog 58 1 := ⟨_, Try.type58, rfl⟩
theorem TF_82_3 : TyF Try.prog 82 3 3 := ⟨_, _, _, Try.underlying82, rfl, rfl, Try.type80, by decide⟩
theorem T1_80 : Ty1 Try.prog 80 := ⟨_, Try.underlying80, rfl⟩
theorem TF_63_6 : TyF Try.prog 63 6 6 := ⟨_, _, _, Try.underlying63, rfl, rfl, Try.type3, by decide⟩
theorem TZ_88 : TyZ Try.prog 88 58 1 8 [(.pointer none)] := ⟨Try.underlying88, _, _, Try.type58, rfl, rfl, rfl, rfl⟩
theorem TS_88 : TyS Try.prog 88 1 := ⟨_, Try.type88, rfl⟩
theorem TU_88 : ∃ du, Try.prog.underlying 88 = some du ∧ ∀ k, du ≠ .int k := ⟨_, Try.underlying88, by intro k hk; cases hk⟩
theorem TZ_79 : TyZ Try.prog 79 61 1 16 [(.string ⟨#[]⟩)] := ⟨Try.underlying79, _, _, Try.type61, rfl, rfl, rfl, rfl⟩
theorem TU_79 : ∃ du, Try.prog.underlying 79 = some du ∧ ∀ k, du ≠ .int k := ⟨_, Try.underlying79, by intro k hk; cases hk⟩
theorem TF_82_2 : TyF Try.prog 82 2 2 := ⟨_, _, _, Try.underlying82, rfl, rfl, Try.type79, by decide⟩
theorem TS_79 : TyS Try.prog 79 1 := ⟨_, Try.type79, rfl⟩
theorem HB_58 : hasBody Try.prog 58 := ⟨_, Try.func58, rfl, by kernel_rfl⟩
theorem TF_61_1 : TyF Try.prog 61 1 0 := ⟨_, _, _, Try.underlying61, rfl, rfl, Try.type9, by decide⟩
theorem HB_54 : hasBody Try.prog 54 := ⟨_, Try.func54, rfl, by kernel_rfl⟩
theorem TF_82_1 : TyF Try.prog 82 1 1 := ⟨_, _, _, Try.underlying82, rfl, rfl, Try.type3, by decide⟩
theorem HB_66 : hasBody Try.prog 66 := ⟨_, Try.func66, rfl, by kernel_rfl⟩
theorem TF_63_5 : TyF Try.prog 63 5 5 := ⟨_, _, _, Try.underlying63, rfl, rfl, Try.type3, by decide⟩
theorem TI_59 : ∃ dt, Try.prog.underlying 59 = some dt ∧ ∀ ms, dt ≠ .interface ms := ⟨_, Try.underlying59, by intro k hk; cases hk⟩
theorem TF_63_7 : TyF Try.prog 63 7 7 := ⟨_, _, _, Try.underlying63, rfl, rfl, Try.type4, by decide⟩
theorem TS_4 : TyS Try.prog 4 1 := ⟨_, Try.type4, rfl⟩
theorem T1_4 : Ty1 Try.prog 4 := ⟨_, Try.underlying4, rfl⟩
theorem TF_63_8 : TyF Try.prog 63 8 8 := ⟨_, _, _, Try.underlying63, rfl, rfl, Try.type4, by decide⟩
theorem TV_82 : TyV Try.prog 82 [(.int .u64 0), (.int .i64 0), (.slice none 0 0), (.pointer none)] := ⟨_, _, Try.type82, rfl, rfl⟩
theorem TF_63_0 : TyF Try.prog 63 0 0 := ⟨_, _, _, Try.underlying63, rfl, rfl, Try.type56, by decide⟩
theorem T1_56 : Ty1 Try.prog 56 := ⟨_, Try.underlying56, rfl⟩
theorem TF_82_0 : TyF Try.prog 82 0 0 := ⟨_, _, _, Try.underlying82, rfl, rfl, Try.type56, by decide⟩
theorem TS_56 : TyS Try.prog 56 1 := ⟨_, Try.type56, rfl⟩
theorem TV_88 : TyV Try.prog 88 [(.slice none 0 0)] := ⟨_, _, Try.type88, rfl, rfl⟩
theorem TS_80 : TyS Try.prog 80 1 := ⟨_, Try.type80, rfl⟩
theorem HB_62 : hasBody Try.prog 62 := ⟨_, Try.func62, rfl, by kernel_rfl⟩
theorem TV_58 : TyV Try.prog 58 [(.pointer none)] := ⟨_, _, Try.type58, rfl, rfl⟩
theorem HB_67 : hasBody Try.prog 67 := ⟨_, Try.func67, rfl, by kernel_rfl⟩
theorem T1_88 : Ty1 Try.prog 88 := ⟨_, Try.underlying88, rfl⟩
theorem TE_88 : TyE Try.prog 88 58 1 := ⟨Try.underlying88, _, Try.type58, rfl⟩
theorem T1_79 : Ty1 Try.prog 79 := ⟨_, Try.underlying79, rfl⟩
theorem TE_79 : TyE Try.prog 79 61 1 := ⟨Try.underlying79, _, Try.type61, rfl⟩
theorem HB_63 : hasBody Try.prog 63 := ⟨_, Try.func63, rfl, by kernel_rfl⟩
theorem HB_68 : hasBody Try.prog 68 := ⟨_, Try.func68, rfl, by kernel_rfl⟩
theorem HB_44 : hasBody Try.prog 44 := ⟨_, Try.func44, rfl, by kernel_rfl⟩
theorem HB_59 : hasBody Try.prog 59 := ⟨_, Try.func59, rfl, by kernel_rfl⟩
theorem TZ_22 : TyZ Try.prog 22 9 1 16 [(.string ⟨#[]⟩)] := ⟨Try.underlying22, _, _, Try.type9, rfl, rfl, rfl, rfl⟩
theorem HB_60 : hasBody Try.prog 60 := ⟨_, Try.func60, rfl, by kernel_rfl⟩
theorem TU_22 : ∃ du, Try.prog.underlying 22 = some du ∧ ∀ k, du ≠ .int k := ⟨_, Try.underlying22, by intro k hk; cases hk⟩
theorem HB_30 : hasBody Try.prog 30 := ⟨_, Try.func30, rfl, by kernel_rfl⟩
theorem TE_43 : TyE Try.prog 43 22 1 := ⟨Try.underlying43, _, Try.type22, rfl⟩
theorem T1_22 : Ty1 Try.prog 22 := ⟨_, Try.underlying22, rfl⟩
theorem TI_9 : ∃ dt, Try.prog.underlying 9 = some dt ∧ ∀ ms, dt ≠ .interface ms := ⟨_, Try.underlying9, by intro k hk; cases hk⟩
theorem TV_22 : TyV Try.prog 22 [(.slice none 0 0)] := ⟨_, _, Try.type22, rfl, rfl⟩
theorem HB_34 : hasBody Try.prog 34 := ⟨_, Try.func34, rfl, by kernel_rfl⟩
theorem HB_33 : hasBody Try.prog 33 := ⟨_, Try.func33, rfl, by kernel_rfl⟩
theorem HB_47 : hasBody Try.prog 47 := ⟨_, Try.func47, rfl, by kernel_rfl⟩
theorem HB_64 : hasBody Try.prog 64 := ⟨_, Try.func64, rfl, by kernel_rfl⟩
theorem HB_69 : hasBody Try.prog 69 := ⟨_, Try.func69, rfl, by kernel_rfl⟩
theorem HB_71 : hasBody Try.prog 71 := ⟨_, Try.func71, rfl, by kernel_rfl⟩
theorem T1_46 : Ty1 Try.prog 46 := ⟨_, Try.underlying46, rfl⟩
theorem T1_48 : Ty1 Try.prog 48 := ⟨_, Try.underlying48, rfl⟩
theorem TS_22 : TyS Try.prog 22 1 := ⟨_, Try.type22, rfl⟩
theorem HB_38 : hasBody Try.prog 38 := ⟨_, Try.func38, rfl, by kernel_rfl⟩
theorem HB_39 : hasBody Try.prog 39 := ⟨_, Try.func39, rfl, by kernel_rfl⟩
theorem TS_9 : TyS Try.prog 9 1 := ⟨_, Try.type9, rfl⟩
theorem HB_40 : hasBody Try.prog 40 := ⟨_, Try.func40, rfl, by kernel_rfl⟩
theorem HB_51 : hasBody Try.prog 51 := ⟨_, Try.func51, rfl, by kernel_rfl⟩
theorem HB_65 : hasBody Try.prog 65 := ⟨_, Try.func65, rfl, by kernel_rfl⟩
theorem HB_70 : hasBody Try.prog 70 := ⟨_, Try.func70, rfl, by kernel_rfl⟩
theorem HB_72 : hasBody Try.prog 72 := ⟨_, Try.func72, rfl, by kernel_rfl⟩
def l_zzFits13.call : FSem := CallsH Try.prog 9
def degreeToMinMax.call : FSem := CallsH Try.prog 66
def Map_su_init.call : FSem := CallsH Try.prog 54
def Map_su_newNode.call : FSem := CallsH Try.prog 55
def mapNode_su_leaf.call : FSem := CallsH Try.prog 63
def mapNode_su_updateCount.call : FSem := CallsH Try.prog 58
def Map_su_nodeSplit.call : FSem := CallsH Try.prog 57
def Map_su_copy.call : FSem := CallsH Try.prog 68
def Map_su_isoLoad.call : FSem := CallsH Try.prog 62
def Map_su_search.call : FSem := CallsH Try.prog 67
def Map_su_nodeSet.call : FSem := CallsH Try.prog 56
def Map_su_Set.call : FSem := CallsH Try.prog 43
def Set_s_Insert.call : FSem := CallsH Try.prog 27
def i_growTexts.call : FSem := CallsH Try.prog 24
def Map_su_Len.call : FSem := CallsH Try.prog 59
def mapNode_su_keys.call : FSem := CallsH Try.prog 60
def Map_su_Keys.call : FSem := CallsH Try.prog 44
def Set_s_Keys.call : FSem := CallsH Try.prog 28
def i_TInsert.call : FSem := CallsH Try.prog 11
def sl_Equal_ss.call : FSem := CallsH Try.prog 12
def l_aliveT.call : FSem := CallsH Try.prog 13
def sl_Grow_ss.call : FSem := CallsH Try.prog 30
def sl_Concat_ss.call : FSem := CallsH Try.prog 15
def Map_su_nodeScan.call : FSem := CallsH Try.prog 71
def Map_su_nodeAscend.call : FSem := CallsH Try.prog 69
def Map_su_ascend.call : FSem := CallsH Try.prog 64
def Map_su_Ascend.call : FSem := CallsH Try.prog 47
def Set_s_Ascend_c1.call : FSem := CallsH Try.prog 48
def Set_s_Ascend.call : FSem := CallsH Try.prog 33
def i_taker_s_c1.call : FSem := CallsH Try.prog 49
def i_taker_s.call : FSem := CallsH Try.prog 34
def i_TAscend.call : FSem := CallsH Try.prog 18
def sl_Clone_ss.call : FSem := CallsH Try.prog 38
def sl_Reverse_ss.call : FSem := CallsH Try.prog 39
def l_turned_s.call : FSem := CallsH Try.prog 22
def Map_su_nodeReverse.call : FSem := CallsH Try.prog 72
def Map_su_nodeDescend.call : FSem := CallsH Try.prog 70
def Map_su_descend.call : FSem := CallsH Try.prog 65
def Map_su_Descend.call : FSem := CallsH Try.prog 51
def Set_s_Descend_c1.call : FSem := CallsH Try.prog 52
def Set_s_Descend.call : FSem := CallsH Try.prog 40
def i_TDescend.call : FSem := CallsH Try.prog 23
def l_FnTSplits.call : FSem := CallsH Try.prog 8
end Go.Proofs.Ytfojeibloilneaa
