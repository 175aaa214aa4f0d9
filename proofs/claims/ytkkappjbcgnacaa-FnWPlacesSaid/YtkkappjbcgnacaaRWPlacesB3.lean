/-
  Texts of this claim, laid together: S33 S34 S35 S36 S41 K0Si KaSi KbSi KcSi KdSi KeSi.
  Conditions: as each of them tells.
-/
import Derived.Test.YtkkappjbcgnacaaRWPlacesB2
section
namespace Go.Proofs.Ytkkappjbcgnacaa
open Go.Hp
set_option maxRecDepth 100000
set_option maxHeartbeats 8000000
set_option linter.unusedVariables false
set_option linter.unusedSimpArgs false

/-! ### (*pub/tidwallbtree.Map[string, int]).nodeRebalance -/
def Map_si_nodeRebalance.j2 (s0 s1 s2 s6 s7 : Value) (h : Heap) (Q : Value → Heap → Prop) : Prop := nilck s6 fun b=>fld 1 b fun d=>load1 d h fun g=>nilck s7 fun i=>fld 1 i fun j=>load1 j h fun k=>arith (· + ·) k (.int .i64 1) fun l=>arith (· + ·) g l fun m=>nilck s6 fun n=>fld 1 n fun o=>store1 o m h fun h=>nilck s1 fun p=>fld 2 p fun q=>load1 q h fun u=>slc 2 u (some s2) none none fun v=>nilck s1 fun w=>fld 2 w fun x=>load1 x h fun y=>arith (· + ·) s2 (.int .i64 1) fun z=>slc 2 y (some z) none none fun b0=>cpy 2 v b0 h fun b1 h=>nilck s1 fun b2=>fld 2 b2 fun b3=>load1 b3 h fun b4=>nilck s1 fun b5=>fld 2 b5 fun b6=>load1 b6 h fun b7=>lenV b7 fun b8=>arith (· - ·) b8 (.int .i64 1) fun b9=>nilck s0 fun d0=>fld 4 d0 fun d1=>loadN 2 d1 h fun d2=>idx 2 b4 b9 fun d3=>storeN 2 d3 d2 h fun h=>nilck s1 fun d4=>fld 2 d4 fun d5=>load1 d5 h fun d6=>nilck s1 fun d7=>fld 2 d7 fun d8=>load1 d8 h fun d9=>lenV d9 fun g0=>arith (· - ·) g0 (.int .i64 1) fun g1=>slc 2 d6 none (some g1) none fun g2=>nilck s1 fun g3=>fld 2 g3 fun g4=>store1 g4 g2 h fun h=>nilck s1 fun g5=>fld 3 g5 fun g6=>load1 g6 h fun g7=>nilck g7 fun g8=>load1 g8 h fun g9=>arith (· + ·) s2 (.int .i64 1) fun i0=>slc 1 g9 (some i0) none none fun i1=>nilck s1 fun i2=>fld 3 i2 fun i3=>load1 i3 h fun i4=>nilck i4 fun i5=>load1 i5 h fun i6=>arith (· + ·) s2 (.int .i64 2) fun i7=>slc 1 i6 (some i7) none none fun i8=>cpy 1 i1 i8 h fun i9 h=>nilck s1 fun j0=>fld 3 j0 fun j1=>load1 j1 h fun j2=>nilck j2 fun j3=>load1 j3 h fun j4=>nilck s1 fun j5=>fld 3 j5 fun j6=>load1 j6 h fun j7=>nilck j7 fun j8=>load1 j8 h fun j9=>lenV j9 fun k0=>arith (· - ·) k0 (.int .i64 1) fun k1=>idx 1 j4 k1 fun k2=>store1 k2 (.pointer none) h fun h=>nilck s1 fun k3=>fld 3 k3 fun k4=>load1 k4 h fun k5=>nilck s1 fun k6=>fld 3 k6 fun k7=>load1 k7 h fun k8=>nilck k8 fun k9=>load1 k9 h fun l0=>nilck s1 fun l1=>fld 3 l1 fun l2=>load1 l2 h fun l3=>nilck l3 fun l4=>load1 l4 h fun l5=>lenV l5 fun l6=>arith (· - ·) l6 (.int .i64 1) fun l7=>slc 1 l0 none (some l7) none fun l8=>nilck k5 fun l9=>store1 l9 l8 h fun h=>Q (.tuple #[]) h
def Map_si_nodeRebalance.j1 (s0 s1 s2 : Value) (h : Heap) (Q : Value → Heap → Prop) : Prop := nilck s1 fun b=>fld 3 b fun d=>load1 d h fun g=>nilck g fun i=>load1 i h fun j=>idx 1 j s2 fun k=>Map_si_isoLoad.call #[s0, k, (.bool true)] h fun l h=>nilck s1 fun m=>fld 3 m fun n=>load1 n h fun o=>nilck o fun p=>load1 p h fun q=>arith (· + ·) s2 (.int .i64 1) fun u=>idx 1 q u fun v=>Map_si_isoLoad.call #[s0, v, (.bool true)] h fun w h=>nilck l fun x=>fld 2 x fun y=>load1 y h fun z=>lenV z fun b0=>nilck w fun b1=>fld 2 b1 fun b2=>load1 b2 h fun b3=>lenV b3 fun b4=>arith (· + ·) b0 b4 fun b5=>nilck s0 fun b6=>fld 7 b6 fun b7=>load1 b7 h fun b8=>cmpI (fun a b=>decide (a < b)) b5 b8 fun b9=>ifV b9 (nilck l fun d0=>fld 2 d0 fun d1=>load1 d1 h fun d2=>nilck s1 fun d3=>fld 2 d3 fun d4=>load1 d4 h fun d5=>idx 2 d5 s2 fun d6=>loadN 2 d6 h fun d7=>mkSl (if 1 * 2 = 0 then [] else zeros [(.int .i64 0), (.string ⟨#[]⟩)] 1) 1 [(0 * 2, 2, d7)] 283 h fun d8 h=>still1 d1 d2 h ∧ app 283 2 24 [(.int .i64 0), (.string ⟨#[]⟩)] d2 d8 h fun d9 h=>nilck l fun g0=>fld 2 g0 fun g1=>store1 g1 d9 h fun h=>nilck l fun g2=>fld 2 g2 fun g3=>load1 g3 h fun g4=>nilck w fun g5=>fld 2 g5 fun g6=>load1 g6 h fun g7=>app 283 2 24 [(.int .i64 0), (.string ⟨#[]⟩)] g4 g7 h fun g8 h=>nilck l fun g9=>fld 2 g9 fun i0=>store1 i0 g8 h fun h=>mapNode_si_leaf.call #[l] h fun i1 h=>notV i1 fun i2=>ifV i2 (nilck l fun i3=>fld 3 i3 fun i4=>load1 i4 h fun i5=>nilck l fun i6=>fld 3 i6 fun i7=>load1 i7 h fun i8=>nilck i8 fun i9=>load1 i9 h fun j0=>nilck w fun j1=>fld 3 j1 fun j2=>load1 j2 h fun j3=>nilck j3 fun j4=>load1 j4 h fun j5=>app 281 1 8 [(.pointer none)] j0 j5 h fun j6 h=>still1 i4 i5 h ∧ nilck i5 fun j7=>store1 j7 j6 h fun h=>Map_si_nodeRebalance.j2 s0 s1 s2 l w h Q) (Map_si_nodeRebalance.j2 s0 s1 s2 l w h Q)) (nilck l fun j8=>fld 2 j8 fun j9=>load1 j9 h fun k0=>lenV k0 fun k1=>nilck w fun k2=>fld 2 k2 fun k3=>load1 k3 h fun k4=>lenV k4 fun k5=>cmpI (fun a b=>decide (a > b)) k1 k5 fun k6=>ifV k6 (nilck w fun k7=>fld 2 k7 fun k8=>load1 k8 h fun k9=>nilck s0 fun l0=>fld 4 l0 fun l1=>loadN 2 l1 h fun l2=>mkSl (if 1 * 2 = 0 then [] else zeros [(.int .i64 0), (.string ⟨#[]⟩)] 1) 1 [(0 * 2, 2, l2)] 283 h fun l3 h=>still1 k8 k9 h ∧ app 283 2 24 [(.int .i64 0), (.string ⟨#[]⟩)] k9 l3 h fun l4 h=>nilck w fun l5=>fld 2 l5 fun l6=>store1 l6 l4 h fun h=>nilck w fun l7=>fld 2 l7 fun l8=>load1 l8 h fun l9=>slc 2 l9 (some (.int .i64 1)) none none fun m0=>nilck w fun m1=>fld 2 m1 fun m2=>load1 m2 h fun m3=>cpy 2 m0 m3 h fun m4 h=>nilck w fun m5=>fld 2 m5 fun m6=>load1 m6 h fun m7=>nilck s1 fun m8=>fld 2 m8 fun m9=>load1 m9 h fun n0=>idx 2 n0 s2 fun n1=>loadN 2 n1 h fun n2=>idx 2 m7 (.int .i64 0) fun n3=>storeN 2 n3 n2 h fun h=>nilck w fun n4=>fld 1 n4 fun n5=>load1 n5 h fun n6=>arith (· + ·) n6 (.int .i64 1) fun n7=>nilck w fun n8=>fld 1 n8 fun n9=>store1 n9 n7 h fun h=>nilck s1 fun o0=>fld 2 o0 fun o1=>load1 o1 h fun o2=>nilck l fun o3=>fld 2 o3 fun o4=>load1 o4 h fun o5=>nilck l fun o6=>fld 2 o6 fun o7=>load1 o7 h fun o8=>lenV o8 fun o9=>arith (· - ·) o9 (.int .i64 1) fun p0=>idx 2 o5 p0 fun p1=>loadN 2 p1 h fun p2=>idx 2 o2 s2 fun p3=>storeN 2 p3 p2 h fun h=>nilck l fun p4=>fld 2 p4 fun p5=>load1 p5 h fun p6=>nilck l fun p7=>fld 2 p7 fun p8=>load1 p8 h fun p9=>lenV p9 fun q0=>arith (· - ·) q0 (.int .i64 1) fun q1=>nilck s0 fun q2=>fld 4 q2 fun q3=>loadN 2 q3 h fun q4=>idx 2 p6 q1 fun q5=>storeN 2 q5 q4 h fun h=>nilck l fun q6=>fld 2 q6 fun q7=>load1 q7 h fun q8=>nilck l fun q9=>fld 2 q9 fun u0=>load1 u0 h fun u1=>lenV u1 fun u2=>arith (· - ·) u2 (.int .i64 1) fun u3=>slc 2 q8 none (some u3) none fun u4=>nilck l fun u5=>fld 2 u5 fun u6=>store1 u6 u4 h fun h=>nilck l fun u7=>fld 1 u7 fun u8=>load1 u8 h fun u9=>arith (· - ·) u9 (.int .i64 1) fun v0=>nilck l fun v1=>fld 1 v1 fun v2=>store1 v2 v0 h fun h=>mapNode_si_leaf.call #[l] h fun v3 h=>notV v3 fun v4=>ifV v4 (nilck w fun v5=>fld 3 v5 fun v6=>load1 v6 h fun v7=>nilck w fun v8=>fld 3 v8 fun v9=>load1 v9 h fun w0=>nilck w0 fun w1=>load1 w1 h fun w2=>mkSl (if 1 * 1 = 0 then [] else zeros [(.pointer none)] 1) 1 [(0 * 1, 1, (.pointer none))] 281 h fun w3 h=>still1 v6 v7 h ∧ still1 v9 w0 h ∧ still1 w1 w2 h ∧ app 281 1 8 [(.pointer none)] w2 w3 h fun w4 h=>still1 v6 v7 h ∧ nilck v7 fun w5=>store1 w5 w4 h fun h=>nilck w fun w6=>fld 3 w6 fun w7=>load1 w7 h fun w8=>nilck w8 fun w9=>load1 w9 h fun x0=>slc 1 x0 (some (.int .i64 1)) none none fun x1=>nilck w fun x2=>fld 3 x2 fun x3=>load1 x3 h fun x4=>nilck x4 fun x5=>load1 x5 h fun x6=>cpy 1 x1 x6 h fun x7 h=>nilck w fun x8=>fld 3 x8 fun x9=>load1 x9 h fun y0=>nilck y0 fun y1=>load1 y1 h fun y2=>nilck l fun y3=>fld 3 y3 fun y4=>load1 y4 h fun y5=>nilck y5 fun y6=>load1 y6 h fun y7=>nilck l fun y8=>fld 3 y8 fun y9=>load1 y9 h fun z0=>nilck z0 fun z1=>load1 z1 h fun z2=>lenV z2 fun z3=>arith (· - ·) z3 (.int .i64 1) fun z4=>idx 1 y7 z4 fun z5=>load1 z5 h fun z6=>idx 1 y2 (.int .i64 0) fun z7=>store1 z7 z6 h fun h=>nilck l fun z8=>fld 3 z8 fun z9=>load1 z9 h fun b0_0=>nilck b0_0 fun b1_0=>load1 b1_0 h fun b2_0=>nilck l fun b3_0=>fld 3 b3_0 fun b4_0=>load1 b4_0 h fun b5_0=>nilck b5_0 fun b6_0=>load1 b6_0 h fun b7_0=>lenV b7_0 fun b8_0=>arith (· - ·) b8_0 (.int .i64 1) fun b9_0=>idx 1 b2_0 b9_0 fun d0_0=>store1 d0_0 (.pointer none) h fun h=>nilck l fun d1_0=>fld 3 d1_0 fun d2_0=>load1 d2_0 h fun d3_0=>nilck l fun d4_0=>fld 3 d4_0 fun d5_0=>load1 d5_0 h fun d6_0=>nilck d6_0 fun d7_0=>load1 d7_0 h fun d8_0=>nilck l fun d9_0=>fld 3 d9_0 fun g0_0=>load1 g0_0 h fun g1_0=>nilck g1_0 fun g2_0=>load1 g2_0 h fun g3_0=>lenV g3_0 fun g4_0=>arith (· - ·) g4_0 (.int .i64 1) fun g5_0=>slc 1 d8_0 none (some g5_0) none fun g6_0=>nilck d3_0 fun g7_0=>store1 g7_0 g6_0 h fun h=>nilck l fun g8_0=>fld 1 g8_0 fun g9_0=>load1 g9_0 h fun i0_0=>nilck w fun i1_0=>fld 3 i1_0 fun i2_0=>load1 i2_0 h fun i3_0=>nilck i3_0 fun i4_0=>load1 i4_0 h fun i5_0=>idx 1 i5_0 (.int .i64 0) fun i6_0=>load1 i6_0 h fun i7_0=>nilck i7_0 fun i8_0=>fld 1 i8_0 fun i9_0=>load1 i9_0 h fun j0_0=>arith (· - ·) i0_0 j0_0 fun j1_0=>nilck l fun j2_0=>fld 1 j2_0 fun j3_0=>store1 j3_0 j1_0 h fun h=>nilck w fun j4_0=>fld 1 j4_0 fun j5_0=>load1 j5_0 h fun j6_0=>nilck w fun j7_0=>fld 3 j7_0 fun j8_0=>load1 j8_0 h fun j9_0=>nilck j9_0 fun k0_0=>load1 k0_0 h fun k1_0=>idx 1 k1_0 (.int .i64 0) fun k2_0=>load1 k2_0 h fun k3_0=>nilck k3_0 fun k4_0=>fld 1 k4_0 fun k5_0=>load1 k5_0 h fun k6_0=>arith (· + ·) j6_0 k6_0 fun k7_0=>nilck w fun k8_0=>fld 1 k8_0 fun k9_0=>store1 k9_0 k7_0 h fun h=>Q (.tuple #[]) h) (Q (.tuple #[]) h)) (nilck l fun l0_0=>fld 2 l0_0 fun l1_0=>load1 l1_0 h fun l2_0=>nilck s1 fun l3_0=>fld 2 l3_0 fun l4_0=>load1 l4_0 h fun l5_0=>idx 2 l5_0 s2 fun l6_0=>loadN 2 l6_0 h fun l7_0=>mkSl (if 1 * 2 = 0 then [] else zeros [(.int .i64 0), (.string ⟨#[]⟩)] 1) 1 [(0 * 2, 2, l7_0)] 283 h fun l8_0 h=>still1 l1_0 l2_0 h ∧ app 283 2 24 [(.int .i64 0), (.string ⟨#[]⟩)] l2_0 l8_0 h fun l9_0 h=>nilck l fun m0_0=>fld 2 m0_0 fun m1_0=>store1 m1_0 l9_0 h fun h=>nilck l fun m2_0=>fld 1 m2_0 fun m3_0=>load1 m3_0 h fun m4_0=>arith (· + ·) m4_0 (.int .i64 1) fun m5_0=>nilck l fun m6_0=>fld 1 m6_0 fun m7_0=>store1 m7_0 m5_0 h fun h=>nilck s1 fun m8_0=>fld 2 m8_0 fun m9_0=>load1 m9_0 h fun n0_0=>nilck w fun n1_0=>fld 2 n1_0 fun n2_0=>load1 n2_0 h fun n3_0=>idx 2 n3_0 (.int .i64 0) fun n4_0=>loadN 2 n4_0 h fun n5_0=>idx 2 n0_0 s2 fun n6_0=>storeN 2 n6_0 n5_0 h fun h=>nilck w fun n7_0=>fld 2 n7_0 fun n8_0=>load1 n8_0 h fun n9_0=>nilck w fun o0_0=>fld 2 o0_0 fun o1_0=>load1 o1_0 h fun o2_0=>slc 2 o2_0 (some (.int .i64 1)) none none fun o3_0=>cpy 2 n9_0 o3_0 h fun o4_0 h=>nilck w fun o5_0=>fld 2 o5_0 fun o6_0=>load1 o6_0 h fun o7_0=>nilck w fun o8_0=>fld 2 o8_0 fun o9_0=>load1 o9_0 h fun p0_0=>lenV p0_0 fun p1_0=>arith (· - ·) p1_0 (.int .i64 1) fun p2_0=>nilck s0 fun p3_0=>fld 4 p3_0 fun p4_0=>loadN 2 p4_0 h fun p5_0=>idx 2 o7_0 p2_0 fun p6_0=>storeN 2 p6_0 p5_0 h fun h=>nilck w fun p7_0=>fld 2 p7_0 fun p8_0=>load1 p8_0 h fun p9_0=>nilck w fun q0_0=>fld 2 q0_0 fun q1_0=>load1 q1_0 h fun q2_0=>lenV q2_0 fun q3_0=>arith (· - ·) q3_0 (.int .i64 1) fun q4_0=>slc 2 p9_0 none (some q4_0) none fun q5_0=>nilck w fun q6_0=>fld 2 q6_0 fun q7_0=>store1 q7_0 q5_0 h fun h=>nilck w fun q8_0=>fld 1 q8_0 fun q9_0=>load1 q9_0 h fun u0_0=>arith (· - ·) u0_0 (.int .i64 1) fun u1_0=>nilck w fun u2_0=>fld 1 u2_0 fun u3_0=>store1 u3_0 u1_0 h fun h=>mapNode_si_leaf.call #[l] h fun u4_0 h=>notV u4_0 fun u5_0=>ifV u5_0 (nilck l fun u6_0=>fld 3 u6_0 fun u7_0=>load1 u7_0 h fun u8_0=>nilck l fun u9_0=>fld 3 u9_0 fun v0_0=>load1 v0_0 h fun v1_0=>nilck v1_0 fun v2_0=>load1 v2_0 h fun v3_0=>nilck w fun v4_0=>fld 3 v4_0 fun v5_0=>load1 v5_0 h fun v6_0=>nilck v6_0 fun v7_0=>load1 v7_0 h fun v8_0=>idx 1 v8_0 (.int .i64 0) fun v9_0=>load1 v9_0 h fun w0_0=>mkSl (if 1 * 1 = 0 then [] else zeros [(.pointer none)] 1) 1 [(0 * 1, 1, w0_0)] 281 h fun w1_0 h=>still1 u7_0 u8_0 h ∧ still1 v0_0 v1_0 h ∧ still1 v2_0 v3_0 h ∧ app 281 1 8 [(.pointer none)] v3_0 w1_0 h fun w2_0 h=>still1 u7_0 u8_0 h ∧ nilck u8_0 fun w3_0=>store1 w3_0 w2_0 h fun h=>nilck w fun w4_0=>fld 3 w4_0 fun w5_0=>load1 w5_0 h fun w6_0=>nilck w6_0 fun w7_0=>load1 w7_0 h fun w8_0=>nilck w fun w9_0=>fld 3 w9_0 fun x0_0=>load1 x0_0 h fun x1_0=>nilck x1_0 fun x2_0=>load1 x2_0 h fun x3_0=>slc 1 x3_0 (some (.int .i64 1)) none none fun x4_0=>cpy 1 w8_0 x4_0 h fun x5_0 h=>nilck w fun x6_0=>fld 3 x6_0 fun x7_0=>load1 x7_0 h fun x8_0=>nilck x8_0 fun x9_0=>load1 x9_0 h fun y0_0=>nilck w fun y1_0=>fld 3 y1_0 fun y2_0=>load1 y2_0 h fun y3_0=>nilck y3_0 fun y4_0=>load1 y4_0 h fun y5_0=>lenV y5_0 fun y6_0=>arith (· - ·) y6_0 (.int .i64 1) fun y7_0=>idx 1 y0_0 y7_0 fun y8_0=>store1 y8_0 (.pointer none) h fun h=>nilck w fun y9_0=>fld 3 y9_0 fun z0_0=>load1 z0_0 h fun z1_0=>nilck w fun z2_0=>fld 3 z2_0 fun z3_0=>load1 z3_0 h fun z4_0=>nilck z4_0 fun z5_0=>load1 z5_0 h fun z6_0=>nilck w fun z7_0=>fld 3 z7_0 fun z8_0=>load1 z8_0 h fun z9_0=>nilck z9_0 fun b0_1=>load1 b0_1 h fun b1_1=>lenV b1_1 fun b2_1=>arith (· - ·) b2_1 (.int .i64 1) fun b3_1=>slc 1 z6_0 none (some b3_1) none fun b4_1=>nilck z1_0 fun b5_1=>store1 b5_1 b4_1 h fun h=>nilck l fun b6_1=>fld 1 b6_1 fun b7_1=>load1 b7_1 h fun b8_1=>nilck l fun b9_1=>fld 3 b9_1 fun d0_1=>load1 d0_1 h fun d1_1=>nilck d1_1 fun d2_1=>load1 d2_1 h fun d3_1=>nilck l fun d4_1=>fld 3 d4_1 fun d5_1=>load1 d5_1 h fun d6_1=>nilck d6_1 fun d7_1=>load1 d7_1 h fun d8_1=>lenV d8_1 fun d9_1=>arith (· - ·) d9_1 (.int .i64 1) fun g0_1=>idx 1 d3_1 g0_1 fun g1_1=>load1 g1_1 h fun g2_1=>nilck g2_1 fun g3_1=>fld 1 g3_1 fun g4_1=>load1 g4_1 h fun g5_1=>arith (· + ·) b8_1 g5_1 fun g6_1=>nilck l fun g7_1=>fld 1 g7_1 fun g8_1=>store1 g8_1 g6_1 h fun h=>nilck w fun g9_1=>fld 1 g9_1 fun i0_1=>load1 i0_1 h fun i1_1=>nilck l fun i2_1=>fld 3 i2_1 fun i3_1=>load1 i3_1 h fun i4_1=>nilck i4_1 fun i5_1=>load1 i5_1 h fun i6_1=>nilck l fun i7_1=>fld 3 i7_1 fun i8_1=>load1 i8_1 h fun i9_1=>nilck i9_1 fun j0_1=>load1 j0_1 h fun j1_1=>lenV j1_1 fun j2_1=>arith (· - ·) j2_1 (.int .i64 1) fun j3_1=>idx 1 i6_1 j3_1 fun j4_1=>load1 j4_1 h fun j5_1=>nilck j5_1 fun j6_1=>fld 1 j6_1 fun j7_1=>load1 j7_1 h fun j8_1=>arith (· - ·) i1_1 j8_1 fun j9_1=>nilck w fun k0_1=>fld 1 k0_1 fun k1_1=>store1 k1_1 j9_1 h fun h=>Q (.tuple #[]) h) (Q (.tuple #[]) h)))
def Map_si_nodeRebalance.sh (a0 a1 a2 : Value) (h : Heap) (Q : Value → Heap → Prop) : Prop := nilck a1 fun b=>fld 2 b fun d=>load1 d h fun g=>lenV g fun i=>cmpI (fun a b=>a == b) a2 i fun j=>ifV j (arith (· - ·) a2 (.int .i64 1) fun k=>Map_si_nodeRebalance.j1 a0 a1 k h Q) (Map_si_nodeRebalance.j1 a0 a1 a2 h Q)
theorem Map_si_nodeRebalance.body (a0 a1 a2 : Value) (h : Heap) (Q : Value → Heap → Prop) (H : Map_si_nodeRebalance.sh a0 a1 a2 h Q) : Map_si_nodeRebalance.call #[a0, a1, a2] h Q := by
  refine callsH_of (args := [a0, a1, a2]) Try.func268 rfl rfl ?_
  unfold Map_si_nodeRebalance.sh at H
  refine WPc_seq (fun e h => Map_si_nodeRebalance.j1 (e 0) (e 1) (e 2) h Q) ?_ (fun e h H => ?_)
  rotate_left
  · unfold Map_si_nodeRebalance.j1 at H
    refine sR <| nM (e 0) rfl <| nM (e 1) rfl <| nP R_nil H fun _ H => nP (R_fld TF_292_3) H fun _ H => nL T1_290 H fun _ H => nP R_nil H fun _ H => nL T1_293 H fun _ H => nM (e 2) rfl <| nP (R_idx TE_293) H fun _ H => vl_n <| H_call HB_169 H fun t26 h H => nS t26 rfl <| vl_e <| sR ?_
    refine nM (e 0) rfl <| nM (e 1) rfl <| nP R_nil H fun _ H => nP (R_fld TF_292_3) H fun _ H => nL T1_290 H fun _ H => nP R_nil H fun _ H => nL T1_293 H fun _ H => nM (e 2) rfl <| nP R_add H fun _ H => nP (R_idx TE_293) H fun _ H => vl_n <| H_call HB_169 H fun t37 h H => nS t37 rfl <| vl_e <| WPc_seq' ?_
    refine W_drawn [0, 1, 3, 7, 15, 0, 32, 96, 224, 480, 1023, 0, 2048, 6144, 14336, 32767] (.take 0 (.take 1 (.take 2 (.take 3 (.take 4 (.take 5 (.take 6 (.take 7 (.take 8 (.take 9 (.take 10 (.take 11 (.take 12 (.take 13 (.take 14 (.take 15 .done)))))))))))))))) mixed (by kernel_rfl) <| pM t26 rfl rfl <| pP rfl R_nil H fun _ H => pP rfl (R_fld TF_292_2) H fun _ H => pL rfl T1_289 H fun _ _ _ H => pP rfl (R_len Try.underlying289) H fun _ H => pM t37 rfl rfl <| pP rfl R_nil H fun _ H => pP rfl (R_fld TF_292_2) H fun _ H => pL rfl T1_289 H fun _ _ _ H => pP rfl (R_len Try.underlying289) H fun _ H => pP rfl R_add H fun _ H => pM (e 0) rfl rfl <| pP rfl R_nil H fun _ H => ?_
    refine pP rfl (R_fld TF_285_6) H fun _ H => pL rfl T1_3 H fun _ _ _ H => pP rfl R_lss H fun _ H => vp_done ?_
    refine cI H (fun H => ?_) fun H => ?_
    · refine WPc_seq' <| W_drawn [0, 0, 2, 6, 14, 0, 32, 96, 224, 0, 992, 2016, 4064, 8190, 16383, 32767, 65535] (.take 0 (.take 1 (.take 2 (.take 3 (.take 4 (.take 5 (.take 6 (.take 7 (.take 8 (.take 9 (.take 10 (.take 11 (.alt 12 (.alt 13 (.take 14 (.take 15 (.alt 16 .done .none))) .none) .none))))))))))))) mixed (by kernel_rfl) <| pM t26 rfl rfl <| pM t26 rfl rfl <| pP rfl R_nil H fun _ H => pP rfl (R_fld TF_292_2) H fun _ H => pL rfl T1_289 H fun _ _ hat58 H => pM (e 1) rfl rfl <| pP rfl R_nil H fun _ H => pP rfl (R_fld TF_292_2) H fun _ H => pL rfl T1_289 H fun _ _ _ H => pM (e 2) rfl rfl <| pP rfl (R_idx TE_289) H fun _ H => tkL rfl <| R_loadN TN_283 H fun _ _ _ _ H _ _ => ?_
      refine aE rfl <| H_mkSl TZ_289 (by decide) rfl H rfl fun _ h ⟨S, H⟩ => ⟨(hskip rfl (hskip rfl (hcons rfl (still_1 S hat58) hnil))), aE rfl <| H_app TZ_289 TU_289 H fun _ h H => ⟨(hskip rfl hnil), pP rfl R_nil H fun _ H => pP rfl (R_fld TF_292_2) H fun _ H => aE rfl <| H_store1 TS_289 H fun h H => ⟨hnil, vp_done <| WPc_seq' <| W_drawn [0, 0, 2, 6, 14, 0, 32, 96, 224, 510, 1023, 2047, 4095] (.take 0 (.take 1 (.take 2 (.take 3 (.take 4 (.take 5 (.take 6 (.take 7 (.take 8 (.alt 9 (.take 10 (.take 11 (.alt 12 .done .none))) .none)))))))))) mixed (by kernel_rfl) <| pM t26 rfl rfl <| pM t26 rfl rfl <| pP rfl R_nil H fun _ H => pP rfl (R_fld TF_292_2) H fun _ H => pL rfl T1_289 H fun _ _ _ H => pM t37 rfl rfl ?_⟩⟩⟩
      refine pP rfl R_nil H fun _ H => pP rfl (R_fld TF_292_2) H fun _ H => pL rfl T1_289 H fun _ _ _ H => aE rfl <| H_app TZ_289 TU_289 H fun _ h H => ⟨(hskip rfl (hskip rfl hnil)), pP rfl R_nil H fun _ H => pP rfl (R_fld TF_292_2) H fun _ H => aE rfl <| H_store1 TS_289 H fun h H => ⟨hnil, vp_done ?_⟩⟩
      refine WPc_seq (fun e h => Map_si_nodeRebalance.j2 (e 0) (e 1) (e 2) (e 6) (e 7) h Q) ?_ (fun e h H => ?_)
      rotate_left
      · unfold Map_si_nodeRebalance.j2 at H
        refine WPc_seq' <| W_drawn [0, 1, 3, 7, 0, 16, 48, 112, 240, 511, 1023, 2047, 4095] (.take 0 (.take 1 (.take 2 (.take 3 (.take 4 (.take 5 (.take 6 (.take 7 (.take 8 (.take 9 (.take 10 (.take 11 (.alt 12 .done .none))))))))))))) mixed (by kernel_rfl) <| pM (e 6) rfl rfl <| pP rfl R_nil H fun _ H => pP rfl (R_fld TF_292_1) H fun _ H => pL rfl T1_3 H fun _ _ _ H => pM (e 7) rfl rfl <| pP rfl R_nil H fun _ H => pP rfl (R_fld TF_292_1) H fun _ H => pL rfl T1_3 H fun _ _ _ H => pP rfl R_add H fun _ H => pP rfl R_add H fun _ H => pP rfl R_nil H fun _ H => pP rfl (R_fld TF_292_1) H fun _ H => ?_
        refine aE rfl <| H_store1 TS_3 H fun h H => ⟨(hskip rfl (hskip rfl hnil)), vp_done <| WPc_seq' <| W_drawn [0, 1, 3, 7, 0, 31, 0, 64, 192, 448, 0, 1024, 4032, 8191] (.take 0 (.take 1 (.take 2 (.take 3 (.take 4 (.take 5 (.take 6 (.take 7 (.take 8 (.take 9 (.take 10 (.take 11 (.take 12 (.alt 13 .done .none)))))))))))))) mixed (by kernel_rfl) <| pM (e 1) rfl rfl <| pP rfl R_nil H fun _ H => pP rfl (R_fld TF_292_2) H fun _ H => pL rfl T1_289 H fun _ _ _ H => pM (e 2) rfl rfl <| pP rfl (R_slice TE_289 (by decide)) H fun _ H => pM (e 1) rfl rfl <| pP rfl R_nil H fun _ H => pP rfl (R_fld TF_292_2) H fun _ H => pL rfl T1_289 H fun _ _ _ H => ?_⟩
        refine pM (e 2) rfl rfl <| pP rfl R_add H fun _ H => pP rfl (R_slice TE_289 (by decide)) H fun _ H => aE rfl <| H_cpy TE_289 H fun _ h H => ⟨(hskip rfl (hskip rfl hnil)), vp_done <| WPc_seq' <| W_drawn [0, 1, 3, 7, 0, 16, 48, 112, 240, 496, 0, 1024, 3072, 7168, 16383, 32767] (.take 0 (.take 1 (.take 2 (.take 3 (.take 4 (.take 5 (.take 6 (.take 7 (.take 8 (.take 9 (.take 10 (.take 11 (.take 12 (.take 13 (.take 14 (.alt 15 .done .none)))))))))))))))) mixed (by kernel_rfl) <| pM (e 1) rfl rfl <| pP rfl R_nil H fun _ H => pP rfl (R_fld TF_292_2) H fun _ H => pL rfl T1_289 H fun _ _ _ H => pM (e 1) rfl rfl <| pP rfl R_nil H fun _ H => pP rfl (R_fld TF_292_2) H fun _ H => ?_⟩
        refine pL rfl T1_289 H fun _ _ _ H => pP rfl (R_len Try.underlying289) H fun _ H => pP rfl R_sub H fun _ H => pM (e 0) rfl rfl <| pP rfl R_nil H fun _ H => pP rfl (R_fld TF_285_4) H fun _ H => tkL rfl <| R_loadN TN_283 H fun _ _ _ _ H _ _ => pP rfl (R_idx TE_289) H fun _ H => aE rfl <| H_storeN TS_283 H fun h H => ⟨(hskip rfl (hskip rfl (hskip rfl hnil))), vp_done <| WPc_seq' <| W_drawn [0, 0, 2, 6, 14, 0, 32, 96, 224, 480, 992, 2046, 4095, 8191, 16383] (.take 0 (.take 1 (.take 2 (.take 3 (.take 4 (.take 5 (.take 6 (.take 7 (.take 8 (.take 9 (.take 10 (.take 11 (.take 12 (.take 13 (.alt 14 .done .none))))))))))))))) mixed (by kernel_rfl) <| pM (e 1) rfl rfl <| pM (e 1) rfl rfl ?_⟩
        refine pP rfl R_nil H fun _ H => pP rfl (R_fld TF_292_2) H fun _ H => pL rfl T1_289 H fun _ _ _ H => pM (e 1) rfl rfl <| pP rfl R_nil H fun _ H => pP rfl (R_fld TF_292_2) H fun _ H => pL rfl T1_289 H fun _ _ _ H => pP rfl (R_len Try.underlying289) H fun _ H => pP rfl R_sub H fun _ H => pP rfl (R_slice TE_289 (by decide)) H fun _ H => pP rfl R_nil H fun _ H => pP rfl (R_fld TF_292_2) H fun _ H => aE rfl <| H_store1 TS_289 H fun h H => ⟨(hskip rfl (hskip rfl hnil)), vp_done ?_⟩
        refine WPc_seq' <| W_drawn [0, 1, 3, 7, 15, 31, 0, 64, 255, 0, 512, 1536, 3584, 7680, 15872, 0, 32768, 130560, 262143] (.take 0 (.take 1 (.take 2 (.take 3 (.take 4 (.take 5 (.take 6 (.take 7 (.take 8 (.take 9 (.take 10 (.take 11 (.take 12 (.take 13 (.take 14 (.take 15 (.take 16 (.take 17 (.alt 18 .done .none))))))))))))))))))) mixed (by kernel_rfl) <| pM (e 1) rfl rfl <| pP rfl R_nil H fun _ H => pP rfl (R_fld TF_292_3) H fun _ H => pL rfl T1_290 H fun _ _ _ H => pP rfl R_nil H fun _ H => pL rfl T1_293 H fun _ _ _ H => pM (e 2) rfl rfl <| pP rfl R_add H fun _ H => pP rfl (R_slice TE_293 (by decide)) H fun _ H => pM (e 1) rfl rfl <| pP rfl R_nil H fun _ H => pP rfl (R_fld TF_292_3) H fun _ H => ?_
        refine pL rfl T1_290 H fun _ _ _ H => pP rfl R_nil H fun _ H => pL rfl T1_293 H fun _ _ _ H => pM (e 2) rfl rfl <| pP rfl R_add H fun _ H => pP rfl (R_slice TE_293 (by decide)) H fun _ H => aE rfl <| H_cpy TE_293 H fun _ h H => ⟨(hskip rfl (hskip rfl (hskip rfl (hskip rfl hnil)))), vp_done <| WPc_seq' <| W_drawn [0, 1, 3, 7, 15, 31, 0, 64, 192, 448, 960, 1984, 4032, 8128, 16383, 32767] (.take 0 (.take 1 (.take 2 (.take 3 (.take 4 (.take 5 (.take 6 (.take 7 (.take 8 (.take 9 (.take 10 (.take 11 (.take 12 (.take 13 (.take 14 (.alt 15 .done .none)))))))))))))))) mixed (by kernel_rfl) <| pM (e 1) rfl rfl <| pP rfl R_nil H fun _ H => pP rfl (R_fld TF_292_3) H fun _ H => pL rfl T1_290 H fun _ _ _ H => ?_⟩
        refine pP rfl R_nil H fun _ H => pL rfl T1_293 H fun _ _ _ H => pM (e 1) rfl rfl <| pP rfl R_nil H fun _ H => pP rfl (R_fld TF_292_3) H fun _ H => pL rfl T1_290 H fun _ _ _ H => pP rfl R_nil H fun _ H => pL rfl T1_293 H fun _ _ _ H => pP rfl (R_len Try.underlying293) H fun _ H => pP rfl R_sub H fun _ H => pP rfl (R_idx TE_293) H fun _ H => aE rfl <| H_store1 TS_281 H fun h H => ⟨(hskip rfl (hskip rfl (hskip rfl (hskip rfl hnil)))), vp_done <| W_drawn [0, 1, 3, 7, 0, 16, 48, 112, 240, 496, 0, 1024, 3072, 7168, 15360, 31744, 64512, 130048, 262128, 524287, 1048575] (.take 0 (.take 1 (.take 2 (.take 3 (.take 4 (.take 5 (.take 6 (.take 7 (.take 8 (.take 9 (.take 10 (.take 11 (.take 12 (.take 13 (.take 14 (.take 15 (.take 16 (.take 17 (.take 18 (.take 19 (.alt 20 .done .none))))))))))))))))))))) mixed (by kernel_rfl) ?_⟩
        refine pM (e 1) rfl rfl <| pP rfl R_nil H fun _ H => pP rfl (R_fld TF_292_3) H fun _ H => pL rfl T1_290 H fun _ _ _ H => pM (e 1) rfl rfl <| pP rfl R_nil H fun _ H => pP rfl (R_fld TF_292_3) H fun _ H => pL rfl T1_290 H fun _ _ _ H => pP rfl R_nil H fun _ H => pL rfl T1_293 H fun _ _ _ H => pM (e 1) rfl rfl <| pP rfl R_nil H fun _ H => pP rfl (R_fld TF_292_3) H fun _ H => pL rfl T1_290 H fun _ _ _ H => ?_
        exact pP rfl R_nil H fun _ H => pL rfl T1_293 H fun _ _ _ H => pP rfl (R_len Try.underlying293) H fun _ H => pP rfl R_sub H fun _ H => pP rfl (R_slice TE_293 (by decide)) H fun _ H => pP rfl R_nil H fun _ H => aE rfl <| H_store1 TS_293 H fun h H => ⟨(hskip rfl (hskip rfl (hskip rfl (hskip rfl (hskip rfl hnil))))), vp_done <| resH_of rfl <| H⟩
      refine sR <| nM t26 rfl <| vl_n <| H_call HB_170 H fun _ h H => nP R_not H fun _ H => vl_e ?_
      refine cI H (fun H => ?_) fun H => ?_
      · refine W_drawn [0, 1, 3, 7, 0, 16, 48, 112, 240, 496, 0, 1024, 3072, 7168, 15360, 31744, 65520, 131071, 262143] (.take 0 (.take 1 (.take 2 (.take 3 (.take 4 (.take 5 (.take 6 (.take 7 (.take 8 (.take 9 (.take 10 (.take 11 (.take 12 (.take 13 (.take 14 (.take 15 (.alt 16 (.take 17 (.alt 18 .done .none)) .none))))))))))))))))) mixed (by kernel_rfl) <| pM t26 rfl rfl <| pP rfl R_nil H fun _ H => pP rfl (R_fld TF_292_3) H fun _ H => pL rfl T1_290 H fun _ _ hat88 H => pM t26 rfl rfl <| pP rfl R_nil H fun _ H => pP rfl (R_fld TF_292_3) H fun _ H => pL rfl T1_290 H fun _ _ _ H => pP rfl R_nil H fun _ H => pL rfl T1_293 H fun _ _ _ H => pM t37 rfl rfl <| pP rfl R_nil H fun _ H => pP rfl (R_fld TF_292_3) H fun _ H => ?_
        exact pL rfl T1_290 H fun _ _ _ H => pP rfl R_nil H fun _ H => pL rfl T1_293 H fun _ _ _ H => aE rfl <| H_app TZ_293 TU_293 H fun _ h ⟨S_2, H⟩ => ⟨(hskip rfl (hskip rfl (hskip rfl (hskip rfl (hcons rfl (still_1 S_2 hat88) hnil))))), pP rfl R_nil H fun _ H => aE rfl <| H_store1 TS_293 H fun h H => ⟨(hskip rfl hnil), vp_done <| H⟩⟩
      · exact WPc_skip <| H
    · refine WPc_seq' <| W_drawn [0, 1, 3, 7, 15, 0, 32, 96, 224, 480, 1023] (.take 0 (.take 1 (.take 2 (.take 3 (.take 4 (.take 5 (.take 6 (.take 7 (.take 8 (.take 9 (.take 10 .done))))))))))) mixed (by kernel_rfl) <| pM t26 rfl rfl <| pP rfl R_nil H fun _ H => pP rfl (R_fld TF_292_2) H fun _ H => pL rfl T1_289 H fun _ _ _ H => pP rfl (R_len Try.underlying289) H fun _ H => pM t37 rfl rfl <| pP rfl R_nil H fun _ H => pP rfl (R_fld TF_292_2) H fun _ H => pL rfl T1_289 H fun _ _ _ H => pP rfl (R_len Try.underlying289) H fun _ H => pP rfl R_gtr H fun _ H => vp_done ?_
      refine cI H (fun H => ?_) fun H => ?_
      · refine WPc_seq' <| W_drawn [0, 0, 2, 6, 14, 0, 32, 96, 224, 480, 1022, 2047, 4095, 8191] (.take 0 (.take 1 (.take 2 (.take 3 (.take 4 (.take 5 (.take 6 (.take 7 (.take 8 (.alt 9 (.alt 10 (.take 11 (.take 12 (.alt 13 .done .none))) .none) .none)))))))))) mixed (by kernel_rfl) <| pM t37 rfl rfl <| pM t37 rfl rfl <| pP rfl R_nil H fun _ H => pP rfl (R_fld TF_292_2) H fun _ H => pL rfl T1_289 H fun _ _ hat227 H => pM (e 0) rfl rfl <| pP rfl R_nil H fun _ H => pP rfl (R_fld TF_285_4) H fun _ H => tkL rfl <| R_loadN TN_283 H fun _ _ _ _ H _ _ => aE rfl <| H_mkSl TZ_289 (by decide) rfl H rfl fun _ h ⟨S_3, H⟩ => ⟨(hskip rfl (hcons rfl (still_1 S_3 hat227) hnil)), aE rfl <| H_app TZ_289 TU_289 H fun _ h H => ⟨(hskip rfl hnil), pP rfl R_nil H fun _ H => ?_⟩⟩
        refine pP rfl (R_fld TF_292_2) H fun _ H => aE rfl <| H_store1 TS_289 H fun h H => ⟨hnil, vp_done <| WPc_seq' <| W_drawn [0, 1, 3, 7, 15, 0, 32, 96, 224, 511] (.take 0 (.take 1 (.take 2 (.take 3 (.take 4 (.take 5 (.take 6 (.take 7 (.take 8 (.alt 9 .done .none)))))))))) mixed (by kernel_rfl) <| pM t37 rfl rfl <| pP rfl R_nil H fun _ H => pP rfl (R_fld TF_292_2) H fun _ H => pL rfl T1_289 H fun _ _ _ H => pP rfl (R_slice TE_289 (by decide)) H fun _ H => pM t37 rfl rfl <| pP rfl R_nil H fun _ H => pP rfl (R_fld TF_292_2) H fun _ H => pL rfl T1_289 H fun _ _ _ H => ?_⟩
        refine aE rfl <| H_cpy TE_289 H fun _ h H => ⟨(hskip rfl (hskip rfl hnil)), vp_done <| WPc_seq' <| W_drawn [0, 1, 3, 7, 0, 16, 48, 112, 0, 496, 1008, 2047, 4095] (.take 0 (.take 1 (.take 2 (.take 3 (.take 4 (.take 5 (.take 6 (.take 7 (.take 8 (.take 9 (.take 10 (.take 11 (.alt 12 .done .none))))))))))))) mixed (by kernel_rfl) <| pM t37 rfl rfl <| pP rfl R_nil H fun _ H => pP rfl (R_fld TF_292_2) H fun _ H => pL rfl T1_289 H fun _ _ _ H => pM (e 1) rfl rfl <| pP rfl R_nil H fun _ H => pP rfl (R_fld TF_292_2) H fun _ H => pL rfl T1_289 H fun _ _ _ H => pM (e 2) rfl rfl <| pP rfl (R_idx TE_289) H fun _ H => ?_⟩
        refine tkL rfl <| R_loadN TN_283 H fun _ _ _ _ H _ _ => pP rfl (R_idx TE_289) H fun _ H => aE rfl <| H_storeN TS_283 H fun h H => ⟨(hskip rfl (hskip rfl (hskip rfl hnil))), vp_done <| sR <| nM t37 rfl <| nP R_nil H fun _ H => nP (R_fld TF_292_1) H fun _ H => nL T1_3 H fun _ H => nP R_add H fun _ H => nP R_nil H fun _ H => nP (R_fld TF_292_1) H fun _ H => vl_n <| H_store1 TS_3 H fun h H => vl_e ?_⟩
        refine WPc_seq' <| W_drawn [0, 1, 3, 7, 0, 0, 32, 96, 224, 0, 512, 1536, 3584, 7680, 15872, 32736, 65504, 131071, 262143] (.take 0 (.take 1 (.take 2 (.take 3 (.take 4 (.take 5 (.take 6 (.take 7 (.take 8 (.take 9 (.take 10 (.take 11 (.take 12 (.take 13 (.take 14 (.take 15 (.take 16 (.take 17 (.alt 18 .done .none))))))))))))))))))) mixed (by kernel_rfl) <| pM (e 1) rfl rfl <| pP rfl R_nil H fun _ H => pP rfl (R_fld TF_292_2) H fun _ H => pL rfl T1_289 H fun _ _ _ H => pM (e 2) rfl rfl <| pM t26 rfl rfl <| pP rfl R_nil H fun _ H => pP rfl (R_fld TF_292_2) H fun _ H => pL rfl T1_289 H fun _ _ _ H => pM t26 rfl rfl <| pP rfl R_nil H fun _ H => pP rfl (R_fld TF_292_2) H fun _ H => ?_
        refine pL rfl T1_289 H fun _ _ _ H => pP rfl (R_len Try.underlying289) H fun _ H => pP rfl R_sub H fun _ H => pP rfl (R_idx TE_289) H fun _ H => tkL rfl <| R_loadN TN_283 H fun _ _ _ _ H _ _ => pP rfl (R_idx TE_289) H fun _ H => aE rfl <| H_storeN TS_283 H fun h H => ⟨(hskip rfl (hskip rfl (hskip rfl (hskip rfl hnil)))), vp_done <| WPc_seq' <| W_drawn [0, 1, 3, 7, 0, 16, 48, 112, 240, 496, 0, 1024, 3072, 7168, 16383, 32767] (.take 0 (.take 1 (.take 2 (.take 3 (.take 4 (.take 5 (.take 6 (.take 7 (.take 8 (.take 9 (.take 10 (.take 11 (.take 12 (.take 13 (.take 14 (.alt 15 .done .none)))))))))))))))) mixed (by kernel_rfl) <| pM t26 rfl rfl <| pP rfl R_nil H fun _ H => pP rfl (R_fld TF_292_2) H fun _ H => pL rfl T1_289 H fun _ _ _ H => ?_⟩
        refine pM t26 rfl rfl <| pP rfl R_nil H fun _ H => pP rfl (R_fld TF_292_2) H fun _ H => pL rfl T1_289 H fun _ _ _ H => pP rfl (R_len Try.underlying289) H fun _ H => pP rfl R_sub H fun _ H => pM (e 0) rfl rfl <| pP rfl R_nil H fun _ H => pP rfl (R_fld TF_285_4) H fun _ H => tkL rfl <| R_loadN TN_283 H fun _ _ _ _ H _ _ => pP rfl (R_idx TE_289) H fun _ H => aE rfl <| H_storeN TS_283 H fun h H => ⟨(hskip rfl (hskip rfl (hskip rfl hnil))), vp_done <| WPc_seq' ?_⟩
        refine W_drawn [0, 0, 2, 6, 14, 0, 32, 96, 224, 480, 992, 2046, 4095, 8191, 16383] (.take 0 (.take 1 (.take 2 (.take 3 (.take 4 (.take 5 (.take 6 (.take 7 (.take 8 (.take 9 (.take 10 (.take 11 (.take 12 (.take 13 (.alt 14 .done .none))))))))))))))) mixed (by kernel_rfl) <| pM t26 rfl rfl <| pM t26 rfl rfl <| pP rfl R_nil H fun _ H => pP rfl (R_fld TF_292_2) H fun _ H => pL rfl T1_289 H fun _ _ _ H => pM t26 rfl rfl <| pP rfl R_nil H fun _ H => pP rfl (R_fld TF_292_2) H fun _ H => pL rfl T1_289 H fun _ _ _ H => pP rfl (R_len Try.underlying289) H fun _ H => pP rfl R_sub H fun _ H => pP rfl (R_slice TE_289 (by decide)) H fun _ H => pP rfl R_nil H fun _ H => ?_
        refine pP rfl (R_fld TF_292_2) H fun _ H => aE rfl <| H_store1 TS_289 H fun h H => ⟨(hskip rfl (hskip rfl hnil)), vp_done <| sR <| nM t26 rfl <| nP R_nil H fun _ H => nP (R_fld TF_292_1) H fun _ H => nL T1_3 H fun _ H => nP R_sub H fun _ H => nP R_nil H fun _ H => nP (R_fld TF_292_1) H fun _ H => vl_n <| H_store1 TS_3 H fun h H => vl_e <| sR ?_⟩
        refine nM t26 rfl <| vl_n <| H_call HB_170 H fun _ h H => nP R_not H fun _ H => vl_e ?_
        refine cI H (fun H => ?_) fun H => ?_
        · refine WPc_seq' <| W_drawn [0, 1, 3, 7, 0, 16, 48, 112, 240, 496, 0, 2032, 4095, 8191] (.take 0 (.take 1 (.take 2 (.take 3 (.take 4 (.take 5 (.take 6 (.take 7 (.take 8 (.take 9 (.alt 10 (.alt 11 (.take 12 (.alt 13 .done .none)) .none) .none))))))))))) mixed (by kernel_rfl) <| pM t37 rfl rfl <| pP rfl R_nil H fun _ H => pP rfl (R_fld TF_292_3) H fun _ H => pL rfl T1_290 H fun _ _ hat325 H => pM t37 rfl rfl <| pP rfl R_nil H fun _ H => pP rfl (R_fld TF_292_3) H fun _ H => pL rfl T1_290 H fun _ _ hat329 H => pP rfl R_nil H fun _ H => pL rfl T1_293 H fun _ _ hat331 H => aE rfl <| H_mkSl TZ_293 (by decide) rfl H rfl fun _ h ⟨S_4, S_5, S_6, H⟩ => ⟨(hcons rfl (still_1 S_6 hat331) (hcons rfl (still_1 S_5 hat329) (hcons rfl (still_1 S_4 hat325) hnil))), aE rfl <| H_app TZ_293 TU_293 H fun _ h ⟨S_7, H⟩ => ⟨(hskip rfl (hskip rfl (hcons rfl (still_1 S_7 hat325) hnil))), ?_⟩⟩
          refine pP rfl R_nil H fun _ H => aE rfl <| H_store1 TS_293 H fun h H => ⟨(hskip rfl hnil), vp_done <| WPc_seq' <| W_drawn [0, 1, 3, 7, 15, 31, 63, 0, 128, 384, 896, 1920, 3968, 8191] (.take 0 (.take 1 (.take 2 (.take 3 (.take 4 (.take 5 (.take 6 (.take 7 (.take 8 (.take 9 (.take 10 (.take 11 (.take 12 (.alt 13 .done .none)))))))))))))) mixed (by kernel_rfl) <| pM t37 rfl rfl <| pP rfl R_nil H fun _ H => pP rfl (R_fld TF_292_3) H fun _ H => pL rfl T1_290 H fun _ _ _ H => pP rfl R_nil H fun _ H => pL rfl T1_293 H fun _ _ _ H => pP rfl (R_slice TE_293 (by decide)) H fun _ H => pM t37 rfl rfl <| pP rfl R_nil H fun _ H => ?_⟩
          refine pP rfl (R_fld TF_292_3) H fun _ H => pL rfl T1_290 H fun _ _ _ H => pP rfl R_nil H fun _ H => pL rfl T1_293 H fun _ _ _ H => aE rfl <| H_cpy TE_293 H fun _ h H => ⟨(hskip rfl (hskip rfl (hskip rfl (hskip rfl hnil)))), vp_done <| WPc_seq' <| W_drawn [0, 1, 3, 7, 15, 31, 0, 64, 192, 448, 960, 1984, 0, 4096, 12288, 28672, 61440, 126976, 258048, 520192, 1048512, 2097088, 4194303, 8388607] (.take 0 (.take 1 (.take 2 (.take 3 (.take 4 (.take 5 (.take 6 (.take 7 (.take 8 (.take 9 (.take 10 (.take 11 (.take 12 (.take 13 (.take 14 (.take 15 (.take 16 (.take 17 (.take 18 (.take 19 (.take 20 (.take 21 (.take 22 (.alt 23 .done .none)))))))))))))))))))))))) mixed (by kernel_rfl) <| pM t37 rfl rfl <| pP rfl R_nil H fun _ H => pP rfl (R_fld TF_292_3) H fun _ H => pL rfl T1_290 H fun _ _ _ H => pP rfl R_nil H fun _ H => pL rfl T1_293 H fun _ _ _ H => ?_⟩
          refine pM t26 rfl rfl <| pP rfl R_nil H fun _ H => pP rfl (R_fld TF_292_3) H fun _ H => pL rfl T1_290 H fun _ _ _ H => pP rfl R_nil H fun _ H => pL rfl T1_293 H fun _ _ _ H => pM t26 rfl rfl <| pP rfl R_nil H fun _ H => pP rfl (R_fld TF_292_3) H fun _ H => pL rfl T1_290 H fun _ _ _ H => pP rfl R_nil H fun _ H => pL rfl T1_293 H fun _ _ _ H => pP rfl (R_len Try.underlying293) H fun _ H => pP rfl R_sub H fun _ H => ?_
          refine pP rfl (R_idx TE_293) H fun _ H => pL rfl T1_281 H fun _ _ _ H => pP rfl (R_idx TE_293) H fun _ H => aE rfl <| H_store1 TS_281 H fun h H => ⟨(hskip rfl (hskip rfl (hskip rfl (hskip rfl (hskip rfl (hskip rfl (hskip rfl hnil))))))), vp_done <| WPc_seq' <| W_drawn [0, 1, 3, 7, 15, 31, 0, 64, 192, 448, 960, 1984, 4032, 8128, 16383, 32767] (.take 0 (.take 1 (.take 2 (.take 3 (.take 4 (.take 5 (.take 6 (.take 7 (.take 8 (.take 9 (.take 10 (.take 11 (.take 12 (.take 13 (.take 14 (.alt 15 .done .none)))))))))))))))) mixed (by kernel_rfl) <| pM t26 rfl rfl <| pP rfl R_nil H fun _ H => pP rfl (R_fld TF_292_3) H fun _ H => pL rfl T1_290 H fun _ _ _ H => pP rfl R_nil H fun _ H => pL rfl T1_293 H fun _ _ _ H => pM t26 rfl rfl ?_⟩
          refine pP rfl R_nil H fun _ H => pP rfl (R_fld TF_292_3) H fun _ H => pL rfl T1_290 H fun _ _ _ H => pP rfl R_nil H fun _ H => pL rfl T1_293 H fun _ _ _ H => pP rfl (R_len Try.underlying293) H fun _ H => pP rfl R_sub H fun _ H => pP rfl (R_idx TE_293) H fun _ H => aE rfl <| H_store1 TS_281 H fun h H => ⟨(hskip rfl (hskip rfl (hskip rfl (hskip rfl hnil)))), vp_done <| WPc_seq' <| W_drawn [0, 1, 3, 7, 0, 16, 48, 112, 240, 496, 0, 1024, 3072, 7168, 15360, 31744, 64512, 130048, 262128, 524287, 1048575] (.take 0 (.take 1 (.take 2 (.take 3 (.take 4 (.take 5 (.take 6 (.take 7 (.take 8 (.take 9 (.take 10 (.take 11 (.take 12 (.take 13 (.take 14 (.take 15 (.take 16 (.take 17 (.take 18 (.take 19 (.alt 20 .done .none))))))))))))))))))))) mixed (by kernel_rfl) <| pM t26 rfl rfl <| pP rfl R_nil H fun _ H => ?_⟩
          refine pP rfl (R_fld TF_292_3) H fun _ H => pL rfl T1_290 H fun _ _ _ H => pM t26 rfl rfl <| pP rfl R_nil H fun _ H => pP rfl (R_fld TF_292_3) H fun _ H => pL rfl T1_290 H fun _ _ _ H => pP rfl R_nil H fun _ H => pL rfl T1_293 H fun _ _ _ H => pM t26 rfl rfl <| pP rfl R_nil H fun _ H => pP rfl (R_fld TF_292_3) H fun _ H => pL rfl T1_290 H fun _ _ _ H => pP rfl R_nil H fun _ H => pL rfl T1_293 H fun _ _ _ H => ?_
          refine pP rfl (R_len Try.underlying293) H fun _ H => pP rfl R_sub H fun _ H => pP rfl (R_slice TE_293 (by decide)) H fun _ H => pP rfl R_nil H fun _ H => aE rfl <| H_store1 TS_293 H fun h H => ⟨(hskip rfl (hskip rfl (hskip rfl (hskip rfl (hskip rfl hnil))))), vp_done <| WPc_seq' <| W_drawn [0, 1, 3, 7, 0, 16, 48, 112, 240, 496, 1008, 2032, 4080, 8176, 16368, 32767, 65535, 131071, 262143] (.take 0 (.take 1 (.take 2 (.take 3 (.take 4 (.take 5 (.take 6 (.take 7 (.take 8 (.take 9 (.take 10 (.take 11 (.take 12 (.take 13 (.take 14 (.take 15 (.take 16 (.take 17 (.alt 18 .done .none))))))))))))))))))) mixed (by kernel_rfl) <| pM t26 rfl rfl <| pP rfl R_nil H fun _ H => pP rfl (R_fld TF_292_1) H fun _ H => pL rfl T1_3 H fun _ _ _ H => pM t37 rfl rfl <| pP rfl R_nil H fun _ H => ?_⟩
          refine pP rfl (R_fld TF_292_3) H fun _ H => pL rfl T1_290 H fun _ _ _ H => pP rfl R_nil H fun _ H => pL rfl T1_293 H fun _ _ _ H => pP rfl (R_idx TE_293) H fun _ H => pL rfl T1_281 H fun _ _ _ H => pP rfl R_nil H fun _ H => pP rfl (R_fld TF_292_1) H fun _ H => pL rfl T1_3 H fun _ _ _ H => pP rfl R_sub H fun _ H => pP rfl R_nil H fun _ H => pP rfl (R_fld TF_292_1) H fun _ H => aE rfl <| H_store1 TS_3 H fun h H => ⟨(hskip rfl (hskip rfl (hskip rfl (hskip rfl (hskip rfl hnil))))), vp_done ?_⟩
          refine W_drawn [0, 1, 3, 7, 0, 16, 48, 112, 240, 496, 1008, 2032, 4080, 8176, 16368, 32767, 65535, 131071, 262143] (.take 0 (.take 1 (.take 2 (.take 3 (.take 4 (.take 5 (.take 6 (.take 7 (.take 8 (.take 9 (.take 10 (.take 11 (.take 12 (.take 13 (.take 14 (.take 15 (.take 16 (.take 17 (.alt 18 .done .none))))))))))))))))))) mixed (by kernel_rfl) <| pM t37 rfl rfl <| pP rfl R_nil H fun _ H => pP rfl (R_fld TF_292_1) H fun _ H => pL rfl T1_3 H fun _ _ _ H => pM t37 rfl rfl <| pP rfl R_nil H fun _ H => pP rfl (R_fld TF_292_3) H fun _ H => pL rfl T1_290 H fun _ _ _ H => pP rfl R_nil H fun _ H => pL rfl T1_293 H fun _ _ _ H => pP rfl (R_idx TE_293) H fun _ H => pL rfl T1_281 H fun _ _ _ H => pP rfl R_nil H fun _ H => ?_
          exact pP rfl (R_fld TF_292_1) H fun _ H => pL rfl T1_3 H fun _ _ _ H => pP rfl R_add H fun _ H => pP rfl R_nil H fun _ H => pP rfl (R_fld TF_292_1) H fun _ H => aE rfl <| H_store1 TS_3 H fun h H => ⟨(hskip rfl (hskip rfl (hskip rfl (hskip rfl (hskip rfl hnil))))), vp_done <| resH_of rfl <| H⟩
        · exact WPc_skip <| resH_of rfl <| H
      · refine WPc_seq' <| W_drawn [0, 0, 2, 6, 14, 0, 32, 96, 224, 0, 992, 2016, 4064, 8190, 16383, 32767, 65535] (.take 0 (.take 1 (.take 2 (.take 3 (.take 4 (.take 5 (.take 6 (.take 7 (.take 8 (.take 9 (.take 10 (.take 11 (.alt 12 (.alt 13 (.take 14 (.take 15 (.alt 16 .done .none))) .none) .none))))))))))))) mixed (by kernel_rfl) <| pM t26 rfl rfl <| pM t26 rfl rfl <| pP rfl R_nil H fun _ H => pP rfl (R_fld TF_292_2) H fun _ H => pL rfl T1_289 H fun _ _ hat447 H => pM (e 1) rfl rfl <| pP rfl R_nil H fun _ H => pP rfl (R_fld TF_292_2) H fun _ H => pL rfl T1_289 H fun _ _ _ H => pM (e 2) rfl rfl <| pP rfl (R_idx TE_289) H fun _ H => tkL rfl <| R_loadN TN_283 H fun _ _ _ _ H _ _ => ?_
        refine aE rfl <| H_mkSl TZ_289 (by decide) rfl H rfl fun _ h ⟨S_8, H⟩ => ⟨(hskip rfl (hskip rfl (hcons rfl (still_1 S_8 hat447) hnil))), aE rfl <| H_app TZ_289 TU_289 H fun _ h H => ⟨(hskip rfl hnil), pP rfl R_nil H fun _ H => pP rfl (R_fld TF_292_2) H fun _ H => aE rfl <| H_store1 TS_289 H fun h H => ⟨hnil, vp_done <| sR <| nM t26 rfl <| nP R_nil H fun _ H => nP (R_fld TF_292_1) H fun _ H => nL T1_3 H fun _ H => nP R_add H fun _ H => nP R_nil H fun _ H => nP (R_fld TF_292_1) H fun _ H => ?_⟩⟩⟩
        refine vl_n <| H_store1 TS_3 H fun h H => vl_e <| WPc_seq' <| W_drawn [0, 1, 3, 7, 0, 0, 32, 96, 224, 480, 992, 2047, 4095] (.take 0 (.take 1 (.take 2 (.take 3 (.take 4 (.take 5 (.take 6 (.take 7 (.take 8 (.take 9 (.take 10 (.take 11 (.alt 12 .done .none))))))))))))) mixed (by kernel_rfl) <| pM (e 1) rfl rfl <| pP rfl R_nil H fun _ H => pP rfl (R_fld TF_292_2) H fun _ H => pL rfl T1_289 H fun _ _ _ H => pM (e 2) rfl rfl <| pM t37 rfl rfl <| pP rfl R_nil H fun _ H => pP rfl (R_fld TF_292_2) H fun _ H => pL rfl T1_289 H fun _ _ _ H => pP rfl (R_idx TE_289) H fun _ H => ?_
        refine tkL rfl <| R_loadN TN_283 H fun _ _ _ _ H _ _ => pP rfl (R_idx TE_289) H fun _ H => aE rfl <| H_storeN TS_283 H fun h H => ⟨(hskip rfl (hskip rfl (hskip rfl hnil))), vp_done <| WPc_seq' <| W_drawn [0, 1, 3, 7, 0, 16, 48, 112, 240, 511] (.take 0 (.take 1 (.take 2 (.take 3 (.take 4 (.take 5 (.take 6 (.take 7 (.take 8 (.alt 9 .done .none)))))))))) mixed (by kernel_rfl) <| pM t37 rfl rfl <| pP rfl R_nil H fun _ H => pP rfl (R_fld TF_292_2) H fun _ H => pL rfl T1_289 H fun _ _ _ H => pM t37 rfl rfl <| pP rfl R_nil H fun _ H => pP rfl (R_fld TF_292_2) H fun _ H => pL rfl T1_289 H fun _ _ _ H => ?_⟩
        refine pP rfl (R_slice TE_289 (by decide)) H fun _ H => aE rfl <| H_cpy TE_289 H fun _ h H => ⟨(hskip rfl (hskip rfl hnil)), vp_done <| WPc_seq' <| W_drawn [0, 1, 3, 7, 0, 16, 48, 112, 240, 496, 0, 1024, 3072, 7168, 16383, 32767] (.take 0 (.take 1 (.take 2 (.take 3 (.take 4 (.take 5 (.take 6 (.take 7 (.take 8 (.take 9 (.take 10 (.take 11 (.take 12 (.take 13 (.take 14 (.alt 15 .done .none)))))))))))))))) mixed (by kernel_rfl) <| pM t37 rfl rfl <| pP rfl R_nil H fun _ H => pP rfl (R_fld TF_292_2) H fun _ H => pL rfl T1_289 H fun _ _ _ H => pM t37 rfl rfl <| pP rfl R_nil H fun _ H => pP rfl (R_fld TF_292_2) H fun _ H => pL rfl T1_289 H fun _ _ _ H => pP rfl (R_len Try.underlying289) H fun _ H => ?_⟩
        refine pP rfl R_sub H fun _ H => pM (e 0) rfl rfl <| pP rfl R_nil H fun _ H => pP rfl (R_fld TF_285_4) H fun _ H => tkL rfl <| R_loadN TN_283 H fun _ _ _ _ H _ _ => pP rfl (R_idx TE_289) H fun _ H => aE rfl <| H_storeN TS_283 H fun h H => ⟨(hskip rfl (hskip rfl (hskip rfl hnil))), vp_done <| WPc_seq' <| W_drawn [0, 0, 2, 6, 14, 0, 32, 96, 224, 480, 992, 2046, 4095, 8191, 16383] (.take 0 (.take 1 (.take 2 (.take 3 (.take 4 (.take 5 (.take 6 (.take 7 (.take 8 (.take 9 (.take 10 (.take 11 (.take 12 (.take 13 (.alt 14 .done .none))))))))))))))) mixed (by kernel_rfl) <| pM t37 rfl rfl <| pM t37 rfl rfl <| pP rfl R_nil H fun _ H => pP rfl (R_fld TF_292_2) H fun _ H => ?_⟩
        refine pL rfl T1_289 H fun _ _ _ H => pM t37 rfl rfl <| pP rfl R_nil H fun _ H => pP rfl (R_fld TF_292_2) H fun _ H => pL rfl T1_289 H fun _ _ _ H => pP rfl (R_len Try.underlying289) H fun _ H => pP rfl R_sub H fun _ H => pP rfl (R_slice TE_289 (by decide)) H fun _ H => pP rfl R_nil H fun _ H => pP rfl (R_fld TF_292_2) H fun _ H => aE rfl <| H_store1 TS_289 H fun h H => ⟨(hskip rfl (hskip rfl hnil)), vp_done <| sR <| nM t37 rfl ?_⟩
        refine nP R_nil H fun _ H => nP (R_fld TF_292_1) H fun _ H => nL T1_3 H fun _ H => nP R_sub H fun _ H => nP R_nil H fun _ H => nP (R_fld TF_292_1) H fun _ H => vl_n <| H_store1 TS_3 H fun h H => vl_e <| sR <| nM t26 rfl <| vl_n <| H_call HB_170 H fun _ h H => nP R_not H fun _ H => vl_e ?_
        refine cI H (fun H => ?_) fun H => ?_
        · refine WPc_seq' <| W_drawn [0, 1, 3, 7, 0, 16, 48, 112, 240, 496, 0, 1024, 3072, 7168, 15360, 31744, 64512, 130048, 261120, 524272, 1048575, 2097151] (.take 0 (.take 1 (.take 2 (.take 3 (.take 4 (.take 5 (.take 6 (.take 7 (.take 8 (.take 9 (.take 10 (.take 11 (.take 12 (.take 13 (.take 14 (.take 15 (.take 16 (.take 17 (.alt 18 (.alt 19 (.take 20 (.alt 21 .done .none)) .none) .none))))))))))))))))))) mixed (by kernel_rfl) <| pM t26 rfl rfl <| pP rfl R_nil H fun _ H => pP rfl (R_fld TF_292_3) H fun _ H => pL rfl T1_290 H fun _ _ hat530 H => pM t26 rfl rfl <| pP rfl R_nil H fun _ H => pP rfl (R_fld TF_292_3) H fun _ H => pL rfl T1_290 H fun _ _ hat534 H => pP rfl R_nil H fun _ H => pL rfl T1_293 H fun _ _ hat536 H => pM t37 rfl rfl <| pP rfl R_nil H fun _ H => ?_
          refine pP rfl (R_fld TF_292_3) H fun _ H => pL rfl T1_290 H fun _ _ _ H => pP rfl R_nil H fun _ H => pL rfl T1_293 H fun _ _ _ H => pP rfl (R_idx TE_293) H fun _ H => pL rfl T1_281 H fun _ _ _ H => aE rfl <| H_mkSl TZ_293 (by decide) rfl H rfl fun _ h ⟨S_9, S_10, S_11, H⟩ => ⟨(hskip rfl (hskip rfl (hskip rfl (hcons rfl (still_1 S_11 hat536) (hcons rfl (still_1 S_10 hat534) (hcons rfl (still_1 S_9 hat530) hnil)))))), aE rfl <| H_app TZ_293 TU_293 H fun _ h ⟨S_12, H⟩ => ⟨(hskip rfl (hskip rfl (hcons rfl (still_1 S_12 hat530) hnil))), pP rfl R_nil H fun _ H => aE rfl <| H_store1 TS_293 H fun h H => ⟨(hskip rfl hnil), vp_done <| WPc_seq' <| W_drawn [0, 1, 3, 7, 15, 31, 0, 64, 192, 448, 960, 1984, 4032, 8191] (.take 0 (.take 1 (.take 2 (.take 3 (.take 4 (.take 5 (.take 6 (.take 7 (.take 8 (.take 9 (.take 10 (.take 11 (.take 12 (.alt 13 .done .none)))))))))))))) mixed (by kernel_rfl) <| pM t37 rfl rfl ?_⟩⟩⟩
          refine pP rfl R_nil H fun _ H => pP rfl (R_fld TF_292_3) H fun _ H => pL rfl T1_290 H fun _ _ _ H => pP rfl R_nil H fun _ H => pL rfl T1_293 H fun _ _ _ H => pM t37 rfl rfl <| pP rfl R_nil H fun _ H => pP rfl (R_fld TF_292_3) H fun _ H => pL rfl T1_290 H fun _ _ _ H => pP rfl R_nil H fun _ H => pL rfl T1_293 H fun _ _ _ H => pP rfl (R_slice TE_293 (by decide)) H fun _ H => aE rfl <| H_cpy TE_293 H fun _ h H => ⟨(hskip rfl (hskip rfl (hskip rfl (hskip rfl hnil)))), vp_done ?_⟩
          refine WPc_seq' <| W_drawn [0, 1, 3, 7, 15, 31, 0, 64, 192, 448, 960, 1984, 4032, 8128, 16383, 32767] (.take 0 (.take 1 (.take 2 (.take 3 (.take 4 (.take 5 (.take 6 (.take 7 (.take 8 (.take 9 (.take 10 (.take 11 (.take 12 (.take 13 (.take 14 (.alt 15 .done .none)))))))))))))))) mixed (by kernel_rfl) <| pM t37 rfl rfl <| pP rfl R_nil H fun _ H => pP rfl (R_fld TF_292_3) H fun _ H => pL rfl T1_290 H fun _ _ _ H => pP rfl R_nil H fun _ H => pL rfl T1_293 H fun _ _ _ H => pM t37 rfl rfl <| pP rfl R_nil H fun _ H => pP rfl (R_fld TF_292_3) H fun _ H => pL rfl T1_290 H fun _ _ _ H => pP rfl R_nil H fun _ H => pL rfl T1_293 H fun _ _ _ H => ?_
          refine pP rfl (R_len Try.underlying293) H fun _ H => pP rfl R_sub H fun _ H => pP rfl (R_idx TE_293) H fun _ H => aE rfl <| H_store1 TS_281 H fun h H => ⟨(hskip rfl (hskip rfl (hskip rfl (hskip rfl hnil)))), vp_done <| WPc_seq' <| W_drawn [0, 1, 3, 7, 0, 16, 48, 112, 240, 496, 0, 1024, 3072, 7168, 15360, 31744, 64512, 130048, 262128, 524287, 1048575] (.take 0 (.take 1 (.take 2 (.take 3 (.take 4 (.take 5 (.take 6 (.take 7 (.take 8 (.take 9 (.take 10 (.take 11 (.take 12 (.take 13 (.take 14 (.take 15 (.take 16 (.take 17 (.take 18 (.take 19 (.alt 20 .done .none))))))))))))))))))))) mixed (by kernel_rfl) <| pM t37 rfl rfl <| pP rfl R_nil H fun _ H => pP rfl (R_fld TF_292_3) H fun _ H => pL rfl T1_290 H fun _ _ _ H => pM t37 rfl rfl <| pP rfl R_nil H fun _ H => pP rfl (R_fld TF_292_3) H fun _ H => ?_⟩
          refine pL rfl T1_290 H fun _ _ _ H => pP rfl R_nil H fun _ H => pL rfl T1_293 H fun _ _ _ H => pM t37 rfl rfl <| pP rfl R_nil H fun _ H => pP rfl (R_fld TF_292_3) H fun _ H => pL rfl T1_290 H fun _ _ _ H => pP rfl R_nil H fun _ H => pL rfl T1_293 H fun _ _ _ H => pP rfl (R_len Try.underlying293) H fun _ H => pP rfl R_sub H fun _ H => pP rfl (R_slice TE_293 (by decide)) H fun _ H => pP rfl R_nil H fun _ H => aE rfl <| H_store1 TS_293 H fun h H => ⟨(hskip rfl (hskip rfl (hskip rfl (hskip rfl (hskip rfl hnil))))), ?_⟩
          refine vp_done <| WPc_seq' <| W_drawn [0, 1, 3, 7, 0, 16, 48, 112, 240, 496, 0, 1024, 3072, 7168, 15360, 31744, 64512, 130048, 262128, 524272, 1048560, 2097136, 4194288, 8388607, 16777215, 33554431, 67108863] (.take 0 (.take 1 (.take 2 (.take 3 (.take 4 (.take 5 (.take 6 (.take 7 (.take 8 (.take 9 (.take 10 (.take 11 (.take 12 (.take 13 (.take 14 (.take 15 (.take 16 (.take 17 (.take 18 (.take 19 (.take 20 (.take 21 (.take 22 (.take 23 (.take 24 (.take 25 (.alt 26 .done .none))))))))))))))))))))))))))) mixed (by kernel_rfl) <| pM t26 rfl rfl <| pP rfl R_nil H fun _ H => pP rfl (R_fld TF_292_1) H fun _ H => pL rfl T1_3 H fun _ _ _ H => pM t26 rfl rfl <| pP rfl R_nil H fun _ H => pP rfl (R_fld TF_292_3) H fun _ H => pL rfl T1_290 H fun _ _ _ H => pP rfl R_nil H fun _ H => pL rfl T1_293 H fun _ _ _ H => pM t26 rfl rfl ?_
          refine pP rfl R_nil H fun _ H => pP rfl (R_fld TF_292_3) H fun _ H => pL rfl T1_290 H fun _ _ _ H => pP rfl R_nil H fun _ H => pL rfl T1_293 H fun _ _ _ H => pP rfl (R_len Try.underlying293) H fun _ H => pP rfl R_sub H fun _ H => pP rfl (R_idx TE_293) H fun _ H => pL rfl T1_281 H fun _ _ _ H => pP rfl R_nil H fun _ H => pP rfl (R_fld TF_292_1) H fun _ H => pL rfl T1_3 H fun _ _ _ H => pP rfl R_add H fun _ H => pP rfl R_nil H fun _ H => ?_
          refine pP rfl (R_fld TF_292_1) H fun _ H => aE rfl <| H_store1 TS_3 H fun h H => ⟨(hskip rfl (hskip rfl (hskip rfl (hskip rfl (hskip rfl (hskip rfl (hskip rfl hnil))))))), vp_done <| W_drawn [0, 1, 3, 7, 0, 16, 48, 112, 240, 496, 0, 1024, 3072, 7168, 15360, 31744, 64512, 130048, 262128, 524272, 1048560, 2097136, 4194288, 8388607, 16777215, 33554431, 67108863] (.take 0 (.take 1 (.take 2 (.take 3 (.take 4 (.take 5 (.take 6 (.take 7 (.take 8 (.take 9 (.take 10 (.take 11 (.take 12 (.take 13 (.take 14 (.take 15 (.take 16 (.take 17 (.take 18 (.take 19 (.take 20 (.take 21 (.take 22 (.take 23 (.take 24 (.take 25 (.alt 26 .done .none))))))))))))))))))))))))))) mixed (by kernel_rfl) <| pM t37 rfl rfl <| pP rfl R_nil H fun _ H => pP rfl (R_fld TF_292_1) H fun _ H => pL rfl T1_3 H fun _ _ _ H => pM t26 rfl rfl <| pP rfl R_nil H fun _ H => pP rfl (R_fld TF_292_3) H fun _ H => pL rfl T1_290 H fun _ _ _ H => pP rfl R_nil H fun _ H => pL rfl T1_293 H fun _ _ _ H => ?_⟩
          refine pM t26 rfl rfl <| pP rfl R_nil H fun _ H => pP rfl (R_fld TF_292_3) H fun _ H => pL rfl T1_290 H fun _ _ _ H => pP rfl R_nil H fun _ H => pL rfl T1_293 H fun _ _ _ H => pP rfl (R_len Try.underlying293) H fun _ H => pP rfl R_sub H fun _ H => pP rfl (R_idx TE_293) H fun _ H => pL rfl T1_281 H fun _ _ _ H => pP rfl R_nil H fun _ H => pP rfl (R_fld TF_292_1) H fun _ H => pL rfl T1_3 H fun _ _ _ H => pP rfl R_sub H fun _ H => ?_
          exact pP rfl R_nil H fun _ H => pP rfl (R_fld TF_292_1) H fun _ H => aE rfl <| H_store1 TS_3 H fun h H => ⟨(hskip rfl (hskip rfl (hskip rfl (hskip rfl (hskip rfl (hskip rfl (hskip rfl hnil))))))), vp_done <| resH_of rfl <| H⟩
        · exact WPc_skip <| resH_of rfl <| H
  refine sR <| nM a2 rfl <| nM a1 rfl <| nP R_nil H fun _ H => nP (R_fld TF_292_2) H fun _ H => nL T1_289 H fun _ H => nP (R_len Try.underlying289) H fun _ H => nP R_eqI H fun _ H => vl_e ?_
  refine cI H (fun H => ?_) fun H => ?_
  · exact W_region (by kernel_rfl) <| nM a2 rfl <| nP R_sub H fun t16 H => nS t16 rfl <| vl_e <| H
  · exact WPc_skip <| H

end Go.Proofs.Ytkkappjbcgnacaa
end
section
namespace Go.Proofs.Ytkkappjbcgnacaa
open Go.Hp
set_option maxRecDepth 100000
set_option maxHeartbeats 8000000
set_option linter.unusedVariables false
set_option linter.unusedSimpArgs false

/-! ### (*pub/tidwallbtree.Map[string, int]).delete -/
def Map_si_delete.j5 (s8 s14 : Value) (h : Heap) (Q : Value → Heap → Prop) : Prop := loadN 2 s14 h fun b=>storeN 2 s8 b h fun h=>loadN 2 s8 h fun d=>Q (.tuple #[d, (.bool true)]) h
def Map_si_delete.j4 (s0 s8 s10 s11 s14 : Value) (h : Heap) (Q : Value → Heap → Prop) : Prop := nilck s10 fun b=>fld 1 b fun d=>load1 d h fun g=>arith (· - ·) g (.int .i64 1) fun i=>nilck s10 fun j=>fld 1 j fun k=>store1 k i h fun h=>nilck s10 fun l=>fld 3 l fun m=>load1 m h fun n=>nilck n fun o=>load1 o h fun p=>idx 1 p s11 fun q=>load1 q h fun u=>nilck u fun v=>fld 2 v fun w=>load1 w h fun x=>lenV x fun y=>nilck s0 fun z=>fld 6 z fun b0=>load1 b0 h fun b1=>cmpI (fun a b=>decide (a < b)) y b1 fun b2=>ifV b2 (Map_si_nodeRebalance.call #[s0, s10, s11] h fun b3 h=>Map_si_delete.j5 s8 s14 h Q) (Map_si_delete.j5 s8 s14 h Q)
def Map_si_delete.j3 (s0 s8 s10 s11 s14 s15 : Value) (h : Heap) (Q : Value → Heap → Prop) : Prop := notV s15 fun b=>ifV b (nilck s0 fun d=>fld 4 d fun g=>loadN 2 g h fun i=>storeN 2 s8 i h fun h=>loadN 2 s8 h fun j=>Q (.tuple #[j, (.bool false)]) h) (Map_si_delete.j4 s0 s8 s10 s11 s14 h Q)
def Map_si_delete.j2 (s0 s2 s3 s8 s10 s11 s12 : Value) (h : Heap) (Q : Value → Heap → Prop) : Prop := alloc [(.int .i64 0), (.string ⟨#[]⟩)] 283 h fun b h=>ifV s12 (ifV s2 (arith (· + ·) s11 (.int .i64 1) fun d=>nilck s10 fun g=>fld 3 g fun i=>load1 i h fun j=>nilck j fun k=>load1 k h fun l=>idx 1 l d fun m=>nilck s0 fun n=>fld 4 n fun o=>fld 1 o fun p=>load1 p h fun q=>Map_si_delete.call #[s0, m, (.bool true), q] h fun u h=>extr 0 u fun v=>extr 1 u fun w=>storeN 2 b v h fun h=>Map_si_delete.j3 s0 s8 s10 d b w h Q) (nilck s10 fun x=>fld 2 x fun y=>load1 y h fun z=>idx 2 z s11 fun b0=>loadN 2 b0 h fun b1=>storeN 2 b b1 h fun h=>nilck s10 fun b2=>fld 3 b2 fun b3=>load1 b3 h fun b4=>nilck b4 fun b5=>load1 b5 h fun b6=>idx 1 b6 s11 fun b7=>nilck s0 fun b8=>fld 4 b8 fun b9=>fld 1 b9 fun d0=>load1 d0 h fun d1=>(Map_si_delete.call #[s0, b7, (.bool true), d1] h fun d2 h=>extr 0 d2 fun d3=>extr 1 d2 fun d4=>alloc [(.int .i64 0), (.string ⟨#[]⟩)] 283 h fun d5 h=>storeN 2 d5 d3 h fun h=>nilck s10 fun d6=>fld 2 d6 fun d7=>load1 d7 h fun d8=>loadN 2 d5 h fun d9=>idx 2 d8 s11 fun g0=>storeN 2 g0 d9 h fun h=>Map_si_delete.j3 s0 s8 s10 s11 b (.bool true) h Q) ∧ (alloc [(.int .i64 0), (.string ⟨#[]⟩)] 283 h fun g1 h=>still1 b3 b4 h ∧ still1 b5 b6 h ∧ still1 d0 d1 h ∧ Map_si_delete.call #[s0, b7, (.bool true), d1] h fun g2 h=>extr 0 g2 fun g3=>extr 1 g2 fun g4=>storeN 2 g1 g3 h fun h=>nilck s10 fun g5=>fld 2 g5 fun g6=>load1 g6 h fun g7=>loadN 2 g1 h fun g8=>idx 2 g7 s11 fun g9=>storeN 2 g9 g8 h fun h=>Map_si_delete.j3 s0 s8 s10 s11 b (.bool true) h Q))) (nilck s10 fun i0=>fld 3 i0 fun i1=>load1 i1 h fun i2=>nilck i2 fun i3=>load1 i3 h fun i4=>idx 1 i4 s11 fun i5=>Map_si_delete.call #[s0, i5, s2, s3] h fun i6 h=>extr 0 i6 fun i7=>extr 1 i6 fun i8=>storeN 2 b i7 h fun h=>Map_si_delete.j3 s0 s8 s10 s11 b i8 h Q)
def Map_si_delete.j6 (s0 s8 : Value) (h : Heap) (Q : Value → Heap → Prop) : Prop := nilck s0 fun b=>fld 4 b fun d=>loadN 2 d h fun g=>storeN 2 s8 g h fun h=>loadN 2 s8 h fun i=>Q (.tuple #[i, (.bool false)]) h
def Map_si_delete.j1 (s0 s2 s3 s8 s10 s11 s12 : Value) (h : Heap) (Q : Value → Heap → Prop) : Prop := mapNode_si_leaf.call #[s10] h fun b h=>ifV b (ifV s12 (nilck s10 fun d=>fld 2 d fun g=>load1 g h fun i=>idx 2 i s11 fun j=>loadN 2 j h fun k=>alloc [(.int .i64 0), (.string ⟨#[]⟩)] 283 h fun l h=>storeN 2 l k h fun h=>nilck s10 fun m=>fld 2 m fun n=>load1 n h fun o=>slc 2 o (some s11) none none fun p=>nilck s10 fun q=>fld 2 q fun u=>load1 u h fun v=>arith (· + ·) s11 (.int .i64 1) fun w=>slc 2 v (some w) none none fun x=>cpy 2 p x h fun y h=>nilck s10 fun z=>fld 2 z fun b0=>load1 b0 h fun b1=>nilck s10 fun b2=>fld 2 b2 fun b3=>load1 b3 h fun b4=>lenV b4 fun b5=>arith (· - ·) b5 (.int .i64 1) fun b6=>nilck s0 fun b7=>fld 4 b7 fun b8=>loadN 2 b8 h fun b9=>idx 2 b1 b6 fun d0=>storeN 2 d0 b9 h fun h=>nilck s10 fun d1=>fld 2 d1 fun d2=>load1 d2 h fun d3=>nilck s10 fun d4=>fld 2 d4 fun d5=>load1 d5 h fun d6=>lenV d6 fun d7=>arith (· - ·) d7 (.int .i64 1) fun d8=>slc 2 d3 none (some d8) none fun d9=>nilck s10 fun g0=>fld 2 g0 fun g1=>store1 g1 d9 h fun h=>nilck s10 fun g2=>fld 1 g2 fun g3=>load1 g3 h fun g4=>arith (· - ·) g4 (.int .i64 1) fun g5=>nilck s10 fun g6=>fld 1 g6 fun g7=>store1 g7 g5 h fun h=>loadN 2 l h fun g8=>storeN 2 s8 g8 h fun h=>loadN 2 s8 h fun g9=>Q (.tuple #[g9, (.bool true)]) h) (Map_si_delete.j6 s0 s8 h Q)) (Map_si_delete.j2 s0 s2 s3 s8 s10 s11 s12 h Q)
def Map_si_delete.sh (a0 a1 a2 a3 : Value) (h : Heap) (Q : Value → Heap → Prop) : Prop := alloc [(.int .i64 0), (.string ⟨#[]⟩)] 283 h fun b h=>Map_si_isoLoad.call #[a0, a1, (.bool true)] h fun d h=>ifV a2 (nilck d fun g=>fld 2 g fun i=>load1 i h fun j=>lenV j fun k=>arith (· - ·) k (.int .i64 1) fun l=>Map_si_delete.j1 a0 a2 a3 b d l (.bool true) h Q) (Map_si_search.call #[a0, d, a3] h fun m h=>extr 0 m fun n=>extr 1 m fun o=>Map_si_delete.j1 a0 a2 a3 b d n o h Q)
theorem Map_si_delete.body (a0 a1 a2 a3 : Value) (h : Heap) (Q : Value → Heap → Prop) (H : Map_si_delete.sh a0 a1 a2 a3 h Q) : Map_si_delete.call #[a0, a1, a2, a3] h Q := by
  refine callsH_of (args := [a0, a1, a2, a3]) Try.func236 rfl rfl ?_
  unfold Map_si_delete.sh at H
  refine sR <| vl_n <| H_alloc TV_283 H fun _ h H => nS (.bool false) rfl <| vl_e <| sR <| nM a0 rfl <| nM a1 rfl <| vl_n <| H_call HB_169 H fun t20 h H => nS t20 rfl <| vl_e <| sR <| nS (.int .i64 0) rfl <| vl_e <| sR ?_
  refine nS (.bool false) rfl <| vl_e ?_
  refine WPc_seq (fun e h => Map_si_delete.j1 (e 0) (e 2) (e 3) (e 8) (e 10) (e 11) (e 12) h Q) ?_ (fun e h H => ?_)
  rotate_left
  · unfold Map_si_delete.j1 at H
    refine WPc_seq (fun e h => Map_si_delete.j2 (e 0) (e 2) (e 3) (e 8) (e 10) (e 11) (e 12) h Q) ?_ (fun e h H => ?_)
    rotate_left
    · unfold Map_si_delete.j2 at H
      refine sR <| vl_n <| H_alloc TV_283 H fun _ h H => vl_e <| sR <| nS (.bool false) rfl <| vl_e ?_
      refine WPc_seq (fun e h => Map_si_delete.j3 (e 0) (e 8) (e 10) (e 11) (e 14) (e 15) h Q) ?_ (fun e h H => ?_)
      rotate_left
      · unfold Map_si_delete.j3 at H
        refine WPc_seq (fun e h => Map_si_delete.j4 (e 0) (e 8) (e 10) (e 11) (e 14) h Q) ?_ (fun e h H => ?_)
        rotate_left
        · unfold Map_si_delete.j4 at H
          refine sR <| nM (e 10) rfl <| nP R_nil H fun _ H => nP (R_fld TF_292_1) H fun _ H => nL T1_3 H fun _ H => nP R_sub H fun _ H => nP R_nil H fun _ H => nP (R_fld TF_292_1) H fun _ H => vl_n <| H_store1 TS_3 H fun h H => vl_e ?_
          refine WPc_seq (fun e h => Map_si_delete.j5 (e 8) (e 14) h Q) ?_ (fun e h H => ?_)
          rotate_left
          · unfold Map_si_delete.j5 at H
            exact sR <| nLN TN_283 H fun _ H => vl_n <| H_storeN TS_283 H fun h H => nS (.bool true) rfl <| vl_e <| WPc_ret <| resH_of rfl <| resL_N TN_283 <| loadN_imp H fun r8 H => resL_t <| H
          refine WPc_seq' <| W_drawn [0, 1, 3, 7, 15, 31, 0, 127, 255, 511, 1023, 2047, 4095, 0, 8192, 24576, 57344, 131071] (.take 0 (.take 1 (.take 2 (.take 3 (.take 4 (.take 5 (.take 6 (.take 7 (.take 8 (.take 9 (.take 10 (.take 11 (.take 12 (.take 13 (.take 14 (.take 15 (.take 16 (.take 17 .done)))))))))))))))))) mixed (by kernel_rfl) <| pM (e 10) rfl rfl <| pP rfl R_nil H fun _ H => pP rfl (R_fld TF_292_3) H fun _ H => pL rfl T1_290 H fun _ _ _ H => pP rfl R_nil H fun _ H => pL rfl T1_293 H fun _ _ _ H => pM (e 11) rfl rfl <| pP rfl (R_idx TE_293) H fun _ H => pL rfl T1_281 H fun _ _ _ H => pP rfl R_nil H fun _ H => pP rfl (R_fld TF_292_2) H fun _ H => pL rfl T1_289 H fun _ _ _ H => ?_
          refine pP rfl (R_len Try.underlying289) H fun _ H => pM (e 0) rfl rfl <| pP rfl R_nil H fun _ H => pP rfl (R_fld TF_285_5) H fun _ H => pL rfl T1_3 H fun _ _ _ H => pP rfl R_lss H fun _ H => vp_done ?_
          refine cI H (fun H => ?_) fun H => ?_
          · exact W_region (by kernel_rfl) <| nM (e 0) rfl <| nM (e 10) rfl <| nM (e 11) rfl <| vl_n <| H_call HB_268 H fun _ h H => vl_e <| H
          · exact WPc_skip <| H
        refine sR <| nM (e 15) rfl <| nP R_not H fun _ H => vl_e ?_
        refine cI H (fun H => ?_) fun H => ?_
        · exact sR <| nM (e 0) rfl <| nP R_nil H fun _ H => nP (R_fld TF_285_4) H fun _ H => nLN TN_283 H fun _ H => vl_n <| H_storeN TS_283 H fun h H => nS (.bool false) rfl <| vl_e <| WPc_ret <| resH_of rfl <| resL_N TN_283 <| loadN_imp H fun r8 H => resL_t <| H
        · exact WPc_skip <| H
      refine sR <| nM (e 12) rfl <| vl_e ?_
      refine cI H (fun H => ?_) fun H => ?_
      · refine sR <| nM (e 2) rfl <| vl_e ?_
        refine cI H (fun H => ?_) fun H => ?_
        · refine sR <| nM (e 11) rfl <| nP R_add H fun t103 H => nS t103 rfl <| vl_e <| W_drawn [0, 0, 2, 6, 14, 30, 62, 0, 254, 0, 512, 1536, 3584, 7680, 16383, 32767, 65535, 65535, 131071, 524287] (.take 0 (.take 1 (.take 2 (.take 3 (.take 4 (.take 5 (.take 6 (.take 7 (.take 8 (.take 9 (.take 10 (.take 11 (.take 12 (.take 13 (.alt 14 (.take 15 (.take 16 (.take 17 (.alt 18 (.take 19 .done) .none)))) .none))))))))))))))) mixed (by kernel_rfl) <| pM (e 0) rfl rfl <| pM (e 10) rfl rfl <| pP rfl R_nil H fun _ H => pP rfl (R_fld TF_292_3) H fun _ H => pL rfl T1_290 H fun _ _ _ H => pP rfl R_nil H fun _ H => pL rfl T1_293 H fun _ _ _ H => pM t103 rfl rfl ?_
          exact pP rfl (R_idx TE_293) H fun _ H => pM (e 0) rfl rfl <| pP rfl R_nil H fun _ H => pP rfl (R_fld TF_285_4) H fun _ H => pP rfl (R_fld TF_283_1) H fun _ H => pL rfl T1_9 H fun _ _ _ H => aE rfl <| H_call HB_236 H fun t119 h H => ⟨(hskip rfl (hskip rfl (hskip rfl hnil))), pM t119 rfl rfl <| pP rfl R_ext H fun _ H => pP rfl R_ext H fun t121 H => aE rfl <| H_storeN TS_283 H fun h H => ⟨hnil, pS t121 rfl rfl <| vp_done <| H⟩⟩
        · refine sR <| nM (e 10) rfl <| nP R_nil H fun _ H => nP (R_fld TF_292_2) H fun _ H => nL T1_289 H fun _ H => nM (e 11) rfl <| nP (R_idx TE_289) H fun _ H => nLN TN_283 H fun _ H => vl_n <| H_storeN TS_283 H fun h H => vl_e <| WPc_seq' <| W_drawn [0, 0, 2, 6, 14, 30, 62, 0, 254, 0, 512, 1536, 3584, 7680, 16383, 32767, 65535, 65535, 0, 393215, 1048575] (.take 0 (.take 1 (.take 2 (.take 3 (.take 4 (.take 5 (.take 6 (.take 7 (.take 8 (.take 9 (.take 10 (.take 11 (.take 12 (.take 13 (.alt 14 (.take 15 (.take 16 (.take 17 (.alt 18 (.alt 19 (.take 20 .done) .none) .none)))) (.alt 18 (.alt 14 (.take 15 (.take 16 (.take 17 (.alt 19 (.take 20 .done) .none)))) .none) .none)))))))))))))))) mixed (by kernel_rfl) <| pM (e 0) rfl rfl <| pM (e 10) rfl rfl ?_
          refine pP rfl R_nil H fun _ H => pP rfl (R_fld TF_292_3) H fun _ H => pL rfl T1_290 H fun _ _ hat134 H => pP rfl R_nil H fun _ H => pL rfl T1_293 H fun _ _ hat136 H => pM (e 11) rfl rfl <| pP rfl (R_idx TE_293) H fun _ H => pM (e 0) rfl rfl <| pP rfl R_nil H fun _ H => pP rfl (R_fld TF_285_4) H fun _ H => pP rfl (R_fld TF_283_1) H fun _ H => pL rfl T1_9 H fun _ _ hat143 H => ?_
          obtain ⟨HA0, HA1⟩ := H
          refine alt_n rfl ?_ ?_
          · have H := HA0
            clear HA0 HA1
            refine H_call HB_236 H fun t144 h H => ⟨(hskip rfl (hskip rfl (hskip rfl hnil))), ?_⟩
            refine pM t144 rfl rfl <| pP rfl R_ext H fun _ H => pP rfl R_ext H fun t146 H => aE rfl <| H_alloc TV_283 H fun _ h H => ⟨hnil, aE rfl <| H_storeN TS_283 H fun h H => ⟨hnil, pS t146 rfl rfl <| vp_done <| sR <| nS (.bool true) rfl <| vl_e <| W_drawn [0, 1, 3, 7, 0, 0, 63, 127] (.take 0 (.take 1 (.take 2 (.take 3 (.take 4 (.take 5 (.take 6 (.alt 7 .done .none)))))))) mixed (by kernel_rfl) <| pM (e 10) rfl rfl <| pP rfl R_nil H fun _ H => pP rfl (R_fld TF_292_2) H fun _ H => ?_⟩⟩
            exact pL rfl T1_289 H fun _ _ _ H => pM (e 11) rfl rfl <| tkL rfl <| R_loadN TN_283 H fun _ _ _ _ H _ _ => pP rfl (R_idx TE_289) H fun _ H => aE rfl <| H_storeN TS_283 H fun h H => ⟨(hskip rfl (hskip rfl hnil)), vp_done <| H⟩
          refine alt_n rfl ?_ vp_none
          have H := HA1
          clear HA0 HA1
          refine H_alloc TV_283 H fun _ h ⟨S, S_2, S_3, H⟩ => ⟨(hcons rfl (still_1 S_3 hat143) (hcons rfl (still_1 S_2 hat136) (hcons rfl (still_1 S hat134) hnil))), ?_⟩
          refine aE rfl <| H_call HB_236 H fun t144_2 h H => ⟨(hskip rfl (hskip rfl (hskip rfl hnil))), pM t144_2 rfl rfl <| pP rfl R_ext H fun _ H => pP rfl R_ext H fun t146_2 H => aE rfl <| H_storeN TS_283 H fun h H => ⟨hnil, pS t146_2 rfl rfl <| vp_done <| sR <| nS (.bool true) rfl <| vl_e <| W_drawn [0, 1, 3, 7, 0, 0, 63, 127] (.take 0 (.take 1 (.take 2 (.take 3 (.take 4 (.take 5 (.take 6 (.alt 7 .done .none)))))))) mixed (by kernel_rfl) <| pM (e 10) rfl rfl <| pP rfl R_nil H fun _ H => pP rfl (R_fld TF_292_2) H fun _ H => ?_⟩⟩
          exact pL rfl T1_289 H fun _ _ _ H => pM (e 11) rfl rfl <| tkL rfl <| R_loadN TN_283 H fun _ _ _ _ H _ _ => pP rfl (R_idx TE_289) H fun _ H => aE rfl <| H_storeN TS_283 H fun h H => ⟨(hskip rfl (hskip rfl hnil)), vp_done <| H⟩
      · refine W_region (by kernel_rfl) <| nM (e 0) rfl <| nM (e 10) rfl <| nP R_nil H fun _ H => nP (R_fld TF_292_3) H fun _ H => nL T1_290 H fun _ H => nP R_nil H fun _ H => nL T1_293 H fun _ H => nM (e 11) rfl <| nP (R_idx TE_293) H fun _ H => nM (e 2) rfl <| nM (e 3) rfl <| vl_n <| H_call HB_236 H fun t166 h H => nM t166 rfl ?_
        exact nP R_ext H fun _ H => nP R_ext H fun t168 H => vl_n <| H_storeN TS_283 H fun h H => nS t168 rfl <| vl_e <| H
    refine sR <| nM (e 10) rfl <| vl_n <| H_call HB_170 H fun _ h H => vl_e ?_
    refine cI H (fun H => ?_) fun H => ?_
    · refine WPc_seq (fun e h => Map_si_delete.j6 (e 0) (e 8) h Q) ?_ (fun e h H => ?_)
      rotate_left
      · unfold Map_si_delete.j6 at H
        exact sR <| nM (e 0) rfl <| nP R_nil H fun _ H => nP (R_fld TF_285_4) H fun _ H => nLN TN_283 H fun _ H => vl_n <| H_storeN TS_283 H fun h H => nS (.bool false) rfl <| vl_e <| WPc_ret <| resH_of rfl <| resL_N TN_283 <| loadN_imp H fun r8 H => resL_t <| H
      refine sR <| nM (e 12) rfl <| vl_e ?_
      refine cI H (fun H => ?_) fun H => ?_
      · refine sR <| nM (e 10) rfl <| nP R_nil H fun _ H => nP (R_fld TF_292_2) H fun _ H => nL T1_289 H fun _ H => nM (e 11) rfl <| nP (R_idx TE_289) H fun _ H => nLN TN_283 H fun _ H => vl_n <| H_alloc TV_283 H fun _ h H => vl_n <| H_storeN TS_283 H fun h H => vl_e <| WPc_seq' <| W_drawn [0, 1, 3, 7, 0, 31, 0, 64, 192, 448, 0, 1024, 4032, 8191] (.take 0 (.take 1 (.take 2 (.take 3 (.take 4 (.take 5 (.take 6 (.take 7 (.take 8 (.take 9 (.take 10 (.take 11 (.take 12 (.alt 13 .done .none)))))))))))))) mixed (by kernel_rfl) <| pM (e 10) rfl rfl ?_
        refine pP rfl R_nil H fun _ H => pP rfl (R_fld TF_292_2) H fun _ H => pL rfl T1_289 H fun _ _ _ H => pM (e 11) rfl rfl <| pP rfl (R_slice TE_289 (by decide)) H fun _ H => pM (e 10) rfl rfl <| pP rfl R_nil H fun _ H => pP rfl (R_fld TF_292_2) H fun _ H => pL rfl T1_289 H fun _ _ _ H => pM (e 11) rfl rfl <| pP rfl R_add H fun _ H => pP rfl (R_slice TE_289 (by decide)) H fun _ H => aE rfl <| H_cpy TE_289 H fun _ h H => ⟨(hskip rfl (hskip rfl hnil)), vp_done ?_⟩
        refine WPc_seq' <| W_drawn [0, 1, 3, 7, 0, 16, 48, 112, 240, 496, 0, 1024, 3072, 7168, 16383, 32767] (.take 0 (.take 1 (.take 2 (.take 3 (.take 4 (.take 5 (.take 6 (.take 7 (.take 8 (.take 9 (.take 10 (.take 11 (.take 12 (.take 13 (.take 14 (.alt 15 .done .none)))))))))))))))) mixed (by kernel_rfl) <| pM (e 10) rfl rfl <| pP rfl R_nil H fun _ H => pP rfl (R_fld TF_292_2) H fun _ H => pL rfl T1_289 H fun _ _ _ H => pM (e 10) rfl rfl <| pP rfl R_nil H fun _ H => pP rfl (R_fld TF_292_2) H fun _ H => pL rfl T1_289 H fun _ _ _ H => pP rfl (R_len Try.underlying289) H fun _ H => pP rfl R_sub H fun _ H => pM (e 0) rfl rfl <| pP rfl R_nil H fun _ H => ?_
        refine pP rfl (R_fld TF_285_4) H fun _ H => tkL rfl <| R_loadN TN_283 H fun _ _ _ _ H _ _ => pP rfl (R_idx TE_289) H fun _ H => aE rfl <| H_storeN TS_283 H fun h H => ⟨(hskip rfl (hskip rfl (hskip rfl hnil))), vp_done <| WPc_seq' <| W_drawn [0, 0, 2, 6, 14, 0, 32, 96, 224, 480, 992, 2046, 4095, 8191, 16383] (.take 0 (.take 1 (.take 2 (.take 3 (.take 4 (.take 5 (.take 6 (.take 7 (.take 8 (.take 9 (.take 10 (.take 11 (.take 12 (.take 13 (.alt 14 .done .none))))))))))))))) mixed (by kernel_rfl) <| pM (e 10) rfl rfl <| pM (e 10) rfl rfl <| pP rfl R_nil H fun _ H => pP rfl (R_fld TF_292_2) H fun _ H => pL rfl T1_289 H fun _ _ _ H => pM (e 10) rfl rfl <| pP rfl R_nil H fun _ H => ?_⟩
        refine pP rfl (R_fld TF_292_2) H fun _ H => pL rfl T1_289 H fun _ _ _ H => pP rfl (R_len Try.underlying289) H fun _ H => pP rfl R_sub H fun _ H => pP rfl (R_slice TE_289 (by decide)) H fun _ H => pP rfl R_nil H fun _ H => pP rfl (R_fld TF_292_2) H fun _ H => aE rfl <| H_store1 TS_289 H fun h H => ⟨(hskip rfl (hskip rfl hnil)), vp_done <| sR <| nM (e 10) rfl <| nP R_nil H fun _ H => nP (R_fld TF_292_1) H fun _ H => nL T1_3 H fun _ H => ?_⟩
        refine nP R_sub H fun _ H => nP R_nil H fun _ H => nP (R_fld TF_292_1) H fun _ H => vl_n <| H_store1 TS_3 H fun h H => vl_e <| sR <| nLN TN_283 H fun _ H => vl_n <| H_storeN TS_283 H fun h H => nS (.bool true) rfl <| vl_e <| WPc_ret <| resH_of rfl <| resL_N TN_283 <| loadN_imp H fun r8 H => ?_
        exact resL_t <| H
      · exact WPc_skip <| H
    · exact WPc_skip <| H
  refine sR <| nM a2 rfl <| vl_e ?_
  refine cI H (fun H => ?_) fun H => ?_
  · exact W_region (by kernel_rfl) <| nM t20 rfl <| nP R_nil H fun _ H => nP (R_fld TF_292_2) H fun _ H => nL T1_289 H fun _ H => nP (R_len Try.underlying289) H fun _ H => nP R_sub H fun t27 H => nS t27 rfl <| nS (.bool true) rfl <| vl_e <| H
  · exact W_region (by kernel_rfl) <| nM a0 rfl <| nM t20 rfl <| nM a3 rfl <| vl_n <| H_call HB_267 H fun t32 h H => nM t32 rfl <| nP R_ext H fun t33 H => nP R_ext H fun t34 H => nS t33 rfl <| nS t34 rfl <| vl_e <| H
/-! ### (*pub/tidwallbtree.Map[string, int]).Delete -/
def Map_si_Delete.j4 (s6 : Value) (h : Heap) (Q : Value → Heap → Prop) : Prop := fld 0 s6 fun b=>load1 b h fun d=>Q (.tuple #[d, (.bool true)]) h
def Map_si_Delete.j3 (s0 s6 : Value) (h : Heap) (Q : Value → Heap → Prop) : Prop := nilck s0 fun b=>fld 3 b fun d=>load1 d h fun g=>arith (· - ·) g (.int .i64 1) fun i=>nilck s0 fun j=>fld 3 j fun k=>store1 k i h fun h=>nilck s0 fun l=>fld 3 l fun m=>load1 m h fun n=>cmpI (fun a b=>a == b) n (.int .i64 0) fun o=>ifV o (nilck s0 fun p=>fld 2 p fun q=>store1 q (.pointer none) h fun h=>Map_si_Delete.j4 s6 h Q) (Map_si_Delete.j4 s6 h Q)
def Map_si_Delete.j2 (s0 s6 : Value) (h : Heap) (Q : Value → Heap → Prop) : Prop := nilck s0 fun b=>fld 2 b fun d=>load1 d h fun g=>nilck g fun i=>fld 2 i fun j=>load1 j h fun k=>lenV k fun l=>cmpI (fun a b=>a == b) l (.int .i64 0) fun m=>br m true (nilck s0 fun n=>fld 2 n fun o=>load1 o h fun p=>mapNode_si_leaf.call #[p] h fun q h=>notV q fun u=>ifV u (nilck s0 fun v=>fld 2 v fun w=>load1 w h fun x=>nilck x fun y=>fld 3 y fun z=>load1 z h fun b0=>nilck b0 fun b1=>load1 b1 h fun b2=>idx 1 b2 (.int .i64 0) fun b3=>load1 b3 h fun b4=>nilck s0 fun b5=>fld 2 b5 fun b6=>store1 b6 b4 h fun h=>Map_si_Delete.j3 s0 s6 h Q) (Map_si_Delete.j3 s0 s6 h Q)) (Map_si_Delete.j3 s0 s6 h Q)
def Map_si_Delete.j1 (s0 s1 : Value) (h : Heap) (Q : Value → Heap → Prop) : Prop := nilck s0 fun b=>fld 2 b fun d=>Map_si_delete.call #[s0, d, (.bool false), s1] h fun g h=>extr 0 g fun i=>extr 1 g fun j=>alloc [(.int .i64 0), (.string ⟨#[]⟩)] 283 h fun k h=>storeN 2 k i h fun h=>notV j fun l=>ifV l (nilck s0 fun m=>fld 4 m fun n=>fld 0 n fun o=>load1 o h fun p=>Q (.tuple #[p, (.bool false)]) h) (Map_si_Delete.j2 s0 k h Q)
def Map_si_Delete.sh (a0 a1 : Value) (h : Heap) (Q : Value → Heap → Prop) : Prop := nilck a0 fun b=>fld 2 b fun d=>load1 d h fun g=>eqNilP g fun i=>ifV i (nilck a0 fun j=>fld 4 j fun k=>fld 0 k fun l=>load1 l h fun m=>Q (.tuple #[m, (.bool false)]) h) (Map_si_Delete.j1 a0 a1 h Q)
theorem Map_si_Delete.body (a0 a1 : Value) (h : Heap) (Q : Value → Heap → Prop) (H : Map_si_Delete.sh a0 a1 h Q) : Map_si_Delete.call #[a0, a1] h Q := by
  refine callsH_of (args := [a0, a1]) Try.func171 rfl rfl ?_
  unfold Map_si_Delete.sh at H
  refine sR <| nS (.int .i64 0) rfl <| nS (.bool false) rfl <| vl_e ?_
  refine WPc_seq (fun e h => Map_si_Delete.j1 (e 0) (e 1) h Q) ?_ (fun e h H => ?_)
  rotate_left
  · unfold Map_si_Delete.j1 at H
    refine sR <| nM (e 0) rfl <| nM (e 0) rfl <| nP R_nil H fun _ H => nP (R_fld TF_285_2) H fun _ H => nM (e 1) rfl <| vl_n <| H_call HB_236 H fun t24 h H => nM t24 rfl <| nP R_ext H fun _ H => nP R_ext H fun t26 H => vl_n <| H_alloc TV_283 H fun _ h H => vl_n <| H_storeN TS_283 H fun h H => nS t26 rfl <| vl_e ?_
    refine WPc_seq (fun e h => Map_si_Delete.j2 (e 0) (e 6) h Q) ?_ (fun e h H => ?_)
    rotate_left
    · unfold Map_si_Delete.j2 at H
      refine WPc_seq (fun e h => Map_si_Delete.j3 (e 0) (e 6) h Q) ?_ (fun e h H => ?_)
      rotate_left
      · unfold Map_si_Delete.j3 at H
        refine sR <| nM (e 0) rfl <| nP R_nil H fun _ H => nP (R_fld TF_285_3) H fun _ H => nL T1_3 H fun _ H => nP R_sub H fun _ H => nP R_nil H fun _ H => nP (R_fld TF_285_3) H fun _ H => vl_n <| H_store1 TS_3 H fun h H => vl_e ?_
        refine WPc_seq (fun e h => Map_si_Delete.j4 (e 6) h Q) ?_ (fun e h H => ?_)
        rotate_left
        · unfold Map_si_Delete.j4 at H
          exact sR <| nP (R_fld TF_283_0) H fun _ H => nL T1_3 H fun t81 H => nS t81 rfl <| nS (.bool true) rfl <| vl_e <| WPc_ret <| resH_of rfl <| H
        refine sR <| nM (e 0) rfl <| nP R_nil H fun _ H => nP (R_fld TF_285_3) H fun _ H => nL T1_3 H fun _ H => nP R_eqI H fun _ H => vl_e ?_
        refine cI H (fun H => ?_) fun H => ?_
        · exact W_region (by kernel_rfl) <| nM (e 0) rfl <| nP R_nil H fun _ H => nP (R_fld TF_285_2) H fun _ H => vl_n <| H_store1 TS_281 H fun h H => vl_e <| H
        · exact WPc_skip <| H
      refine sR <| nM (e 0) rfl <| nP R_nil H fun _ H => nP (R_fld TF_285_2) H fun _ H => nL T1_281 H fun _ H => nP R_nil H fun _ H => nP (R_fld TF_292_2) H fun _ H => nL T1_289 H fun _ H => nP (R_len Try.underlying289) H fun _ H => nP R_eqI H fun t42 H => nM t42 rfl ?_
      obtain ⟨b, hb, H1, H2⟩ := H
      cases b
      · have H := H2 rfl
        clear H1 H2
        refine vl_s rfl (nbT hb) ?_
        refine vl_s rfl (nbT hb) ?_
        refine vl_s rfl (nbT hb) ?_
        refine vl_s rfl (nbT hb) ?_
        refine vl_s rfl (nbT hb) ?_
        refine vl_s rfl (nbT hb) ?_
        refine nA (R_pickC (v := (.bool false)) false hb rfl) <| vl_e ?_
        refine WPc_cond (t := false) rfl (fun hh => by cases hh) (fun _ => ?_)
        exact WPc_skip <| H
      · have H := H1 rfl
        clear H1 H2
        refine vl_y rfl hb ?_
        refine H_of_R (R_move (v := (e 0)) rfl ?_)
        refine vl_y rfl hb ?_
        refine H_of_R (R_nil H fun _ H => ?_)
        refine vl_y rfl hb ?_
        refine H_of_R (R_fld TF_285_2 H fun _ H => ?_)
        refine vl_y rfl hb ?_
        refine H_of_R (R_load1 T1_281 H fun _ _ _ _ H => ?_)
        refine vl_y rfl hb ?_
        refine H_call HB_170 H fun _ h H => ?_
        refine vl_y rfl hb ?_
        refine H_of_R (R_not H fun t49 H => ?_)
        refine nA (R_pickC (v := t49) true hb rfl) <| vl_e ?_
        refine cI H (fun H => ?_) fun H => ?_
        · refine W_region (by kernel_rfl) <| nM (e 0) rfl <| nM (e 0) rfl <| nP R_nil H fun _ H => nP (R_fld TF_285_2) H fun _ H => nL T1_281 H fun _ H => nP R_nil H fun _ H => nP (R_fld TF_292_3) H fun _ H => nL T1_290 H fun _ H => nP R_nil H fun _ H => nL T1_293 H fun _ H => nP (R_idx TE_293) H fun _ H => nL T1_281 H fun _ H => nP R_nil H fun _ H => ?_
          exact nP (R_fld TF_285_2) H fun _ H => vl_n <| H_store1 TS_281 H fun h H => vl_e <| H
        · exact WPc_skip <| H
    refine sR <| nM t26 rfl <| nP R_not H fun _ H => vl_e ?_
    refine cI H (fun H => ?_) fun H => ?_
    · exact sR <| nM (e 0) rfl <| nP R_nil H fun _ H => nP (R_fld TF_285_4) H fun _ H => nP (R_fld TF_283_0) H fun _ H => nL T1_3 H fun t33 H => nS t33 rfl <| nS (.bool false) rfl <| vl_e <| WPc_ret <| resH_of rfl <| H
    · exact WPc_skip <| H
  refine sR <| nM a0 rfl <| nP R_nil H fun _ H => nP (R_fld TF_285_2) H fun _ H => nL T1_281 H fun _ H => nP (R_eqNilP Try.underlying281 rfl) H fun _ H => vl_e ?_
  refine cI H (fun H => ?_) fun H => ?_
  · exact sR <| nM a0 rfl <| nP R_nil H fun _ H => nP (R_fld TF_285_4) H fun _ H => nP (R_fld TF_283_0) H fun _ H => nL T1_3 H fun t17 H => nS t17 rfl <| nS (.bool false) rfl <| vl_e <| WPc_ret <| resH_of rfl <| H
  · exact WPc_skip <| H

end Go.Proofs.Ytkkappjbcgnacaa
end
section
namespace Go.Proofs.Ytkkappjbcgnacaa
open Go.Hp
set_option maxRecDepth 100000
set_option maxHeartbeats 8000000
set_option linter.unusedVariables false
set_option linter.unusedSimpArgs false

/-! ### (*pub/tidwallbtree.Map[string, int]).DeleteAt -/
def Map_si_DeleteAt.j4 (s0 : Value) (h : Heap) (Q : Value → Heap → Prop) : Prop := nilck s0 fun b=>fld 4 b fun d=>fld 1 d fun g=>load1 g h fun i=>nilck s0 fun j=>fld 4 j fun k=>fld 0 k fun l=>load1 l h fun m=>Q (.tuple #[i, m, (.bool false)]) h
def Map_si_DeleteAt.j3 (s0 s9 : Value) (h : Heap) (Q : Value → Heap → Prop) : Prop := fld 1 s9 fun b=>load1 b h fun d=>Map_si_Delete.call #[s0, d] h fun g h=>extr 0 g fun i=>extr 1 g fun j=>ifV j (fld 1 s9 fun k=>load1 k h fun l=>Q (.tuple #[l, i, (.bool true)]) h) (Map_si_DeleteAt.j4 s0 h Q)
def Map_si_DeleteAt.j7 (s0 s8 s9 s10 s12 : Value) (h : Heap) (K1 : List Value → Heap → Prop) (Q : Value → Heap → Prop) : Prop := arith (· + ·) s12 (.int .i64 1) fun b=>K1 [s10, b] h
def Map_si_DeleteAt.j6 (s0 s8 s9 s10 s12 : Value) (h : Heap) (K1 : List Value → Heap → Prop) (Q : Value → Heap → Prop) : Prop := nilck s10 fun b=>fld 1 b fun d=>load1 d h fun g=>arith (· + ·) g (.int .i64 1) fun i=>nilck s10 fun j=>fld 1 j fun k=>store1 k i h fun h=>mapNode_si_leaf.call #[s10] h fun l h=>notV l fun m=>ifV m (nilck s10 fun n=>fld 3 n fun o=>load1 o h fun p=>nilck p fun q=>load1 q h fun u=>idx 1 s8 s12 fun v=>load1 v h fun w=>idx 1 u w fun x=>load1 x h fun y=>Map_si_DeleteAt.j7 s0 s8 s9 y s12 h K1 Q) (Map_si_DeleteAt.j7 s0 s8 s9 s10 s12 h K1 Q)
def Map_si_DeleteAt.l5.b (c0 c8 c9 s10 s12 : Value) (h : Heap) (K1 : List Value → Heap → Prop) (Q : Value → Heap → Prop) : Prop := lenV c8 fun b=>cmpI (fun a b=>decide (a < b)) s12 b fun d=>ifV d (Map_si_DeleteAt.j6 c0 c8 c9 s10 s12 h K1 Q) (Map_si_DeleteAt.j3 c0 c9 h Q)
def Map_si_DeleteAt.j2 (s0 s8 s9 : Value) (h : Heap) (Q : Value → Heap → Prop) : Prop := nilck s0 fun b=>fld 2 b fun d=>load1 d h fun g=>loopC (fun c s h K1=>Map_si_DeleteAt.l5.b (c.getD 0 undef) (c.getD 1 undef) (c.getD 2 undef) (s.getD 0 undef) (s.getD 1 undef) h K1 Q) [s0, s8, s9] [g, (.int .i64 0)] h
def Map_si_DeleteAt.j10 (s0 s1 s8 s9 s10 s11 : Value) (h : Heap) (K1 : List Value → Heap → Prop) (Q : Value → Heap → Prop) : Prop := cvI .u8 s11 fun b=>mkSl (if 1 * 1 = 0 then [] else zeros [(.int .u8 0)] 1) 1 [(0 * 1, 1, b)] 5 h fun d h=>app 5 1 1 [(.int .u8 0)] s8 d h fun g h=>nilck s10 fun i=>fld 3 i fun j=>load1 j h fun k=>nilck k fun l=>load1 l h fun m=>idx 1 m s11 fun n=>Map_si_isoLoad.call #[s0, n, (.bool true)] h fun o h=>K1 [s1, g, o] h
def Map_si_DeleteAt.j13 (s0 s1 s8 s9 s10 s11 : Value) (h : Heap) (K1 : List Value → Heap → Prop) (K2 : List Value → Heap → Prop) (Q : Value → Heap → Prop) : Prop := arith (· + ·) s11 (.int .i64 1) fun b=>K2 [s1, s8, b] h
def Map_si_DeleteAt.j14 (s0 s1 s8 s9 s10 s11 : Value) (h : Heap) (K1 : List Value → Heap → Prop) (K2 : List Value → Heap → Prop) (Q : Value → Heap → Prop) : Prop := nilck s10 fun b=>fld 3 b fun d=>load1 d h fun g=>nilck g fun i=>load1 i h fun j=>idx 1 j s11 fun k=>load1 k h fun l=>nilck l fun m=>fld 1 m fun n=>load1 n h fun o=>arith (· + ·) o (.int .i64 1) fun p=>arith (· - ·) s1 p fun q=>Map_si_DeleteAt.j13 s0 q s8 s9 s10 s11 h K1 K2 Q
def Map_si_DeleteAt.j12 (s0 s1 s8 s9 s10 s11 : Value) (h : Heap) (K1 : List Value → Heap → Prop) (K2 : List Value → Heap → Prop) (Q : Value → Heap → Prop) : Prop := nilck s10 fun b=>fld 3 b fun d=>load1 d h fun g=>nilck g fun i=>load1 i h fun j=>idx 1 j s11 fun k=>load1 k h fun l=>nilck l fun m=>fld 1 m fun n=>load1 n h fun o=>cmpI (fun a b=>decide (a < b)) s1 o fun p=>ifV p (Map_si_DeleteAt.j10 s0 s1 s8 s9 s10 s11 h K1 Q) (nilck s10 fun q=>fld 3 q fun u=>load1 u h fun v=>nilck v fun w=>load1 w h fun x=>idx 1 x s11 fun y=>load1 y h fun z=>nilck z fun b0=>fld 1 b0 fun b1=>load1 b1 h fun b2=>cmpI (fun a b=>a == b) s1 b2 fun b3=>ifV b3 (nilck s10 fun b4=>fld 2 b4 fun b5=>load1 b5 h fun b6=>idx 2 b6 s11 fun b7=>loadN 2 b7 h fun b8=>storeN 2 s9 b8 h fun h=>cvI .u8 s11 fun b9=>mkSl (if 1 * 1 = 0 then [] else zeros [(.int .u8 0)] 1) 1 [(0 * 1, 1, b9)] 5 h fun d0 h=>app 5 1 1 [(.int .u8 0)] s8 d0 h fun d1 h=>Map_si_DeleteAt.j2 s0 d1 s9 h Q) (Map_si_DeleteAt.j14 s0 s1 s8 s9 s10 s11 h K1 K2 Q))
def Map_si_DeleteAt.l11.b (c0 c9 c10 s1 s8 s11 : Value) (h : Heap) (K1 : List Value → Heap → Prop) (K2 : List Value → Heap → Prop) (Q : Value → Heap → Prop) : Prop := nilck c10 fun b=>fld 2 b fun d=>load1 d h fun g=>lenV g fun i=>cmpI (fun a b=>decide (a < b)) s11 i fun j=>ifV j (Map_si_DeleteAt.j12 c0 s1 s8 c9 c10 s11 h K1 K2 Q) (Map_si_DeleteAt.j10 c0 s1 s8 c9 c10 s11 h K1 Q)
def Map_si_DeleteAt.j9 (s0 s1 s8 s9 s10 : Value) (h : Heap) (K1 : List Value → Heap → Prop) (Q : Value → Heap → Prop) : Prop := loopC (fun c s h K2=>Map_si_DeleteAt.l11.b (c.getD 0 undef) (c.getD 1 undef) (c.getD 2 undef) (s.getD 0 undef) (s.getD 1 undef) (s.getD 2 undef) h K1 K2 Q) [s0, s9, s10] [s1, s8, (.int .i64 0)] h
def Map_si_DeleteAt.j16 (s9 : Value) (h : Heap) (K1 : List Value → Heap → Prop) (Q : Value → Heap → Prop) : Prop := fld 1 s9 fun b=>load1 b h fun d=>fld 0 s9 fun g=>load1 g h fun i=>Q (.tuple #[d, i, (.bool true)]) h
def Map_si_DeleteAt.j15 (s0 s1 s9 s10 : Value) (h : Heap) (K1 : List Value → Heap → Prop) (Q : Value → Heap → Prop) : Prop := nilck s10 fun b=>fld 2 b fun d=>load1 d h fun g=>slc 2 g (some s1) none none fun i=>nilck s10 fun j=>fld 2 j fun k=>load1 k h fun l=>arith (· + ·) s1 (.int .i64 1) fun m=>slc 2 l (some m) none none fun n=>cpy 2 i n h fun o h=>nilck s10 fun p=>fld 2 p fun q=>load1 q h fun u=>nilck s10 fun v=>fld 2 v fun w=>load1 w h fun x=>lenV x fun y=>arith (· - ·) y (.int .i64 1) fun z=>nilck s0 fun b0=>fld 4 b0 fun b1=>loadN 2 b1 h fun b2=>idx 2 u z fun b3=>storeN 2 b3 b2 h fun h=>nilck s10 fun b4=>fld 2 b4 fun b5=>load1 b5 h fun b6=>nilck s10 fun b7=>fld 2 b7 fun b8=>load1 b8 h fun b9=>lenV b9 fun d0=>arith (· - ·) d0 (.int .i64 1) fun d1=>slc 2 b6 none (some d1) none fun d2=>nilck s10 fun d3=>fld 2 d3 fun d4=>store1 d4 d2 h fun h=>nilck s0 fun d5=>fld 3 d5 fun d6=>load1 d6 h fun d7=>arith (· - ·) d7 (.int .i64 1) fun d8=>nilck s0 fun d9=>fld 3 d9 fun g0=>store1 g0 d8 h fun h=>nilck s0 fun g1=>fld 3 g1 fun g2=>load1 g2 h fun g3=>cmpI (fun a b=>a == b) g3 (.int .i64 0) fun g4=>ifV g4 (nilck s0 fun g5=>fld 2 g5 fun g6=>store1 g6 (.pointer none) h fun h=>Map_si_DeleteAt.j16 s9 h K1 Q) (Map_si_DeleteAt.j16 s9 h K1 Q)
def Map_si_DeleteAt.l8.b (c0 c9 s1 s8 s10 : Value) (h : Heap) (K1 : List Value → Heap → Prop) (Q : Value → Heap → Prop) : Prop := nilck s10 fun b=>fld 1 b fun d=>load1 d h fun g=>arith (· - ·) g (.int .i64 1) fun i=>nilck s10 fun j=>fld 1 j fun k=>store1 k i h fun h=>mapNode_si_leaf.call #[s10] h fun l h=>ifV l (nilck s10 fun m=>fld 2 m fun n=>load1 n h fun o=>idx 2 o s1 fun p=>loadN 2 p h fun q=>storeN 2 c9 q h fun h=>nilck s10 fun u=>fld 2 u fun v=>load1 v h fun w=>lenV w fun x=>nilck c0 fun y=>fld 6 y fun z=>load1 z h fun b0=>cmpI (fun a b=>a == b) x b0 fun b1=>ifV b1 (cvI .u8 s1 fun b2=>mkSl (if 1 * 1 = 0 then [] else zeros [(.int .u8 0)] 1) 1 [(0 * 1, 1, b2)] 5 h fun b3 h=>app 5 1 1 [(.int .u8 0)] s8 b3 h fun b4 h=>Map_si_DeleteAt.j2 c0 b4 c9 h Q) (Map_si_DeleteAt.j15 c0 s1 c9 s10 h K1 Q)) (Map_si_DeleteAt.j9 c0 s1 s8 c9 s10 h K1 Q)
def Map_si_DeleteAt.j1 (s0 s1 : Value) (h : Heap) (Q : Value → Heap → Prop) : Prop := alloc [(.int .u8 0), (.int .u8 0), (.int .u8 0), (.int .u8 0), (.int .u8 0), (.int .u8 0), (.int .u8 0), (.int .u8 0)] 286 h fun b h=>slcA 8 1 b none (some (.int .i64 0)) fun d=>alloc [(.int .i64 0), (.string ⟨#[]⟩)] 283 h fun g h=>nilck s0 fun i=>fld 2 i fun j=>Map_si_isoLoad.call #[s0, j, (.bool true)] h fun k h=>loopC (fun c s h K1=>Map_si_DeleteAt.l8.b (c.getD 0 undef) (c.getD 1 undef) (s.getD 0 undef) (s.getD 1 undef) (s.getD 2 undef) h K1 Q) [s0, g] [s1, d, k] h
def Map_si_DeleteAt.sh (a0 a1 : Value) (h : Heap) (Q : Value → Heap → Prop) : Prop := nilck a0 fun b=>fld 2 b fun d=>load1 d h fun g=>eqNilP g fun i=>br i false (cmpI (fun a b=>decide (a < b)) a1 (.int .i64 0) fun j=>br j false (nilck a0 fun k=>fld 3 k fun l=>load1 l h fun m=>cmpI (fun a b=>decide (a ≥ b)) a1 m fun n=>ifV n (nilck a0 fun o=>fld 4 o fun p=>fld 1 p fun q=>load1 q h fun u=>nilck a0 fun v=>fld 4 v fun w=>fld 0 w fun x=>load1 x h fun y=>Q (.tuple #[u, y, (.bool false)]) h) (Map_si_DeleteAt.j1 a0 a1 h Q)) (nilck a0 fun z=>fld 4 z fun b0=>fld 1 b0 fun b1=>load1 b1 h fun b2=>nilck a0 fun b3=>fld 4 b3 fun b4=>fld 0 b4 fun b5=>load1 b5 h fun b6=>Q (.tuple #[b2, b6, (.bool false)]) h)) (nilck a0 fun b7=>fld 4 b7 fun b8=>fld 1 b8 fun b9=>load1 b9 h fun d0=>nilck a0 fun d1=>fld 4 d1 fun d2=>fld 0 d2 fun d3=>load1 d3 h fun d4=>Q (.tuple #[d0, d4, (.bool false)]) h)
theorem Map_si_DeleteAt.body (a0 a1 : Value) (h : Heap) (Q : Value → Heap → Prop) (H : Map_si_DeleteAt.sh a0 a1 h Q) : Map_si_DeleteAt.call #[a0, a1] h Q := by
  refine callsH_of (args := [a0, a1]) Try.func107 rfl rfl ?_
  unfold Map_si_DeleteAt.sh at H
  refine sR <| nS (.string ⟨#[]⟩) rfl <| nS (.int .i64 0) rfl <| nS (.bool false) rfl <| vl_e ?_
  refine WPc_scope ?_
  refine WPc_seq (fun e h => Map_si_DeleteAt.j1 (e 0) (e 1) h Q) ?_ (fun e h H => ?_)
  rotate_left
  · unfold Map_si_DeleteAt.j1 at H
    refine sR <| vl_n <| H_alloc TV_286 H fun _ h H => vl_e <| sR <| nP (R_slcA TA_286) H fun t42 H => nS t42 rfl <| vl_e <| sR <| vl_n <| H_alloc TV_283 H fun _ h H => vl_e <| sR <| nM (e 0) rfl <| nM (e 0) rfl <| nP R_nil H fun _ H => ?_
    refine nP (R_fld TF_285_2) H fun _ H => vl_n <| H_call HB_169 H fun t47 h H => nS t47 rfl <| vl_e <| WPc_seq' ?_
    refine WPc_label ?_
    refine WPc_seq (fun e h => Map_si_DeleteAt.j2 (e 0) (e 8) (e 9) h Q) ?_ (fun e h H => ?_)
    rotate_left
    · unfold Map_si_DeleteAt.j2 at H
      refine sR <| nM (e 0) rfl <| nP R_nil H fun _ H => nP (R_fld TF_285_2) H fun _ H => nL T1_281 H fun t223 H => nS t223 rfl <| vl_e ?_
      refine WPc_seq (fun e h => Map_si_DeleteAt.j3 (e 0) (e 9) h Q) ?_ (fun e h H => ?_)
      rotate_left
      · unfold Map_si_DeleteAt.j3 at H
        refine sR <| nM (e 0) rfl <| nP (R_fld TF_283_1) H fun _ H => nL T1_9 H fun _ H => vl_n <| H_call HB_171 H fun t256 h H => nM t256 rfl <| nP R_ext H fun t257 H => nP R_ext H fun t258 H => nS t257 rfl <| nS t258 rfl <| vl_e ?_
        refine WPc_seq (fun e h => Map_si_DeleteAt.j4 (e 0) h Q) ?_ (fun e h H => ?_)
        rotate_left
        · unfold Map_si_DeleteAt.j4 at H
          refine WPc_seq' <| W_drawn [0, 1, 3, 7, 15, 0, 32, 96, 224, 480, 31, 2047, 4095] (.take 0 (.take 1 (.take 2 (.take 3 (.take 4 (.take 5 (.take 6 (.take 7 (.take 8 (.take 9 (.take 10 (.take 11 (.take 12 .done))))))))))))) mixed (by kernel_rfl) <| pM (e 0) rfl rfl <| pP rfl R_nil H fun _ H => pP rfl (R_fld TF_285_4) H fun _ H => pP rfl (R_fld TF_283_1) H fun _ H => pL rfl T1_9 H fun _ t267 _ H => pM (e 0) rfl rfl <| pP rfl R_nil H fun _ H => pP rfl (R_fld TF_285_4) H fun _ H => pP rfl (R_fld TF_283_0) H fun _ H => pL rfl T1_3 H fun _ t272 _ H => pS t267 rfl rfl <| pS t272 rfl rfl ?_
          exact pS (.bool false) rfl rfl <| vp_done <| WPc_ret <| resH_of rfl <| H
        refine sR <| nM t258 rfl <| vl_e ?_
        refine cI H (fun H => ?_) fun H => ?_
        · exact sR <| nP (R_fld TF_283_1) H fun _ H => nL T1_9 H fun t261 H => nM t257 rfl <| nS t261 rfl <| nS t257 rfl <| nS (.bool true) rfl <| vl_e <| WPc_ret <| resH_of rfl <| H
        · exact WPc_skip <| H
      refine sR <| nS (.int .i64 0) rfl <| vl_e <| WPc_block ?_
      refine loop_at (fun e => [e 10, e 12]) (fun e => [e 0, e 8, e 9]) H rfl rfl ?_
      intro K1 e1 h H hin1
      replace H : Map_si_DeleteAt.l5.b (e1 0) (e1 8) (e1 9) (e1 10) (e1 12) h K1 Q := H
      unfold Map_si_DeleteAt.l5.b at H
      clear hin1
      refine WPc_seq (fun e h => Map_si_DeleteAt.j6 (e 0) (e 8) (e 9) (e 10) (e 12) h K1 Q ∧ [e1 0, e1 8, e1 9] = [e 0, e 8, e 9]) ?_ (fun e h ⟨H, hq1⟩ => ?_)
      rotate_left
      · unfold Map_si_DeleteAt.j6 at H
        refine WPc_seq (fun e h => Map_si_DeleteAt.j7 (e 0) (e 8) (e 9) (e 10) (e 12) h K1 Q ∧ [e1 0, e1 8, e1 9] = [e 0, e 8, e 9]) ?_ (fun e h ⟨H, hq1⟩ => ?_)
        rotate_left
        · unfold Map_si_DeleteAt.j7 at H
          refine W_region (by kernel_rfl) <| nM (e 12) rfl <| nP R_add H fun t229 H => nS t229 rfl <| vl_e ?_
          exact ⟨H, hq1⟩
        refine WPc_block <| sR <| nM (e 10) rfl <| nP R_nil H fun _ H => nP (R_fld TF_292_1) H fun _ H => nL T1_3 H fun _ H => nP R_add H fun _ H => nP R_nil H fun _ H => nP (R_fld TF_292_1) H fun _ H => vl_n <| H_store1 TS_3 H fun h H => vl_e <| sR <| nM (e 10) rfl <| vl_n <| H_call HB_170 H fun _ h H => ?_
        refine nP R_not H fun _ H => vl_e ?_
        refine cI H (fun H => ?_) fun H => ?_
        · refine W_drawn [0, 1, 3, 7, 15, 31, 0, 0, 192, 448, 1023, 2047, 4095] (.take 0 (.take 1 (.take 2 (.take 3 (.take 4 (.take 5 (.take 6 (.take 7 (.take 8 (.take 9 (.take 10 (.take 11 (.take 12 .done))))))))))))) mixed (by kernel_rfl) <| pM (e 10) rfl rfl <| pP rfl R_nil H fun _ H => pP rfl (R_fld TF_292_3) H fun _ H => pL rfl T1_290 H fun _ _ _ H => pP rfl R_nil H fun _ H => pL rfl T1_293 H fun _ _ _ H => pM (e 8) rfl rfl <| pM (e 12) rfl rfl <| pP rfl (R_idx TE_41) H fun _ H => pL rfl T1_5 H fun _ _ _ H => pP rfl (R_idx TE_293) H fun _ H => pL rfl T1_281 H fun _ t251 _ H => pS t251 rfl rfl ?_
          refine vp_done ?_
          exact ⟨H, hq1⟩
        · refine WPc_skip ?_
          exact ⟨H, hq1⟩
      refine sR <| nM (e1 12) rfl <| nM (e1 8) rfl <| nP (R_len Try.underlying41) H fun _ H => nP R_lss H fun _ H => vl_e ?_
      refine cI H (fun H => ?_) fun H => ?_
      · refine WPc_skip ?_
        exact ⟨H, rfl⟩
      · refine WPc_exit ?_
        exact H
    refine WPc_block ?_
    refine loop_at (fun e => [e 1, e 8, e 10]) (fun e => [e 0, e 9]) H rfl rfl ?_
    intro K1 e1 h H hin1
    replace H : Map_si_DeleteAt.l8.b (e1 0) (e1 9) (e1 1) (e1 8) (e1 10) h K1 Q := H
    unfold Map_si_DeleteAt.l8.b at H
    clear hin1
    refine WPc_block <| sR <| nM (e1 10) rfl <| nP R_nil H fun _ H => nP (R_fld TF_292_1) H fun _ H => nL T1_3 H fun _ H => nP R_sub H fun _ H => nP R_nil H fun _ H => nP (R_fld TF_292_1) H fun _ H => vl_n <| H_store1 TS_3 H fun h H => vl_e ?_
    refine WPc_seq (fun e h => Map_si_DeleteAt.j9 (e 0) (e 1) (e 8) (e 9) (e 10) h K1 Q ∧ [e1 0, e1 9] = [e 0, e 9]) ?_ (fun e h ⟨H, hq1⟩ => ?_)
    rotate_left
    · unfold Map_si_DeleteAt.j9 at H
      refine sR <| nS (.int .i64 0) rfl <| vl_e ?_
      refine WPc_seq (fun e h => Map_si_DeleteAt.j10 (e 0) (e 1) (e 8) (e 9) (e 10) (e 11) h K1 Q ∧ [e1 0, e1 9] = [e 0, e 9]) ?_ (fun e h ⟨H, hq1⟩ => ?_)
      rotate_left
      · unfold Map_si_DeleteAt.j10 at H
        refine sR <| nM (e 8) rfl <| nM (e 11) rfl <| nP (R_cvI Try.underlying3 Try.underlying5) H fun _ H => vl_n <| H_mkSl TZ_41 (by decide) rfl H rfl fun _ h H => vl_n <| H_app TZ_41 TU_41 H fun t209 h H => nS t209 rfl <| vl_e <| W_region (by kernel_rfl) <| nM (e 0) rfl <| nM (e 10) rfl <| nP R_nil H fun _ H => nP (R_fld TF_292_3) H fun _ H => nL T1_290 H fun _ H => ?_
        refine nP R_nil H fun _ H => nL T1_293 H fun _ H => nM (e 11) rfl <| nP (R_idx TE_293) H fun _ H => vl_n <| H_call HB_169 H fun t219 h H => nS t219 rfl <| vl_e ?_
        exact ⟨H, hq1⟩
      refine WPc_block ?_
      refine loop_at (fun e => [e 1, e 8, e 11]) (fun e => [e 0, e 9, e 10]) H rfl rfl ?_
      intro K2 e2 h H hin2
      replace H : Map_si_DeleteAt.l11.b (e2 0) (e2 9) (e2 10) (e2 1) (e2 8) (e2 11) h K1 K2 Q := H
      unfold Map_si_DeleteAt.l11.b at H
      have hz1 : [e1 0, e1 9] = [e2 0, e2 9] := Eq.trans hq1 (congrArg (fun l : List Value => [l.getD 0 undef, l.getD 1 undef]) hin2)
      clear hin2
      refine WPc_seq (fun e h => Map_si_DeleteAt.j12 (e 0) (e 1) (e 8) (e 9) (e 10) (e 11) h K1 K2 Q ∧ [e1 0, e1 9] = [e 0, e 9] ∧ [e2 0, e2 9, e2 10] = [e 0, e 9, e 10]) ?_ (fun e h ⟨H, hq1, hq2⟩ => ?_)
      rotate_left
      · unfold Map_si_DeleteAt.j12 at H
        refine WPc_seq (fun e h => Map_si_DeleteAt.j13 (e 0) (e 1) (e 8) (e 9) (e 10) (e 11) h K1 K2 Q ∧ [e1 0, e1 9] = [e 0, e 9] ∧ [e2 0, e2 9, e2 10] = [e 0, e 9, e 10]) ?_ (fun e h ⟨H, hq1, hq2⟩ => ?_)
        rotate_left
        · unfold Map_si_DeleteAt.j13 at H
          refine W_region (by kernel_rfl) <| nM (e 11) rfl <| nP R_add H fun t149 H => nS t149 rfl <| vl_e ?_
          exact ⟨H, hq2⟩
        refine WPc_block ?_
        refine WPc_seq (fun e h => Map_si_DeleteAt.j14 (e 0) (e 1) (e 8) (e 9) (e 10) (e 11) h K1 K2 Q ∧ [e1 0, e1 9] = [e 0, e 9] ∧ [e2 0, e2 9, e2 10] = [e 0, e 9, e 10]) ?_ (fun e h ⟨H, hq1, hq2⟩ => ?_)
        rotate_left
        · unfold Map_si_DeleteAt.j14 at H
          refine W_region (by kernel_rfl) <| nM (e 1) rfl <| nM (e 10) rfl <| nP R_nil H fun _ H => nP (R_fld TF_292_3) H fun _ H => nL T1_290 H fun _ H => nP R_nil H fun _ H => nL T1_293 H fun _ H => nM (e 11) rfl <| nP (R_idx TE_293) H fun _ H => nL T1_281 H fun _ H => nP R_nil H fun _ H => nP (R_fld TF_292_1) H fun _ H => nL T1_3 H fun _ H => ?_
          refine nP R_add H fun _ H => nP R_sub H fun t204 H => nS t204 rfl <| vl_e ?_
          exact ⟨H, hq1, hq2⟩
        refine sR <| nM (e 1) rfl <| nM (e 10) rfl <| nP R_nil H fun _ H => nP (R_fld TF_292_3) H fun _ H => nL T1_290 H fun _ H => nP R_nil H fun _ H => nL T1_293 H fun _ H => nM (e 11) rfl <| nP (R_idx TE_293) H fun _ H => nL T1_281 H fun _ H => nP R_nil H fun _ H => nP (R_fld TF_292_1) H fun _ H => nL T1_3 H fun _ H => ?_
        refine nP R_lss H fun _ H => vl_e ?_
        refine cI H (fun H => ?_) fun H => ?_
        · refine WPc_exit ?_
          exact ⟨H, hq1⟩
        · refine sR <| nM (e 1) rfl <| nM (e 10) rfl <| nP R_nil H fun _ H => nP (R_fld TF_292_3) H fun _ H => nL T1_290 H fun _ H => nP R_nil H fun _ H => nL T1_293 H fun _ H => nM (e 11) rfl <| nP (R_idx TE_293) H fun _ H => nL T1_281 H fun _ H => nP R_nil H fun _ H => nP (R_fld TF_292_1) H fun _ H => nL T1_3 H fun _ H => ?_
          refine nP R_eqI H fun _ H => vl_e ?_
          refine cI H (fun H => ?_) fun H => ?_
          · refine sR <| nM (e 10) rfl <| nP R_nil H fun _ H => nP (R_fld TF_292_2) H fun _ H => nL T1_289 H fun _ H => nM (e 11) rfl <| nP (R_idx TE_289) H fun _ H => nLN TN_283 H fun _ H => vl_n <| H_storeN TS_283 H fun h H => vl_e <| sR <| nM (e 8) rfl <| nM (e 11) rfl <| nP (R_cvI Try.underlying3 Try.underlying5) H fun _ H => ?_
            refine vl_n <| H_mkSl TZ_41 (by decide) rfl H rfl fun _ h H => vl_n <| H_app TZ_41 TU_41 H fun t189 h H => nS t189 rfl <| vl_e ?_
            refine WPc_exit ?_
            exact H
          · refine WPc_skip ?_
            exact ⟨H, hq1, hq2⟩
      refine sR <| nM (e2 11) rfl <| nM (e2 10) rfl <| nP R_nil H fun _ H => nP (R_fld TF_292_2) H fun _ H => nL T1_289 H fun _ H => nP (R_len Try.underlying289) H fun _ H => nP R_lss H fun _ H => vl_e ?_
      refine cI H (fun H => ?_) fun H => ?_
      · refine WPc_skip ?_
        exact ⟨H, hz1, rfl⟩
      · refine WPc_exit ?_
        exact ⟨H, hz1⟩
    refine sR <| nM (e1 10) rfl <| vl_n <| H_call HB_170 H fun _ h H => vl_e ?_
    refine cI H (fun H => ?_) fun H => ?_
    · refine sR <| nM (e1 10) rfl <| nP R_nil H fun _ H => nP (R_fld TF_292_2) H fun _ H => nL T1_289 H fun _ H => nM (e1 1) rfl <| nP (R_idx TE_289) H fun _ H => nLN TN_283 H fun _ H => vl_n <| H_storeN TS_283 H fun h H => vl_e ?_
      refine WPc_seq (fun e h => Map_si_DeleteAt.j15 (e 0) (e 1) (e 9) (e 10) h K1 Q ∧ [e1 0, e1 9] = [e 0, e 9]) ?_ (fun e h ⟨H, hq1⟩ => ?_)
      rotate_left
      · unfold Map_si_DeleteAt.j15 at H
        refine WPc_seq' <| W_drawn [0, 1, 3, 7, 0, 31, 0, 64, 192, 448, 0, 1024, 4032, 8191] (.take 0 (.take 1 (.take 2 (.take 3 (.take 4 (.take 5 (.take 6 (.take 7 (.take 8 (.take 9 (.take 10 (.take 11 (.take 12 (.alt 13 .done .none)))))))))))))) mixed (by kernel_rfl) <| pM (e 10) rfl rfl <| pP rfl R_nil H fun _ H => pP rfl (R_fld TF_292_2) H fun _ H => pL rfl T1_289 H fun _ _ _ H => pM (e 1) rfl rfl <| pP rfl (R_slice TE_289 (by decide)) H fun _ H => pM (e 10) rfl rfl <| pP rfl R_nil H fun _ H => pP rfl (R_fld TF_292_2) H fun _ H => pL rfl T1_289 H fun _ _ _ H => pM (e 1) rfl rfl <| pP rfl R_add H fun _ H => ?_
        refine pP rfl (R_slice TE_289 (by decide)) H fun _ H => aE rfl <| H_cpy TE_289 H fun _ h H => ⟨(hskip rfl (hskip rfl hnil)), vp_done <| WPc_seq' <| W_drawn [0, 1, 3, 7, 0, 16, 48, 112, 240, 496, 0, 1024, 3072, 7168, 16383, 32767] (.take 0 (.take 1 (.take 2 (.take 3 (.take 4 (.take 5 (.take 6 (.take 7 (.take 8 (.take 9 (.take 10 (.take 11 (.take 12 (.take 13 (.take 14 (.alt 15 .done .none)))))))))))))))) mixed (by kernel_rfl) <| pM (e 10) rfl rfl <| pP rfl R_nil H fun _ H => pP rfl (R_fld TF_292_2) H fun _ H => pL rfl T1_289 H fun _ _ _ H => pM (e 10) rfl rfl <| pP rfl R_nil H fun _ H => pP rfl (R_fld TF_292_2) H fun _ H => pL rfl T1_289 H fun _ _ _ H => pP rfl (R_len Try.underlying289) H fun _ H => ?_⟩
        refine pP rfl R_sub H fun _ H => pM (e 0) rfl rfl <| pP rfl R_nil H fun _ H => pP rfl (R_fld TF_285_4) H fun _ H => tkL rfl <| R_loadN TN_283 H fun _ _ _ _ H _ _ => pP rfl (R_idx TE_289) H fun _ H => aE rfl <| H_storeN TS_283 H fun h H => ⟨(hskip rfl (hskip rfl (hskip rfl hnil))), vp_done <| WPc_seq' <| W_drawn [0, 0, 2, 6, 14, 0, 32, 96, 224, 480, 992, 2046, 4095, 8191, 16383] (.take 0 (.take 1 (.take 2 (.take 3 (.take 4 (.take 5 (.take 6 (.take 7 (.take 8 (.take 9 (.take 10 (.take 11 (.take 12 (.take 13 (.alt 14 .done .none))))))))))))))) mixed (by kernel_rfl) <| pM (e 10) rfl rfl <| pM (e 10) rfl rfl <| pP rfl R_nil H fun _ H => pP rfl (R_fld TF_292_2) H fun _ H => ?_⟩
        refine pL rfl T1_289 H fun _ _ _ H => pM (e 10) rfl rfl <| pP rfl R_nil H fun _ H => pP rfl (R_fld TF_292_2) H fun _ H => pL rfl T1_289 H fun _ _ _ H => pP rfl (R_len Try.underlying289) H fun _ H => pP rfl R_sub H fun _ H => pP rfl (R_slice TE_289 (by decide)) H fun _ H => pP rfl R_nil H fun _ H => pP rfl (R_fld TF_292_2) H fun _ H => aE rfl <| H_store1 TS_289 H fun h H => ⟨(hskip rfl (hskip rfl hnil)), vp_done <| sR <| nM (e 0) rfl ?_⟩
        refine nP R_nil H fun _ H => nP (R_fld TF_285_3) H fun _ H => nL T1_3 H fun _ H => nP R_sub H fun _ H => nP R_nil H fun _ H => nP (R_fld TF_285_3) H fun _ H => vl_n <| H_store1 TS_3 H fun h H => vl_e ?_
        refine WPc_seq (fun e h => Map_si_DeleteAt.j16 (e 9) h K1 Q ∧ [e1 0, e1 9] = [e 0, e 9]) ?_ (fun e h ⟨H, hq1⟩ => ?_)
        rotate_left
        · unfold Map_si_DeleteAt.j16 at H
          exact WPc_seq' <| W_drawn [0, 1, 0, 4, 3, 31, 63] (.take 0 (.take 1 (.take 2 (.take 3 (.take 4 (.take 5 (.take 6 .done))))))) mixed (by kernel_rfl) <| pP rfl (R_fld TF_283_1) H fun _ H => pL rfl T1_9 H fun _ t138 _ H => pP rfl (R_fld TF_283_0) H fun _ H => pL rfl T1_3 H fun _ t140 _ H => pS t138 rfl rfl <| pS t140 rfl rfl <| pS (.bool true) rfl rfl <| vp_done <| WPc_ret <| resH_of rfl <| H
        refine sR <| nM (e 0) rfl <| nP R_nil H fun _ H => nP (R_fld TF_285_3) H fun _ H => nL T1_3 H fun _ H => nP R_eqI H fun _ H => vl_e ?_
        refine cI H (fun H => ?_) fun H => ?_
        · refine W_region (by kernel_rfl) <| nM (e 0) rfl <| nP R_nil H fun _ H => nP (R_fld TF_285_2) H fun _ H => vl_n <| H_store1 TS_281 H fun h H => vl_e ?_
          exact ⟨H, hq1⟩
        · refine WPc_skip ?_
          exact ⟨H, hq1⟩
      refine WPc_seq' <| W_drawn [0, 1, 3, 7, 15, 0, 32, 96, 224, 511] (.take 0 (.take 1 (.take 2 (.take 3 (.take 4 (.take 5 (.take 6 (.take 7 (.take 8 (.take 9 .done)))))))))) mixed (by kernel_rfl) <| pM (e1 10) rfl rfl <| pP rfl R_nil H fun _ H => pP rfl (R_fld TF_292_2) H fun _ H => pL rfl T1_289 H fun _ _ _ H => pP rfl (R_len Try.underlying289) H fun _ H => pM (e1 0) rfl rfl <| pP rfl R_nil H fun _ H => pP rfl (R_fld TF_285_5) H fun _ H => pL rfl T1_3 H fun _ _ _ H => pP rfl R_eqI H fun _ H => vp_done ?_
      refine cI H (fun H => ?_) fun H => ?_
      · refine sR <| nM (e1 8) rfl <| nM (e1 1) rfl <| nP (R_cvI Try.underlying3 Try.underlying5) H fun _ H => vl_n <| H_mkSl TZ_41 (by decide) rfl H rfl fun _ h H => vl_n <| H_app TZ_41 TU_41 H fun t78 h H => nS t78 rfl <| vl_e ?_
        refine WPc_exit ?_
        exact H
      · refine WPc_skip ?_
        exact ⟨H, rfl⟩
    · refine WPc_skip ?_
      exact ⟨H, rfl⟩
  refine sR <| nM a0 rfl <| nP R_nil H fun _ H => nP (R_fld TF_285_2) H fun _ H => nL T1_281 H fun _ H => nP (R_eqNilP Try.underlying281 rfl) H fun t19 H => nM t19 rfl ?_
  obtain ⟨b, hb, H1, H2⟩ := H
  cases b
  · have H := H1 rfl
    clear H1 H2
    refine vl_y rfl hb ?_
    refine H_of_R (R_move (v := a1) rfl ?_)
    refine vl_y rfl hb ?_
    refine H_of_R (R_lss H fun t22 H => ?_)
    refine nA (R_pickC (v := t22) false hb rfl) <| nM t22 rfl ?_
    obtain ⟨b_2, hb_2, H1, H2⟩ := H
    cases b_2
    · have H := H1 rfl
      clear H1 H2
      refine vl_y rfl hb_2 ?_
      refine H_of_R (R_move (v := a1) rfl ?_)
      refine vl_y rfl hb_2 ?_
      refine H_of_R (R_move (v := a0) rfl ?_)
      refine vl_y rfl hb_2 ?_
      refine H_of_R (R_nil H fun _ H => ?_)
      refine vl_y rfl hb_2 ?_
      refine H_of_R (R_fld TF_285_3 H fun _ H => ?_)
      refine vl_y rfl hb_2 ?_
      refine H_of_R (R_load1 T1_3 H fun _ _ _ _ H => ?_)
      refine vl_y rfl hb_2 ?_
      refine H_of_R (R_geq H fun t30 H => ?_)
      refine nA (R_pickC (v := t30) false hb_2 rfl) <| vl_e ?_
      refine cI H (fun H => ?_) fun H => ?_
      · refine WPc_seq' <| W_drawn [0, 1, 3, 7, 15, 0, 32, 96, 224, 480, 31, 2047, 4095] (.take 0 (.take 1 (.take 2 (.take 3 (.take 4 (.take 5 (.take 6 (.take 7 (.take 8 (.take 9 (.take 10 (.take 11 (.take 12 .done))))))))))))) mixed (by kernel_rfl) <| pM a0 rfl rfl <| pP rfl R_nil H fun _ H => pP rfl (R_fld TF_285_4) H fun _ H => pP rfl (R_fld TF_283_1) H fun _ H => pL rfl T1_9 H fun _ t36 _ H => pM a0 rfl rfl <| pP rfl R_nil H fun _ H => pP rfl (R_fld TF_285_4) H fun _ H => pP rfl (R_fld TF_283_0) H fun _ H => pL rfl T1_3 H fun _ t41 _ H => pS t36 rfl rfl <| pS t41 rfl rfl ?_
        exact pS (.bool false) rfl rfl <| vp_done <| WPc_ret <| resH_of rfl <| H
      · exact WPc_skip <| H
    · have H := H2 rfl
      clear H1 H2
      refine vl_s rfl (nbF hb_2) ?_
      refine vl_s rfl (nbF hb_2) ?_
      refine vl_s rfl (nbF hb_2) ?_
      refine vl_s rfl (nbF hb_2) ?_
      refine vl_s rfl (nbF hb_2) ?_
      refine vl_s rfl (nbF hb_2) ?_
      refine nA (R_pickC (v := (.bool true)) true hb_2 rfl) <| vl_e ?_
      refine WPc_cond (t := true) rfl (fun _ => ?_) (fun hh => by cases hh)
      refine WPc_seq' <| W_drawn [0, 1, 3, 7, 15, 0, 32, 96, 224, 480, 31, 2047, 4095] (.take 0 (.take 1 (.take 2 (.take 3 (.take 4 (.take 5 (.take 6 (.take 7 (.take 8 (.take 9 (.take 10 (.take 11 (.take 12 .done))))))))))))) mixed (by kernel_rfl) <| pM a0 rfl rfl <| pP rfl R_nil H fun _ H => pP rfl (R_fld TF_285_4) H fun _ H => pP rfl (R_fld TF_283_1) H fun _ H => pL rfl T1_9 H fun _ t36_2 _ H => pM a0 rfl rfl <| pP rfl R_nil H fun _ H => pP rfl (R_fld TF_285_4) H fun _ H => pP rfl (R_fld TF_283_0) H fun _ H => pL rfl T1_3 H fun _ t41_2 _ H => pS t36_2 rfl rfl <| pS t41_2 rfl rfl ?_
      exact pS (.bool false) rfl rfl <| vp_done <| WPc_ret <| resH_of rfl <| H
  · have H := H2 rfl
    clear H1 H2
    refine vl_s rfl (nbF hb) ?_
    refine vl_s rfl (nbF hb) ?_
    refine nA (R_pickC (v := (.bool true)) true hb rfl) <| nM (.bool true) rfl ?_
    refine vl_s rfl (nbF rfl) ?_
    refine vl_s rfl (nbF rfl) ?_
    refine vl_s rfl (nbF rfl) ?_
    refine vl_s rfl (nbF rfl) ?_
    refine vl_s rfl (nbF rfl) ?_
    refine vl_s rfl (nbF rfl) ?_
    refine nA (R_pickC (v := (.bool true)) true rfl rfl) <| vl_e ?_
    refine WPc_cond (t := true) rfl (fun _ => ?_) (fun hh => by cases hh)
    refine WPc_seq' <| W_drawn [0, 1, 3, 7, 15, 0, 32, 96, 224, 480, 31, 2047, 4095] (.take 0 (.take 1 (.take 2 (.take 3 (.take 4 (.take 5 (.take 6 (.take 7 (.take 8 (.take 9 (.take 10 (.take 11 (.take 12 .done))))))))))))) mixed (by kernel_rfl) <| pM a0 rfl rfl <| pP rfl R_nil H fun _ H => pP rfl (R_fld TF_285_4) H fun _ H => pP rfl (R_fld TF_283_1) H fun _ H => pL rfl T1_9 H fun _ t36_3 _ H => pM a0 rfl rfl <| pP rfl R_nil H fun _ H => pP rfl (R_fld TF_285_4) H fun _ H => pP rfl (R_fld TF_283_0) H fun _ H => pL rfl T1_3 H fun _ t41_3 _ H => pS t36_3 rfl rfl <| pS t41_3 rfl rfl ?_
    exact pS (.bool false) rfl rfl <| vp_done <| WPc_ret <| resH_of rfl <| H
/-! ### impl.allWords -/
def i_allWords.sh (a0 : Value) (h : Heap) (Q : Value → Heap → Prop) : Prop := alloc [(.slice none 0 0)] 82 h fun b h=>i_words.call #[b, (.int .i64 0)] h fun d h=>Map_si_Scan.call #[a0, d] h fun g h=>load1 b h fun i=>Q i h
theorem i_allWords.body (a0 : Value) (h : Heap) (Q : Value → Heap → Prop) (H : i_allWords.sh a0 h Q) : i_allWords.call #[a0] h Q := by
  refine callsH_of (args := [a0]) Try.func108 rfl rfl ?_
  unfold i_allWords.sh at H
  refine sR <| nS (.slice none 0 0) rfl <| vl_e <| sR <| vl_n <| H_alloc TV_82 H fun _ h H => vl_e <| sR <| nM a0 rfl <| vl_n <| H_call HB_104 H fun _ h H => vl_n <| H_call HB_103 H fun _ h H => vl_e <| sR <| nL T1_82 H fun t7 H => nS t7 rfl ?_
  exact vl_e <| WPc_ret <| resH_of rfl <| H
/-! ### impl.WDeleteAt -/
def i_WDeleteAt.j1 (s9 s10 s11 : Value) (h : Heap) (Q : Value → Heap → Prop) : Prop := i_allWords.call #[s9] h fun b h=>Q (.tuple #[s10, s11, b]) h
def i_WDeleteAt.j4 (s9 s10 s11 s19 s20 s21 : Value) (h : Heap) (K1 : List Value → Heap → Prop) (Q : Value → Heap → Prop) : Prop := arith (· + ·) s21 (.int .i64 1) fun b=>K1 [s10, s11, b] h
def i_WDeleteAt.j3 (s9 s10 s11 s19 s20 s21 : Value) (h : Heap) (K1 : List Value → Heap → Prop) (Q : Value → Heap → Prop) : Prop := idx 1 s19 s21 fun b=>load1 b h fun d=>Map_si_DeleteAt.call #[s9, d] h fun g h=>extr 0 g fun i=>extr 1 g fun j=>extr 2 g fun k=>i_wordOf.call #[i, j, k] h fun l h=>extr 0 l fun m=>extr 1 l fun n=>alloc [(.string ⟨#[]⟩), (.int .i64 0)] 90 h fun o h=>storeN 2 o m h fun h=>loadN 2 o h fun p=>mkSl (if 1 * 2 = 0 then [] else zeros [(.string ⟨#[]⟩), (.int .i64 0)] 1) 1 [(0 * 2, 2, p)] 90 h fun q h=>app 90 2 24 [(.string ⟨#[]⟩), (.int .i64 0)] s10 q h fun u h=>mkSl (if 1 * 1 = 0 then [] else zeros [(.bool false)] 1) 1 [(0 * 1, 1, n)] 4 h fun v h=>app 4 1 1 [(.bool false)] s11 v h fun w h=>i_WDeleteAt.j4 s9 u w s19 s20 s21 h K1 Q
def i_WDeleteAt.l2.b (c9 c19 c20 s10 s11 s21 : Value) (h : Heap) (K1 : List Value → Heap → Prop) (Q : Value → Heap → Prop) : Prop := cmpI (fun a b=>decide (a < b)) s21 c20 fun b=>ifV b (i_WDeleteAt.j3 c9 s10 s11 c19 c20 s21 h K1 Q) (i_WDeleteAt.j1 c9 s10 s11 h Q)
def i_WDeleteAt.sh (a0 a1 a2 : Value) (h : Heap) (Q : Value → Heap → Prop) : Prop := i_growWords.call #[a0, a1] h fun b h=>lenV a2 fun d=>loopC (fun c s h K1=>i_WDeleteAt.l2.b (c.getD 0 undef) (c.getD 1 undef) (c.getD 2 undef) (s.getD 0 undef) (s.getD 1 undef) (s.getD 2 undef) h K1 Q) [b, a2, d] [(.slice none 0 0), (.slice none 0 0), (.int .i64 0)] h
theorem i_WDeleteAt.body (a0 a1 a2 : Value) (h : Heap) (Q : Value → Heap → Prop) (H : i_WDeleteAt.sh a0 a1 a2 h Q) : i_WDeleteAt.call #[a0, a1, a2] h Q := by
  refine callsH_of (args := [a0, a1, a2]) Try.func44 rfl rfl ?_
  unfold i_WDeleteAt.sh at H
  refine sR <| nS (.slice none 0 0) rfl <| nS (.slice none 0 0) rfl <| nS (.slice none 0 0) rfl <| vl_e <| sR <| nM a0 rfl <| nM a1 rfl <| vl_n <| H_call HB_102 H fun t18 h H => nS t18 rfl <| vl_e <| sR <| nS (.slice none 0 0) rfl <| vl_e ?_
  refine sR <| nS (.slice none 0 0) rfl <| vl_e ?_
  refine WPc_seq (fun e h => i_WDeleteAt.j1 (e 9) (e 10) (e 11) h Q) ?_ (fun e h H => ?_)
  rotate_left
  · unfold i_WDeleteAt.j1 at H
    exact sR <| nM (e 10) rfl <| nM (e 11) rfl <| nM (e 9) rfl <| vl_n <| H_call HB_108 H fun t47 h H => nS (e 10) rfl <| nS (e 11) rfl <| nS t47 rfl <| vl_e <| WPc_ret <| resH_of rfl <| H
  refine sR <| nM a2 rfl <| nP (R_len Try.underlying37) H fun _ H => nM (.int .i64 0) rfl <| vl_e <| WPc_block ?_
  refine loop_at (fun e => [e 10, e 11, e 21]) (fun e => [e 9, e 19, e 20]) H rfl rfl ?_
  intro K1 e1 h H hin1
  replace H : i_WDeleteAt.l2.b (e1 9) (e1 19) (e1 20) (e1 10) (e1 11) (e1 21) h K1 Q := H
  unfold i_WDeleteAt.l2.b at H
  clear hin1
  refine sR <| nP R_lss H fun _ H => vl_e ?_
  refine WPc_seq (fun e h => i_WDeleteAt.j3 (e 9) (e 10) (e 11) (e 19) (e 20) (e 21) h K1 Q ∧ [e1 9, e1 19, e1 20] = [e 9, e 19, e 20]) ?_ (fun e h ⟨H, hq1⟩ => ?_)
  rotate_left
  · unfold i_WDeleteAt.j3 at H
    refine WPc_seq (fun e h => i_WDeleteAt.j4 (e 9) (e 10) (e 11) (e 19) (e 20) (e 21) h K1 Q ∧ [e1 9, e1 19, e1 20] = [e 9, e 19, e 20]) ?_ (fun e h ⟨H, hq1⟩ => ?_)
    rotate_left
    · unfold i_WDeleteAt.j4 at H
      refine W_region (by kernel_rfl) <| nP R_add H fun t43 H => nM t43 rfl <| vl_e ?_
      exact ⟨H, hq1⟩
    refine WPc_block <| sR <| nP (R_idx TE_37) H fun _ H => nL T1_3 H fun t24 H => nS t24 rfl <| vl_e <| sR <| nM (e 9) rfl <| nM t24 rfl <| vl_n <| H_call HB_107 H fun _ h H => nP R_ext H fun _ H => nP R_ext H fun _ H => nP R_ext H fun _ H => vl_n <| H_call HB_106 H fun t32 h H => ?_
    refine nM t32 rfl <| nP R_ext H fun _ H => nP R_ext H fun t34 H => vl_n <| H_alloc TV_90 H fun _ h H => vl_n <| H_storeN TS_90 H fun h H => nS t34 rfl <| vl_e <| W_region (by kernel_rfl) <| nM (e 10) rfl <| nLN TN_90 H fun _ H => vl_n <| H_mkSl TZ_82 (by decide) rfl H rfl fun _ h H => vl_n <| H_app TZ_82 TU_82 H fun t38 h H => nM (e 11) rfl <| nM t34 rfl ?_
    refine vl_n <| H_mkSl TZ_49 (by decide) rfl H rfl fun _ h H => vl_n <| H_app TZ_49 TU_49 H fun t42 h H => nS t38 rfl <| nS t42 rfl <| vl_e ?_
    exact ⟨H, hq1⟩
  refine cI H (fun H => ?_) fun H => ?_
  · refine WPc_skip ?_
    exact ⟨H, rfl⟩
  · refine WPc_exit ?_
    exact H

end Go.Proofs.Ytkkappjbcgnacaa
end
section
namespace Go.Proofs.Ytkkappjbcgnacaa
open Go.Hp
set_option maxRecDepth 100000
set_option maxHeartbeats 8000000
set_option linter.unusedVariables false
set_option linter.unusedSimpArgs false

/-! ### laws.FnWPlaces -/
def l_FnWPlaces.j5 (h : Heap) (Q : Value → Heap → Prop) : Prop := l_aliveW.call #[] h fun b h=>Q b h
def l_FnWPlaces.j8 (s9 s10 s11 s12 s108 s109 s110 : Value) (h : Heap) (K1 : List Value → Heap → Prop) (Q : Value → Heap → Prop) : Prop := arith (· + ·) s110 (.int .i64 1) fun b=>K1 [b] h
def l_FnWPlaces.j7 (s9 s10 s11 s12 s108 s109 s110 : Value) (h : Heap) (K1 : List Value → Heap → Prop) (Q : Value → Heap → Prop) : Prop := idx 2 s108 s110 fun b=>loadN 2 b h fun d=>alloc [(.string ⟨#[]⟩), (.int .i64 0)] 90 h fun g h=>storeN 2 g d h fun h=>arith (· + ·) s110 (.int .i64 1) fun i=>idx 1 s10 i fun j=>load1 j h fun k=>notV k fun l=>br l false (arith (· + ·) s110 (.int .i64 1) fun m=>idx 2 s9 m fun n=>loadN 2 n h fun o=>loadN 2 g h fun p=>neR (EqV Try.prog 10000 90) o p fun q=>br q false (idx 1 s12 s110 fun u=>load1 u h fun v=>notV v fun w=>br w false (idx 2 s11 s110 fun x=>loadN 2 x h fun y=>loadN 2 g h fun z=>neR (EqV Try.prog 10000 90) y z fun b0=>ifV b0 (Q (.bool false) h) (l_FnWPlaces.j8 s9 s10 s11 s12 s108 s109 s110 h K1 Q)) (Q (.bool false) h)) (Q (.bool false) h)) (Q (.bool false) h)
def l_FnWPlaces.l6.b (c9 c10 c11 c12 c108 c109 s110 : Value) (h : Heap) (K1 : List Value → Heap → Prop) (Q : Value → Heap → Prop) : Prop := cmpI (fun a b=>decide (a < b)) s110 c109 fun b=>ifV b (l_FnWPlaces.j7 c9 c10 c11 c12 c108 c109 s110 h K1 Q) (l_FnWPlaces.j5 h Q)
def l_FnWPlaces.j4 (s5 s9 s10 s11 s12 : Value) (h : Heap) (Q : Value → Heap → Prop) : Prop := lenV s5 fun b=>loopC (fun c s h K1=>l_FnWPlaces.l6.b (c.getD 0 undef) (c.getD 1 undef) (c.getD 2 undef) (c.getD 3 undef) (c.getD 4 undef) (c.getD 5 undef) (s.getD 0 undef) h K1 Q) [s9, s10, s11, s12, s5, b] [(.int .i64 0)] h
def l_FnWPlaces.j3 (s0 s1 s5 s6 s7 : Value) (h : Heap) (Q : Value → Heap → Prop) : Prop := i_WGetAt.call #[s0, s1, s6] h fun b h=>extr 0 b fun d=>extr 1 b fun g=>i_WDeleteAt.call #[s0, s1, s7] h fun i h=>extr 0 i fun j=>extr 1 i fun k=>extr 2 i fun l=>lenV d fun m=>lenV s6 fun n=>cmpI (fun a b=>a != b) m n fun o=>br o false (lenV g fun p=>lenV s6 fun q=>cmpI (fun a b=>a != b) p q fun u=>br u false (lenV j fun v=>lenV s7 fun w=>cmpI (fun a b=>a != b) v w fun x=>br x false (lenV k fun y=>lenV s7 fun z=>cmpI (fun a b=>a != b) y z fun b0=>br b0 false (idx 1 g (.int .i64 0) fun b1=>load1 b1 h fun b2=>br b2 false (lenV s5 fun b3=>arith (· + ·) b3 (.int .i64 1) fun b4=>idx 1 g b4 fun b5=>load1 b5 h fun b6=>br b6 false (lenV s5 fun b7=>idx 1 k b7 fun b8=>load1 b8 h fun b9=>br b9 false (lenV l fun d0=>cmpI (fun a b=>a != b) d0 (.int .i64 0) fun d1=>ifV d1 (Q (.bool false) h) (l_FnWPlaces.j4 s5 d g j k h Q)) (Q (.bool false) h)) (Q (.bool false) h)) (Q (.bool false) h)) (Q (.bool false) h)) (Q (.bool false) h)) (Q (.bool false) h)) (Q (.bool false) h)
def l_FnWPlaces.j11 (s0 s1 s5 s6 s7 s30 s31 : Value) (h : Heap) (K1 : List Value → Heap → Prop) (Q : Value → Heap → Prop) : Prop := arith (· + ·) s31 (.int .i64 1) fun b=>K1 [s6, s7, b] h
def l_FnWPlaces.j10 (s0 s1 s5 s6 s7 s30 s31 : Value) (h : Heap) (K1 : List Value → Heap → Prop) (Q : Value → Heap → Prop) : Prop := mkSl (if 1 * 1 = 0 then [] else zeros [(.int .i64 0)] 1) 1 [(0 * 1, 1, s31)] 3 h fun b h=>app 3 1 8 [(.int .i64 0)] s6 b h fun d h=>mkSl (if 1 * 1 = 0 then [] else zeros [(.int .i64 0)] 1) 1 [(0 * 1, 1, (.int .i64 0))] 3 h fun g h=>app 3 1 8 [(.int .i64 0)] s7 g h fun i h=>l_FnWPlaces.j11 s0 s1 s5 d i s30 s31 h K1 Q
def l_FnWPlaces.l9.b (c0 c1 c5 c30 s6 s7 s31 : Value) (h : Heap) (K1 : List Value → Heap → Prop) (Q : Value → Heap → Prop) : Prop := cmpI (fun a b=>decide (a < b)) s31 c30 fun b=>ifV b (l_FnWPlaces.j10 c0 c1 c5 s6 s7 c30 s31 h K1 Q) (l_FnWPlaces.j3 c0 c1 c5 s6 s7 h Q)
def l_FnWPlaces.j2 (s0 s1 : Value) (h : Heap) (Q : Value → Heap → Prop) : Prop := i_WScan.call #[s0, s1, (.int .i64 0)] h fun b h=>mkSl (if 1 * 1 = 0 then [] else zeros [(.int .i64 0)] 1) 1 [(0 * 1, 1, (.int .i64 (-1)))] 3 h fun d h=>mkSl (if 0 * 1 = 0 then [] else zeros [(.int .i64 0)] 0) 0 [] 3 h fun g h=>lenV b fun i=>arith (· + ·) i (.int .i64 1) fun j=>loopC (fun c s h K1=>l_FnWPlaces.l9.b (c.getD 0 undef) (c.getD 1 undef) (c.getD 2 undef) (c.getD 3 undef) (s.getD 0 undef) (s.getD 1 undef) (s.getD 2 undef) h K1 Q) [s0, s1, b, j] [d, g, (.int .i64 0)] h
def l_FnWPlaces.j1 (s0 s1 : Value) (h : Heap) (Q : Value → Heap → Prop) : Prop := l_fit.call #[s0] h fun b h=>notV b fun d=>ifV d (l_aliveW.call #[] h fun g h=>Q g h) (l_FnWPlaces.j2 s0 s1 h Q)
def l_FnWPlaces.sh (a0 a1 : Value) (h : Heap) (Q : Value → Heap → Prop) : Prop := l_zzFits8.call #[a1] h fun b h=>notV b fun d=>ifV d (Q (.bool true) h) (l_FnWPlaces.j1 a0 a1 h Q)
theorem l_FnWPlaces.body (a0 a1 : Value) (h : Heap) (Q : Value → Heap → Prop) (H : l_FnWPlaces.sh a0 a1 h Q) : l_FnWPlaces.call #[a0, a1] h Q := by
  refine callsH_of (args := [a0, a1]) Try.func8 rfl rfl ?_
  unfold l_FnWPlaces.sh at H
  refine sR <| nS (.bool false) rfl <| vl_e ?_
  refine WPc_seq (fun e h => l_FnWPlaces.j1 (e 0) (e 1) h Q) ?_ (fun e h H => ?_)
  rotate_left
  · unfold l_FnWPlaces.j1 at H
    refine WPc_seq (fun e h => l_FnWPlaces.j2 (e 0) (e 1) h Q) ?_ (fun e h H => ?_)
    rotate_left
    · unfold l_FnWPlaces.j2 at H
      refine sR <| nM (e 0) rfl <| nM (e 1) rfl <| vl_n <| H_call HB_42 H fun t25 h H => nS t25 rfl <| vl_e <| sR <| vl_n <| H_mkSl TZ_37 (by decide) rfl H rfl fun t26 h H => vl_n <| H_mkSl TZ_37 (by decide) rfl H rfl fun t27 h H => nS t26 rfl <| nS t27 rfl <| vl_e ?_
      refine WPc_seq (fun e h => l_FnWPlaces.j3 (e 0) (e 1) (e 5) (e 6) (e 7) h Q) ?_ (fun e h H => ?_)
      rotate_left
      · unfold l_FnWPlaces.j3 at H
        refine sR <| nM (e 0) rfl <| nM (e 1) rfl <| nM (e 6) rfl <| vl_n <| H_call HB_43 H fun t46 h H => nM t46 rfl <| nP R_ext H fun t47 H => nP R_ext H fun t48 H => nS t47 rfl <| nS t48 rfl <| vl_e <| sR <| nM (e 0) rfl <| nM (e 1) rfl ?_
        refine nM (e 7) rfl <| vl_n <| H_call HB_44 H fun t53 h H => nM t53 rfl <| nP R_ext H fun t54 H => nP R_ext H fun t55 H => nP R_ext H fun t56 H => nS t54 rfl <| nS t55 rfl <| nS t56 rfl <| vl_e ?_
        refine WPc_seq (fun e h => l_FnWPlaces.j4 (e 5) (e 9) (e 10) (e 11) (e 12) h Q) ?_ (fun e h H => ?_)
        rotate_left
        · unfold l_FnWPlaces.j4 at H
          refine WPc_seq (fun e h => l_FnWPlaces.j5 h Q) ?_ (fun e h H => ?_)
          rotate_left
          · unfold l_FnWPlaces.j5 at H
            exact sR <| vl_n <| H_call HB_41 H fun t146 h H => nS t146 rfl <| vl_e <| WPc_ret <| resH_of rfl <| H
          refine sR <| nM (e 5) rfl <| nP (R_len Try.underlying82) H fun _ H => nM (.int .i64 0) rfl <| vl_e <| WPc_block ?_
          refine loop_at (fun e => [e 110]) (fun e => [e 9, e 10, e 11, e 12, e 108, e 109]) H rfl rfl ?_
          intro K1 e1 h H hin1
          replace H : l_FnWPlaces.l6.b (e1 9) (e1 10) (e1 11) (e1 12) (e1 108) (e1 109) (e1 110) h K1 Q := H
          unfold l_FnWPlaces.l6.b at H
          clear hin1
          refine sR <| nP R_lss H fun _ H => vl_e ?_
          refine WPc_seq (fun e h => l_FnWPlaces.j7 (e 9) (e 10) (e 11) (e 12) (e 108) (e 109) (e 110) h K1 Q ∧ [e1 9, e1 10, e1 11, e1 12, e1 108, e1 109] = [e 9, e 10, e 11, e 12, e 108, e 109]) ?_ (fun e h ⟨H, hq1⟩ => ?_)
          rotate_left
          · unfold l_FnWPlaces.j7 at H
            refine WPc_seq (fun e h => l_FnWPlaces.j8 (e 9) (e 10) (e 11) (e 12) (e 108) (e 109) (e 110) h K1 Q ∧ [e1 9, e1 10, e1 11, e1 12, e1 108, e1 109] = [e 9, e 10, e 11, e 12, e 108, e 109]) ?_ (fun e h ⟨H, hq1⟩ => ?_)
            rotate_left
            · unfold l_FnWPlaces.j8 at H
              refine W_region (by kernel_rfl) <| nP R_add H fun t145 H => nM t145 rfl <| vl_e ?_
              exact ⟨H, hq1⟩
            refine WPc_block <| sR <| nM (e 110) rfl <| nP (R_idx TE_82) H fun _ H => nLN TN_90 H fun _ H => vl_n <| H_alloc TV_90 H fun _ h H => nS (e 110) rfl <| vl_n <| H_storeN TS_90 H fun h H => vl_e <| WPc_seq' <| W_drawn [0, 0, 2, 7, 15, 31, 63, 127, 127, 383, 1023, 2047, 127, 8191, 16383, 32767, 65535, 65535, 262143, 524287, 1048575, 2097151, 4194303, 8388607, 8388607, 33554431, 67108863, 8388607, 268435455, 536870911] (.take 0 (.take 1 (.take 2 (.take 3 (.take 4 (.take 5 (.take 6 (.take 7 (.take 8 (.take 9 (.take 10 (.take 11 (.take 12 (.take 13 (.take 14 (.take 15 (.take 16 (.take 17 (.take 18 (.take 19 (.take 20 (.take 21 (.take 22 (.take 23 (.take 24 (.take 25 (.take 26 (.take 27 (.take 28 (.take 29 .done)))))))))))))))))))))))))))))) mixed (by kernel_rfl) <| pM (e 10) rfl rfl <| pM (e 110) rfl rfl <| pP rfl R_add H fun _ H => ?_
            refine pP rfl (R_idx TE_49) H fun _ H => pL rfl T1_4 H fun _ _ _ H => pP rfl R_not H fun t120 H => pM t120 rfl rfl ?_
            obtain ⟨b, hb, H1, H2⟩ := H
            cases b
            · have H := H1 rfl
              clear H1 H2
              refine tkPy rfl rfl hb ?_
              refine R_move (v := (e 9)) rfl ⟨fun _ => trivial, ?_⟩
              refine tkPy rfl rfl hb ?_
              refine R_move (v := (e 110)) rfl ⟨fun _ => trivial, ?_⟩
              refine tkPy rfl rfl hb ?_
              refine R_add H fun _ H => ⟨fun _ => trivial, ?_⟩
              refine tkPy rfl rfl hb ?_
              refine R_idx TE_82 H fun _ H => ⟨fun _ => trivial, ?_⟩
              refine tkLy rfl rfl hb ?_
              refine R_loadN TN_90 H fun _ _ _ _ H _ _ => ?_
              refine tkLy rfl rfl hb ?_
              refine R_loadN TN_90 H fun _ _ _ _ H _ _ => ?_
              refine tkPy rfl rfl hb ?_
              refine R_neA (by kernel_rfl) H fun t128 H => ⟨fun _ => trivial, ?_⟩
              refine pA rfl (R_pickC (v := t128) false hb rfl) <| pM t128 rfl rfl ?_
              obtain ⟨b_2, hb_2, H1, H2⟩ := H
              cases b_2
              · have H := H1 rfl
                clear H1 H2
                refine tkPy rfl rfl hb_2 ?_
                refine R_move (v := (e 12)) rfl ⟨fun _ => trivial, ?_⟩
                refine tkPy rfl rfl hb_2 ?_
                refine R_move (v := (e 110)) rfl ⟨fun _ => trivial, ?_⟩
                refine tkPy rfl rfl hb_2 ?_
                refine R_idx TE_49 H fun _ H => ⟨fun _ => trivial, ?_⟩
                refine tkLy rfl rfl hb_2 ?_
                refine R_load1 T1_4 H fun _ _ _ _ H => ?_
                refine tkPy rfl rfl hb_2 ?_
                refine R_not H fun t135 H => ⟨fun _ => trivial, ?_⟩
                refine pA rfl (R_pickC (v := t135) false hb_2 rfl) <| pM t135 rfl rfl ?_
                obtain ⟨b_3, hb_3, H1, H2⟩ := H
                cases b_3
                · have H := H1 rfl
                  clear H1 H2
                  refine tkPy rfl rfl hb_3 ?_
                  refine R_move (v := (e 11)) rfl ⟨fun _ => trivial, ?_⟩
                  refine tkPy rfl rfl hb_3 ?_
                  refine R_move (v := (e 110)) rfl ⟨fun _ => trivial, ?_⟩
                  refine tkPy rfl rfl hb_3 ?_
                  refine R_idx TE_82 H fun _ H => ⟨fun _ => trivial, ?_⟩
                  refine tkLy rfl rfl hb_3 ?_
                  refine R_loadN TN_90 H fun _ _ _ _ H _ _ => ?_
                  refine tkLy rfl rfl hb_3 ?_
                  refine R_loadN TN_90 H fun _ _ _ _ H _ _ => ?_
                  refine tkPy rfl rfl hb_3 ?_
                  refine R_neA (by kernel_rfl) H fun t143 H => ⟨fun _ => trivial, ?_⟩
                  refine pA rfl (R_pickC (v := t143) false hb_3 rfl) <| vp_done ?_
                  refine cI H (fun H => ?_) fun H => ?_
                  · exact sR <| nS (.bool false) rfl <| vl_e <| WPc_ret <| resH_of rfl <| H
                  · refine WPc_skip ?_
                    exact ⟨H, hq1⟩
                · have H := H2 rfl
                  clear H1 H2
                  refine tk_s rfl rfl (nbF hb_3) ?_
                  refine tk_s rfl rfl (nbF hb_3) ?_
                  refine tk_s rfl rfl (nbF hb_3) ?_
                  refine tk_s rfl rfl (nbF hb_3) ?_
                  refine tk_s rfl rfl (nbF hb_3) ?_
                  refine tk_s rfl rfl (nbF hb_3) ?_
                  refine pA rfl (R_pickC (v := (.bool true)) true hb_3 rfl) <| vp_done ?_
                  refine WPc_cond (t := true) rfl (fun _ => ?_) (fun hh => by cases hh)
                  exact sR <| nS (.bool false) rfl <| vl_e <| WPc_ret <| resH_of rfl <| H
              · have H := H2 rfl
                clear H1 H2
                refine tk_s rfl rfl (nbF hb_2) ?_
                refine tk_s rfl rfl (nbF hb_2) ?_
                refine tk_s rfl rfl (nbF hb_2) ?_
                refine tk_s rfl rfl (nbF hb_2) ?_
                refine tk_s rfl rfl (nbF hb_2) ?_
                refine pA rfl (R_pickC (v := (.bool true)) true hb_2 rfl) <| pM (.bool true) rfl rfl ?_
                refine tk_s rfl rfl (nbF rfl) ?_
                refine tk_s rfl rfl (nbF rfl) ?_
                refine tk_s rfl rfl (nbF rfl) ?_
                refine tk_s rfl rfl (nbF rfl) ?_
                refine tk_s rfl rfl (nbF rfl) ?_
                refine tk_s rfl rfl (nbF rfl) ?_
                refine pA rfl (R_pickC (v := (.bool true)) true rfl rfl) <| vp_done ?_
                refine WPc_cond (t := true) rfl (fun _ => ?_) (fun hh => by cases hh)
                exact sR <| nS (.bool false) rfl <| vl_e <| WPc_ret <| resH_of rfl <| H
            · have H := H2 rfl
              clear H1 H2
              refine tk_s rfl rfl (nbF hb) ?_
              refine tk_s rfl rfl (nbF hb) ?_
              refine tk_s rfl rfl (nbF hb) ?_
              refine tk_s rfl rfl (nbF hb) ?_
              refine tk_s rfl rfl (nbF hb) ?_
              refine tk_s rfl rfl (nbF hb) ?_
              refine tk_s rfl rfl (nbF hb) ?_
              refine pA rfl (R_pickC (v := (.bool true)) true hb rfl) <| pM (.bool true) rfl rfl ?_
              refine tk_s rfl rfl (nbF rfl) ?_
              refine tk_s rfl rfl (nbF rfl) ?_
              refine tk_s rfl rfl (nbF rfl) ?_
              refine tk_s rfl rfl (nbF rfl) ?_
              refine tk_s rfl rfl (nbF rfl) ?_
              refine pA rfl (R_pickC (v := (.bool true)) true rfl rfl) <| pM (.bool true) rfl rfl ?_
              refine tk_s rfl rfl (nbF rfl) ?_
              refine tk_s rfl rfl (nbF rfl) ?_
              refine tk_s rfl rfl (nbF rfl) ?_
              refine tk_s rfl rfl (nbF rfl) ?_
              refine tk_s rfl rfl (nbF rfl) ?_
              refine tk_s rfl rfl (nbF rfl) ?_
              refine pA rfl (R_pickC (v := (.bool true)) true rfl rfl) <| vp_done ?_
              refine WPc_cond (t := true) rfl (fun _ => ?_) (fun hh => by cases hh)
              exact sR <| nS (.bool false) rfl <| vl_e <| WPc_ret <| resH_of rfl <| H
          refine cI H (fun H => ?_) fun H => ?_
          · refine WPc_skip ?_
            exact ⟨H, rfl⟩
          · refine WPc_exit ?_
            exact H
        refine sR <| nM t47 rfl <| nP (R_len Try.underlying82) H fun _ H => nM (e 6) rfl <| nP (R_len Try.underlying37) H fun _ H => nP R_neI H fun t61 H => nM t61 rfl ?_
        obtain ⟨b, hb, H1, H2⟩ := H
        cases b
        · have H := H1 rfl
          clear H1 H2
          refine vl_y rfl hb ?_
          refine H_of_R (R_move (v := t48) rfl ?_)
          refine vl_y rfl hb ?_
          refine H_of_R (R_len Try.underlying49 H fun _ H => ?_)
          refine vl_y rfl hb ?_
          refine H_of_R (R_move (v := (e 6)) rfl ?_)
          refine vl_y rfl hb ?_
          refine H_of_R (R_len Try.underlying37 H fun _ H => ?_)
          refine vl_y rfl hb ?_
          refine H_of_R (R_neI H fun t67 H => ?_)
          refine nA (R_pickC (v := t67) false hb rfl) <| nM t67 rfl ?_
          obtain ⟨b_2, hb_2, H1, H2⟩ := H
          cases b_2
          · have H := H1 rfl
            clear H1 H2
            refine vl_y rfl hb_2 ?_
            refine H_of_R (R_move (v := t54) rfl ?_)
            refine vl_y rfl hb_2 ?_
            refine H_of_R (R_len Try.underlying82 H fun _ H => ?_)
            refine vl_y rfl hb_2 ?_
            refine H_of_R (R_move (v := (e 7)) rfl ?_)
            refine vl_y rfl hb_2 ?_
            refine H_of_R (R_len Try.underlying37 H fun _ H => ?_)
            refine vl_y rfl hb_2 ?_
            refine H_of_R (R_neI H fun t74 H => ?_)
            refine nA (R_pickC (v := t74) false hb_2 rfl) <| nM t74 rfl ?_
            obtain ⟨b_3, hb_3, H1, H2⟩ := H
            cases b_3
            · have H := H1 rfl
              clear H1 H2
              refine vl_y rfl hb_3 ?_
              refine H_of_R (R_move (v := t55) rfl ?_)
              refine vl_y rfl hb_3 ?_
              refine H_of_R (R_len Try.underlying49 H fun _ H => ?_)
              refine vl_y rfl hb_3 ?_
              refine H_of_R (R_move (v := (e 7)) rfl ?_)
              refine vl_y rfl hb_3 ?_
              refine H_of_R (R_len Try.underlying37 H fun _ H => ?_)
              refine vl_y rfl hb_3 ?_
              refine H_of_R (R_neI H fun t81 H => ?_)
              refine nA (R_pickC (v := t81) false hb_3 rfl) <| nM t81 rfl ?_
              obtain ⟨b_4, hb_4, H1, H2⟩ := H
              cases b_4
              · have H := H1 rfl
                clear H1 H2
                refine vl_y rfl hb_4 ?_
                refine H_of_R (R_move (v := t48) rfl ?_)
                refine vl_y rfl hb_4 ?_
                refine H_of_R (R_idx TE_49 H fun _ H => ?_)
                refine vl_y rfl hb_4 ?_
                refine H_of_R (R_load1 T1_4 H fun _ t86 _ _ H => ?_)
                refine nA (R_pickC (v := t86) false hb_4 rfl) <| nM t86 rfl ?_
                obtain ⟨b_5, hb_5, H1, H2⟩ := H
                cases b_5
                · have H := H1 rfl
                  clear H1 H2
                  refine vl_y rfl hb_5 ?_
                  refine H_of_R (R_move (v := t48) rfl ?_)
                  refine vl_y rfl hb_5 ?_
                  refine H_of_R (R_move (v := (e 5)) rfl ?_)
                  refine vl_y rfl hb_5 ?_
                  refine H_of_R (R_len Try.underlying82 H fun _ H => ?_)
                  refine vl_y rfl hb_5 ?_
                  refine H_of_R (R_add H fun _ H => ?_)
                  refine vl_y rfl hb_5 ?_
                  refine H_of_R (R_idx TE_49 H fun _ H => ?_)
                  refine vl_y rfl hb_5 ?_
                  refine H_of_R (R_load1 T1_4 H fun _ t94 _ _ H => ?_)
                  refine nA (R_pickC (v := t94) false hb_5 rfl) <| nM t94 rfl ?_
                  obtain ⟨b_6, hb_6, H1, H2⟩ := H
                  cases b_6
                  · have H := H1 rfl
                    clear H1 H2
                    refine vl_y rfl hb_6 ?_
                    refine H_of_R (R_move (v := t55) rfl ?_)
                    refine vl_y rfl hb_6 ?_
                    refine H_of_R (R_move (v := (e 5)) rfl ?_)
                    refine vl_y rfl hb_6 ?_
                    refine H_of_R (R_len Try.underlying82 H fun _ H => ?_)
                    refine vl_y rfl hb_6 ?_
                    refine H_of_R (R_idx TE_49 H fun _ H => ?_)
                    refine vl_y rfl hb_6 ?_
                    refine H_of_R (R_load1 T1_4 H fun _ t101 _ _ H => ?_)
                    refine nA (R_pickC (v := t101) false hb_6 rfl) <| nM t101 rfl ?_
                    obtain ⟨b_7, hb_7, H1, H2⟩ := H
                    cases b_7
                    · have H := H1 rfl
                      clear H1 H2
                      refine vl_y rfl hb_7 ?_
                      refine H_of_R (R_move (v := t56) rfl ?_)
                      refine vl_y rfl hb_7 ?_
                      refine H_of_R (R_len Try.underlying82 H fun _ H => ?_)
                      refine vl_y rfl hb_7 ?_
                      refine H_of_R (R_neI H fun t106 H => ?_)
                      refine nA (R_pickC (v := t106) false hb_7 rfl) <| vl_e ?_
                      refine cI H (fun H => ?_) fun H => ?_
                      · exact sR <| nS (.bool false) rfl <| vl_e <| WPc_ret <| resH_of rfl <| H
                      · exact WPc_skip <| H
                    · have H := H2 rfl
                      clear H1 H2
                      refine vl_s rfl (nbF hb_7) ?_
                      refine vl_s rfl (nbF hb_7) ?_
                      refine vl_s rfl (nbF hb_7) ?_
                      refine nA (R_pickC (v := (.bool true)) true hb_7 rfl) <| vl_e ?_
                      refine WPc_cond (t := true) rfl (fun _ => ?_) (fun hh => by cases hh)
                      exact sR <| nS (.bool false) rfl <| vl_e <| WPc_ret <| resH_of rfl <| H
                  · have H := H2 rfl
                    clear H1 H2
                    refine vl_s rfl (nbF hb_6) ?_
                    refine vl_s rfl (nbF hb_6) ?_
                    refine vl_s rfl (nbF hb_6) ?_
                    refine vl_s rfl (nbF hb_6) ?_
                    refine vl_s rfl (nbF hb_6) ?_
                    refine nA (R_pickC (v := (.bool true)) true hb_6 rfl) <| nM (.bool true) rfl ?_
                    refine vl_s rfl (nbF rfl) ?_
                    refine vl_s rfl (nbF rfl) ?_
                    refine vl_s rfl (nbF rfl) ?_
                    refine nA (R_pickC (v := (.bool true)) true rfl rfl) <| vl_e ?_
                    refine WPc_cond (t := true) rfl (fun _ => ?_) (fun hh => by cases hh)
                    exact sR <| nS (.bool false) rfl <| vl_e <| WPc_ret <| resH_of rfl <| H
                · have H := H2 rfl
                  clear H1 H2
                  refine vl_s rfl (nbF hb_5) ?_
                  refine vl_s rfl (nbF hb_5) ?_
                  refine vl_s rfl (nbF hb_5) ?_
                  refine vl_s rfl (nbF hb_5) ?_
                  refine vl_s rfl (nbF hb_5) ?_
                  refine vl_s rfl (nbF hb_5) ?_
                  refine nA (R_pickC (v := (.bool true)) true hb_5 rfl) <| nM (.bool true) rfl ?_
                  refine vl_s rfl (nbF rfl) ?_
                  refine vl_s rfl (nbF rfl) ?_
                  refine vl_s rfl (nbF rfl) ?_
                  refine vl_s rfl (nbF rfl) ?_
                  refine vl_s rfl (nbF rfl) ?_
                  refine nA (R_pickC (v := (.bool true)) true rfl rfl) <| nM (.bool true) rfl ?_
                  refine vl_s rfl (nbF rfl) ?_
                  refine vl_s rfl (nbF rfl) ?_
                  refine vl_s rfl (nbF rfl) ?_
                  refine nA (R_pickC (v := (.bool true)) true rfl rfl) <| vl_e ?_
                  refine WPc_cond (t := true) rfl (fun _ => ?_) (fun hh => by cases hh)
                  exact sR <| nS (.bool false) rfl <| vl_e <| WPc_ret <| resH_of rfl <| H
              · have H := H2 rfl
                clear H1 H2
                refine vl_s rfl (nbF hb_4) ?_
                refine vl_s rfl (nbF hb_4) ?_
                refine vl_s rfl (nbF hb_4) ?_
                refine nA (R_pickC (v := (.bool true)) true hb_4 rfl) <| nM (.bool true) rfl ?_
                refine vl_s rfl (nbF rfl) ?_
                refine vl_s rfl (nbF rfl) ?_
                refine vl_s rfl (nbF rfl) ?_
                refine vl_s rfl (nbF rfl) ?_
                refine vl_s rfl (nbF rfl) ?_
                refine vl_s rfl (nbF rfl) ?_
                refine nA (R_pickC (v := (.bool true)) true rfl rfl) <| nM (.bool true) rfl ?_
                refine vl_s rfl (nbF rfl) ?_
                refine vl_s rfl (nbF rfl) ?_
                refine vl_s rfl (nbF rfl) ?_
                refine vl_s rfl (nbF rfl) ?_
                refine vl_s rfl (nbF rfl) ?_
                refine nA (R_pickC (v := (.bool true)) true rfl rfl) <| nM (.bool true) rfl ?_
                refine vl_s rfl (nbF rfl) ?_
                refine vl_s rfl (nbF rfl) ?_
                refine vl_s rfl (nbF rfl) ?_
                refine nA (R_pickC (v := (.bool true)) true rfl rfl) <| vl_e ?_
                refine WPc_cond (t := true) rfl (fun _ => ?_) (fun hh => by cases hh)
                exact sR <| nS (.bool false) rfl <| vl_e <| WPc_ret <| resH_of rfl <| H
            · have H := H2 rfl
              clear H1 H2
              refine vl_s rfl (nbF hb_3) ?_
              refine vl_s rfl (nbF hb_3) ?_
              refine vl_s rfl (nbF hb_3) ?_
              refine vl_s rfl (nbF hb_3) ?_
              refine vl_s rfl (nbF hb_3) ?_
              refine nA (R_pickC (v := (.bool true)) true hb_3 rfl) <| nM (.bool true) rfl ?_
              refine vl_s rfl (nbF rfl) ?_
              refine vl_s rfl (nbF rfl) ?_
              refine vl_s rfl (nbF rfl) ?_
              refine nA (R_pickC (v := (.bool true)) true rfl rfl) <| nM (.bool true) rfl ?_
              refine vl_s rfl (nbF rfl) ?_
              refine vl_s rfl (nbF rfl) ?_
              refine vl_s rfl (nbF rfl) ?_
              refine vl_s rfl (nbF rfl) ?_
              refine vl_s rfl (nbF rfl) ?_
              refine vl_s rfl (nbF rfl) ?_
              refine nA (R_pickC (v := (.bool true)) true rfl rfl) <| nM (.bool true) rfl ?_
              refine vl_s rfl (nbF rfl) ?_
              refine vl_s rfl (nbF rfl) ?_
              refine vl_s rfl (nbF rfl) ?_
              refine vl_s rfl (nbF rfl) ?_
              refine vl_s rfl (nbF rfl) ?_
              refine nA (R_pickC (v := (.bool true)) true rfl rfl) <| nM (.bool true) rfl ?_
              refine vl_s rfl (nbF rfl) ?_
              refine vl_s rfl (nbF rfl) ?_
              refine vl_s rfl (nbF rfl) ?_
              refine nA (R_pickC (v := (.bool true)) true rfl rfl) <| vl_e ?_
              refine WPc_cond (t := true) rfl (fun _ => ?_) (fun hh => by cases hh)
              exact sR <| nS (.bool false) rfl <| vl_e <| WPc_ret <| resH_of rfl <| H
          · have H := H2 rfl
            clear H1 H2
            refine vl_s rfl (nbF hb_2) ?_
            refine vl_s rfl (nbF hb_2) ?_
            refine vl_s rfl (nbF hb_2) ?_
            refine vl_s rfl (nbF hb_2) ?_
            refine vl_s rfl (nbF hb_2) ?_
            refine nA (R_pickC (v := (.bool true)) true hb_2 rfl) <| nM (.bool true) rfl ?_
            refine vl_s rfl (nbF rfl) ?_
            refine vl_s rfl (nbF rfl) ?_
            refine vl_s rfl (nbF rfl) ?_
            refine vl_s rfl (nbF rfl) ?_
            refine vl_s rfl (nbF rfl) ?_
            refine nA (R_pickC (v := (.bool true)) true rfl rfl) <| nM (.bool true) rfl ?_
            refine vl_s rfl (nbF rfl) ?_
            refine vl_s rfl (nbF rfl) ?_
            refine vl_s rfl (nbF rfl) ?_
            refine nA (R_pickC (v := (.bool true)) true rfl rfl) <| nM (.bool true) rfl ?_
            refine vl_s rfl (nbF rfl) ?_
            refine vl_s rfl (nbF rfl) ?_
            refine vl_s rfl (nbF rfl) ?_
            refine vl_s rfl (nbF rfl) ?_
            refine vl_s rfl (nbF rfl) ?_
            refine vl_s rfl (nbF rfl) ?_
            refine nA (R_pickC (v := (.bool true)) true rfl rfl) <| nM (.bool true) rfl ?_
            refine vl_s rfl (nbF rfl) ?_
            refine vl_s rfl (nbF rfl) ?_
            refine vl_s rfl (nbF rfl) ?_
            refine vl_s rfl (nbF rfl) ?_
            refine vl_s rfl (nbF rfl) ?_
            refine nA (R_pickC (v := (.bool true)) true rfl rfl) <| nM (.bool true) rfl ?_
            refine vl_s rfl (nbF rfl) ?_
            refine vl_s rfl (nbF rfl) ?_
            refine vl_s rfl (nbF rfl) ?_
            refine nA (R_pickC (v := (.bool true)) true rfl rfl) <| vl_e ?_
            refine WPc_cond (t := true) rfl (fun _ => ?_) (fun hh => by cases hh)
            exact sR <| nS (.bool false) rfl <| vl_e <| WPc_ret <| resH_of rfl <| H
        · have H := H2 rfl
          clear H1 H2
          refine vl_s rfl (nbF hb) ?_
          refine vl_s rfl (nbF hb) ?_
          refine vl_s rfl (nbF hb) ?_
          refine vl_s rfl (nbF hb) ?_
          refine vl_s rfl (nbF hb) ?_
          refine nA (R_pickC (v := (.bool true)) true hb rfl) <| nM (.bool true) rfl ?_
          refine vl_s rfl (nbF rfl) ?_
          refine vl_s rfl (nbF rfl) ?_
          refine vl_s rfl (nbF rfl) ?_
          refine vl_s rfl (nbF rfl) ?_
          refine vl_s rfl (nbF rfl) ?_
          refine nA (R_pickC (v := (.bool true)) true rfl rfl) <| nM (.bool true) rfl ?_
          refine vl_s rfl (nbF rfl) ?_
          refine vl_s rfl (nbF rfl) ?_
          refine vl_s rfl (nbF rfl) ?_
          refine vl_s rfl (nbF rfl) ?_
          refine vl_s rfl (nbF rfl) ?_
          refine nA (R_pickC (v := (.bool true)) true rfl rfl) <| nM (.bool true) rfl ?_
          refine vl_s rfl (nbF rfl) ?_
          refine vl_s rfl (nbF rfl) ?_
          refine vl_s rfl (nbF rfl) ?_
          refine nA (R_pickC (v := (.bool true)) true rfl rfl) <| nM (.bool true) rfl ?_
          refine vl_s rfl (nbF rfl) ?_
          refine vl_s rfl (nbF rfl) ?_
          refine vl_s rfl (nbF rfl) ?_
          refine vl_s rfl (nbF rfl) ?_
          refine vl_s rfl (nbF rfl) ?_
          refine vl_s rfl (nbF rfl) ?_
          refine nA (R_pickC (v := (.bool true)) true rfl rfl) <| nM (.bool true) rfl ?_
          refine vl_s rfl (nbF rfl) ?_
          refine vl_s rfl (nbF rfl) ?_
          refine vl_s rfl (nbF rfl) ?_
          refine vl_s rfl (nbF rfl) ?_
          refine vl_s rfl (nbF rfl) ?_
          refine nA (R_pickC (v := (.bool true)) true rfl rfl) <| nM (.bool true) rfl ?_
          refine vl_s rfl (nbF rfl) ?_
          refine vl_s rfl (nbF rfl) ?_
          refine vl_s rfl (nbF rfl) ?_
          refine nA (R_pickC (v := (.bool true)) true rfl rfl) <| vl_e ?_
          refine WPc_cond (t := true) rfl (fun _ => ?_) (fun hh => by cases hh)
          exact sR <| nS (.bool false) rfl <| vl_e <| WPc_ret <| resH_of rfl <| H
      refine sR <| nM t25 rfl <| nP (R_len Try.underlying82) H fun _ H => nP R_add H fun _ H => nM (.int .i64 0) rfl <| vl_e <| WPc_block ?_
      refine loop_at (fun e => [e 6, e 7, e 31]) (fun e => [e 0, e 1, e 5, e 30]) H rfl rfl ?_
      intro K1 e1 h H hin1
      replace H : l_FnWPlaces.l9.b (e1 0) (e1 1) (e1 5) (e1 30) (e1 6) (e1 7) (e1 31) h K1 Q := H
      unfold l_FnWPlaces.l9.b at H
      clear hin1
      refine sR <| nP R_lss H fun _ H => vl_e ?_
      refine WPc_seq (fun e h => l_FnWPlaces.j10 (e 0) (e 1) (e 5) (e 6) (e 7) (e 30) (e 31) h K1 Q ∧ [e1 0, e1 1, e1 5, e1 30] = [e 0, e 1, e 5, e 30]) ?_ (fun e h ⟨H, hq1⟩ => ?_)
      rotate_left
      · unfold l_FnWPlaces.j10 at H
        refine WPc_seq (fun e h => l_FnWPlaces.j11 (e 0) (e 1) (e 5) (e 6) (e 7) (e 30) (e 31) h K1 Q ∧ [e1 0, e1 1, e1 5, e1 30] = [e 0, e 1, e 5, e 30]) ?_ (fun e h ⟨H, hq1⟩ => ?_)
        rotate_left
        · unfold l_FnWPlaces.j11 at H
          refine W_region (by kernel_rfl) <| nP R_add H fun t41 H => nM t41 rfl <| vl_e ?_
          exact ⟨H, hq1⟩
        refine WPc_block <| sR <| nM (e 31) rfl <| nS (e 31) rfl <| vl_e <| W_region (by kernel_rfl) <| nM (e 6) rfl <| nM (e 31) rfl <| vl_n <| H_mkSl TZ_37 (by decide) rfl H rfl fun _ h H => vl_n <| H_app TZ_37 TU_37 H fun t37 h H => nM (e 7) rfl <| vl_n <| H_mkSl TZ_37 (by decide) rfl H rfl fun _ h H => vl_n <| H_app TZ_37 TU_37 H fun t40 h H => nS t37 rfl ?_
        refine nS t40 rfl <| vl_e ?_
        exact ⟨H, hq1⟩
      refine cI H (fun H => ?_) fun H => ?_
      · refine WPc_skip ?_
        exact ⟨H, rfl⟩
      · refine WPc_exit ?_
        exact H
    refine sR <| nM (e 0) rfl <| vl_n <| H_call HB_17 H fun _ h H => nP R_not H fun _ H => vl_e ?_
    refine cI H (fun H => ?_) fun H => ?_
    · exact sR <| vl_n <| H_call HB_41 H fun t22 h H => nS t22 rfl <| vl_e <| WPc_ret <| resH_of rfl <| H
    · exact WPc_skip <| H
  refine sR <| nM a1 rfl <| vl_n <| H_call HB_40 H fun _ h H => nP R_not H fun _ H => vl_e ?_
  refine cI H (fun H => ?_) fun H => ?_
  · exact sR <| nS (.bool true) rfl <| vl_e <| WPc_ret <| resH_of rfl <| H
  · exact WPc_skip <| H
end Go.Proofs.Ytkkappjbcgnacaa
end
section
namespace Go.Proofs.Ytkkappjbcgnacaa
open Go.Hp
set_option maxRecDepth 100000
set_option maxHeartbeats 8000000
set_option linter.unusedVariables false
set_option linter.unusedSimpArgs false

/-! ### (*pub/tidwallbtree.Map[string, int]).PopMin -/
def Map_si_PopMin.j4 (s0 : Value) (h : Heap) (Q : Value → Heap → Prop) : Prop := nilck s0 fun b=>fld 4 b fun d=>fld 1 d fun g=>load1 g h fun i=>nilck s0 fun j=>fld 4 j fun k=>fld 0 k fun l=>load1 l h fun m=>Q (.tuple #[i, m, (.bool false)]) h
def Map_si_PopMin.j3 (s0 s6 : Value) (h : Heap) (Q : Value → Heap → Prop) : Prop := fld 1 s6 fun b=>load1 b h fun d=>Map_si_Delete.call #[s0, d] h fun g h=>extr 0 g fun i=>extr 1 g fun j=>ifV j (fld 1 s6 fun k=>load1 k h fun l=>Q (.tuple #[l, i, (.bool true)]) h) (Map_si_PopMin.j4 s0 h Q)
def Map_si_PopMin.j6 (s0 s5 s6 : Value) (h : Heap) (K1 : List Value → Heap → Prop) (Q : Value → Heap → Prop) : Prop := nilck s5 fun b=>fld 3 b fun d=>load1 d h fun g=>nilck g fun i=>load1 i h fun j=>idx 1 j (.int .i64 0) fun k=>load1 k h fun l=>K1 [l] h
def Map_si_PopMin.l5.b (c0 c6 s5 : Value) (h : Heap) (K1 : List Value → Heap → Prop) (Q : Value → Heap → Prop) : Prop := nilck s5 fun b=>fld 1 b fun d=>load1 d h fun g=>arith (· + ·) g (.int .i64 1) fun i=>nilck s5 fun j=>fld 1 j fun k=>store1 k i h fun h=>mapNode_si_leaf.call #[s5] h fun l h=>ifV l (Map_si_PopMin.j3 c0 c6 h Q) (Map_si_PopMin.j6 c0 s5 c6 h K1 Q)
def Map_si_PopMin.j2 (s0 s6 : Value) (h : Heap) (Q : Value → Heap → Prop) : Prop := nilck s0 fun b=>fld 2 b fun d=>load1 d h fun g=>loopC (fun c s h K1=>Map_si_PopMin.l5.b (c.getD 0 undef) (c.getD 1 undef) (s.getD 0 undef) h K1 Q) [s0, s6] [g] h
def Map_si_PopMin.j8 (s0 s5 s6 : Value) (h : Heap) (K1 : List Value → Heap → Prop) (Q : Value → Heap → Prop) : Prop := nilck s5 fun b=>fld 3 b fun d=>load1 d h fun g=>nilck g fun i=>load1 i h fun j=>idx 1 j (.int .i64 0) fun k=>Map_si_isoLoad.call #[s0, k, (.bool true)] h fun l h=>K1 [l] h
def Map_si_PopMin.j10 (s6 : Value) (h : Heap) (K1 : List Value → Heap → Prop) (Q : Value → Heap → Prop) : Prop := fld 1 s6 fun b=>load1 b h fun d=>fld 0 s6 fun g=>load1 g h fun i=>Q (.tuple #[d, i, (.bool true)]) h
def Map_si_PopMin.j9 (s0 s5 s6 : Value) (h : Heap) (K1 : List Value → Heap → Prop) (Q : Value → Heap → Prop) : Prop := nilck s5 fun b=>fld 2 b fun d=>load1 d h fun g=>slc 2 g none none none fun i=>nilck s5 fun j=>fld 2 j fun k=>load1 k h fun l=>slc 2 l (some (.int .i64 1)) none none fun m=>cpy 2 i m h fun n h=>nilck s5 fun o=>fld 2 o fun p=>load1 p h fun q=>nilck s5 fun u=>fld 2 u fun v=>load1 v h fun w=>lenV w fun x=>arith (· - ·) x (.int .i64 1) fun y=>nilck s0 fun z=>fld 4 z fun b0=>loadN 2 b0 h fun b1=>idx 2 q y fun b2=>storeN 2 b2 b1 h fun h=>nilck s5 fun b3=>fld 2 b3 fun b4=>load1 b4 h fun b5=>nilck s5 fun b6=>fld 2 b6 fun b7=>load1 b7 h fun b8=>lenV b8 fun b9=>arith (· - ·) b9 (.int .i64 1) fun d0=>slc 2 b5 none (some d0) none fun d1=>nilck s5 fun d2=>fld 2 d2 fun d3=>store1 d3 d1 h fun h=>nilck s0 fun d4=>fld 3 d4 fun d5=>load1 d5 h fun d6=>arith (· - ·) d6 (.int .i64 1) fun d7=>nilck s0 fun d8=>fld 3 d8 fun d9=>store1 d9 d7 h fun h=>nilck s0 fun g0=>fld 3 g0 fun g1=>load1 g1 h fun g2=>cmpI (fun a b=>a == b) g2 (.int .i64 0) fun g3=>ifV g3 (nilck s0 fun g4=>fld 2 g4 fun g5=>store1 g5 (.pointer none) h fun h=>Map_si_PopMin.j10 s6 h K1 Q) (Map_si_PopMin.j10 s6 h K1 Q)
def Map_si_PopMin.l7.b (c0 c6 s5 : Value) (h : Heap) (K1 : List Value → Heap → Prop) (Q : Value → Heap → Prop) : Prop := nilck s5 fun b=>fld 1 b fun d=>load1 d h fun g=>arith (· - ·) g (.int .i64 1) fun i=>nilck s5 fun j=>fld 1 j fun k=>store1 k i h fun h=>mapNode_si_leaf.call #[s5] h fun l h=>ifV l (nilck s5 fun m=>fld 2 m fun n=>load1 n h fun o=>idx 2 o (.int .i64 0) fun p=>loadN 2 p h fun q=>storeN 2 c6 q h fun h=>nilck s5 fun u=>fld 2 u fun v=>load1 v h fun w=>lenV w fun x=>nilck c0 fun y=>fld 6 y fun z=>load1 z h fun b0=>cmpI (fun a b=>a == b) x b0 fun b1=>ifV b1 (Map_si_PopMin.j2 c0 c6 h Q) (Map_si_PopMin.j9 c0 s5 c6 h K1 Q)) (Map_si_PopMin.j8 c0 s5 c6 h K1 Q)
def Map_si_PopMin.j1 (s0 : Value) (h : Heap) (Q : Value → Heap → Prop) : Prop := nilck s0 fun b=>fld 2 b fun d=>Map_si_isoLoad.call #[s0, d, (.bool true)] h fun g h=>alloc [(.int .i64 0), (.string ⟨#[]⟩)] 283 h fun i h=>loopC (fun c s h K1=>Map_si_PopMin.l7.b (c.getD 0 undef) (c.getD 1 undef) (s.getD 0 undef) h K1 Q) [s0, i] [g] h
def Map_si_PopMin.sh (a0 : Value) (h : Heap) (Q : Value → Heap → Prop) : Prop := nilck a0 fun b=>fld 2 b fun d=>load1 d h fun g=>eqNilP g fun i=>ifV i (nilck a0 fun j=>fld 4 j fun k=>fld 1 k fun l=>load1 l h fun m=>nilck a0 fun n=>fld 4 n fun o=>fld 0 o fun p=>load1 p h fun q=>Q (.tuple #[m, q, (.bool false)]) h) (Map_si_PopMin.j1 a0 h Q)
theorem Map_si_PopMin.body (a0 : Value) (h : Heap) (Q : Value → Heap → Prop) (H : Map_si_PopMin.sh a0 h Q) : Map_si_PopMin.call #[a0] h Q := by
  refine callsH_of (args := [a0]) Try.func248 rfl rfl ?_
  unfold Map_si_PopMin.sh at H
  refine sR <| nS (.string ⟨#[]⟩) rfl <| nS (.int .i64 0) rfl <| nS (.bool false) rfl <| vl_e ?_
  refine WPc_seq (fun e h => Map_si_PopMin.j1 (e 0) h Q) ?_ (fun e h H => ?_)
  rotate_left
  · unfold Map_si_PopMin.j1 at H
    refine sR <| nM (e 0) rfl <| nM (e 0) rfl <| nP R_nil H fun _ H => nP (R_fld TF_285_2) H fun _ H => vl_n <| H_call HB_169 H fun t28 h H => nS t28 rfl <| vl_e <| sR <| vl_n <| H_alloc TV_283 H fun _ h H => vl_e ?_
    refine WPc_seq (fun e h => Map_si_PopMin.j2 (e 0) (e 6) h Q) ?_ (fun e h H => ?_)
    rotate_left
    · unfold Map_si_PopMin.j2 at H
      refine sR <| nM (e 0) rfl <| nP R_nil H fun _ H => nP (R_fld TF_285_2) H fun _ H => nL T1_281 H fun t125 H => nS t125 rfl <| vl_e ?_
      refine WPc_seq (fun e h => Map_si_PopMin.j3 (e 0) (e 6) h Q) ?_ (fun e h H => ?_)
      rotate_left
      · unfold Map_si_PopMin.j3 at H
        refine sR <| nM (e 0) rfl <| nP (R_fld TF_283_1) H fun _ H => nL T1_9 H fun _ H => vl_n <| H_call HB_171 H fun t147 h H => nM t147 rfl <| nP R_ext H fun t148 H => nP R_ext H fun t149 H => nS t148 rfl <| nS t149 rfl <| vl_e ?_
        refine WPc_seq (fun e h => Map_si_PopMin.j4 (e 0) h Q) ?_ (fun e h H => ?_)
        rotate_left
        · unfold Map_si_PopMin.j4 at H
          refine WPc_seq' <| W_drawn [0, 1, 3, 7, 15, 0, 32, 96, 224, 480, 31, 2047, 4095] (.take 0 (.take 1 (.take 2 (.take 3 (.take 4 (.take 5 (.take 6 (.take 7 (.take 8 (.take 9 (.take 10 (.take 11 (.take 12 .done))))))))))))) mixed (by kernel_rfl) <| pM (e 0) rfl rfl <| pP rfl R_nil H fun _ H => pP rfl (R_fld TF_285_4) H fun _ H => pP rfl (R_fld TF_283_1) H fun _ H => pL rfl T1_9 H fun _ t158 _ H => pM (e 0) rfl rfl <| pP rfl R_nil H fun _ H => pP rfl (R_fld TF_285_4) H fun _ H => pP rfl (R_fld TF_283_0) H fun _ H => pL rfl T1_3 H fun _ t163 _ H => pS t158 rfl rfl <| pS t163 rfl rfl ?_
          exact pS (.bool false) rfl rfl <| vp_done <| WPc_ret <| resH_of rfl <| H
        refine sR <| nM t149 rfl <| vl_e ?_
        refine cI H (fun H => ?_) fun H => ?_
        · exact sR <| nP (R_fld TF_283_1) H fun _ H => nL T1_9 H fun t152 H => nM t148 rfl <| nS t152 rfl <| nS t148 rfl <| nS (.bool true) rfl <| vl_e <| WPc_ret <| resH_of rfl <| H
        · exact WPc_skip <| H
      refine WPc_block ?_
      refine loop_at (fun e => [e 5]) (fun e => [e 0, e 6]) H rfl rfl ?_
      intro K1 e1 h H hin1
      replace H : Map_si_PopMin.l5.b (e1 0) (e1 6) (e1 5) h K1 Q := H
      unfold Map_si_PopMin.l5.b at H
      clear hin1
      refine WPc_block <| sR <| nM (e1 5) rfl <| nP R_nil H fun _ H => nP (R_fld TF_292_1) H fun _ H => nL T1_3 H fun _ H => nP R_add H fun _ H => nP R_nil H fun _ H => nP (R_fld TF_292_1) H fun _ H => vl_n <| H_store1 TS_3 H fun h H => vl_e ?_
      refine WPc_seq (fun e h => Map_si_PopMin.j6 (e 0) (e 5) (e 6) h K1 Q ∧ [e1 0, e1 6] = [e 0, e 6]) ?_ (fun e h ⟨H, hq1⟩ => ?_)
      rotate_left
      · unfold Map_si_PopMin.j6 at H
        refine W_region (by kernel_rfl) <| nM (e 5) rfl <| nP R_nil H fun _ H => nP (R_fld TF_292_3) H fun _ H => nL T1_290 H fun _ H => nP R_nil H fun _ H => nL T1_293 H fun _ H => nP (R_idx TE_293) H fun _ H => nL T1_281 H fun t142 H => nS t142 rfl <| vl_e ?_
        exact ⟨H, hq1⟩
      refine sR <| nM (e1 5) rfl <| vl_n <| H_call HB_170 H fun _ h H => vl_e ?_
      refine cI H (fun H => ?_) fun H => ?_
      · refine WPc_exit ?_
        exact H
      · refine WPc_skip ?_
        exact ⟨H, rfl⟩
    refine WPc_block ?_
    refine loop_at (fun e => [e 5]) (fun e => [e 0, e 6]) H rfl rfl ?_
    intro K1 e1 h H hin1
    replace H : Map_si_PopMin.l7.b (e1 0) (e1 6) (e1 5) h K1 Q := H
    unfold Map_si_PopMin.l7.b at H
    clear hin1
    refine WPc_block <| sR <| nM (e1 5) rfl <| nP R_nil H fun _ H => nP (R_fld TF_292_1) H fun _ H => nL T1_3 H fun _ H => nP R_sub H fun _ H => nP R_nil H fun _ H => nP (R_fld TF_292_1) H fun _ H => vl_n <| H_store1 TS_3 H fun h H => vl_e ?_
    refine WPc_seq (fun e h => Map_si_PopMin.j8 (e 0) (e 5) (e 6) h K1 Q ∧ [e1 0, e1 6] = [e 0, e 6]) ?_ (fun e h ⟨H, hq1⟩ => ?_)
    rotate_left
    · unfold Map_si_PopMin.j8 at H
      refine W_region (by kernel_rfl) <| nM (e 0) rfl <| nM (e 5) rfl <| nP R_nil H fun _ H => nP (R_fld TF_292_3) H fun _ H => nL T1_290 H fun _ H => nP R_nil H fun _ H => nL T1_293 H fun _ H => nP (R_idx TE_293) H fun _ H => vl_n <| H_call HB_169 H fun t121 h H => nS t121 rfl <| vl_e ?_
      exact ⟨H, hq1⟩
    refine sR <| nM (e1 5) rfl <| vl_n <| H_call HB_170 H fun _ h H => vl_e ?_
    refine cI H (fun H => ?_) fun H => ?_
    · refine sR <| nM (e1 5) rfl <| nP R_nil H fun _ H => nP (R_fld TF_292_2) H fun _ H => nL T1_289 H fun _ H => nP (R_idx TE_289) H fun _ H => nLN TN_283 H fun _ H => vl_n <| H_storeN TS_283 H fun h H => vl_e ?_
      refine WPc_seq (fun e h => Map_si_PopMin.j9 (e 0) (e 5) (e 6) h K1 Q ∧ [e1 0, e1 6] = [e 0, e 6]) ?_ (fun e h ⟨H, hq1⟩ => ?_)
      rotate_left
      · unfold Map_si_PopMin.j9 at H
        refine WPc_seq' <| W_drawn [0, 1, 3, 7, 15, 0, 32, 96, 224, 480, 1023] (.take 0 (.take 1 (.take 2 (.take 3 (.take 4 (.take 5 (.take 6 (.take 7 (.take 8 (.take 9 (.alt 10 .done .none))))))))))) mixed (by kernel_rfl) <| pM (e 5) rfl rfl <| pP rfl R_nil H fun _ H => pP rfl (R_fld TF_292_2) H fun _ H => pL rfl T1_289 H fun _ _ _ H => pP rfl (R_slice TE_289 (by decide)) H fun _ H => pM (e 5) rfl rfl <| pP rfl R_nil H fun _ H => pP rfl (R_fld TF_292_2) H fun _ H => pL rfl T1_289 H fun _ _ _ H => pP rfl (R_slice TE_289 (by decide)) H fun _ H => aE rfl <| H_cpy TE_289 H fun _ h H => ⟨(hskip rfl (hskip rfl hnil)), vp_done ?_⟩
        refine WPc_seq' <| W_drawn [0, 1, 3, 7, 0, 16, 48, 112, 240, 496, 0, 1024, 3072, 7168, 16383, 32767] (.take 0 (.take 1 (.take 2 (.take 3 (.take 4 (.take 5 (.take 6 (.take 7 (.take 8 (.take 9 (.take 10 (.take 11 (.take 12 (.take 13 (.take 14 (.alt 15 .done .none)))))))))))))))) mixed (by kernel_rfl) <| pM (e 5) rfl rfl <| pP rfl R_nil H fun _ H => pP rfl (R_fld TF_292_2) H fun _ H => pL rfl T1_289 H fun _ _ _ H => pM (e 5) rfl rfl <| pP rfl R_nil H fun _ H => pP rfl (R_fld TF_292_2) H fun _ H => pL rfl T1_289 H fun _ _ _ H => pP rfl (R_len Try.underlying289) H fun _ H => pP rfl R_sub H fun _ H => pM (e 0) rfl rfl <| pP rfl R_nil H fun _ H => ?_
        refine pP rfl (R_fld TF_285_4) H fun _ H => tkL rfl <| R_loadN TN_283 H fun _ _ _ _ H _ _ => pP rfl (R_idx TE_289) H fun _ H => aE rfl <| H_storeN TS_283 H fun h H => ⟨(hskip rfl (hskip rfl (hskip rfl hnil))), vp_done <| WPc_seq' <| W_drawn [0, 0, 2, 6, 14, 0, 32, 96, 224, 480, 992, 2046, 4095, 8191, 16383] (.take 0 (.take 1 (.take 2 (.take 3 (.take 4 (.take 5 (.take 6 (.take 7 (.take 8 (.take 9 (.take 10 (.take 11 (.take 12 (.take 13 (.alt 14 .done .none))))))))))))))) mixed (by kernel_rfl) <| pM (e 5) rfl rfl <| pM (e 5) rfl rfl <| pP rfl R_nil H fun _ H => pP rfl (R_fld TF_292_2) H fun _ H => pL rfl T1_289 H fun _ _ _ H => pM (e 5) rfl rfl <| pP rfl R_nil H fun _ H => ?_⟩
        refine pP rfl (R_fld TF_292_2) H fun _ H => pL rfl T1_289 H fun _ _ _ H => pP rfl (R_len Try.underlying289) H fun _ H => pP rfl R_sub H fun _ H => pP rfl (R_slice TE_289 (by decide)) H fun _ H => pP rfl R_nil H fun _ H => pP rfl (R_fld TF_292_2) H fun _ H => aE rfl <| H_store1 TS_289 H fun h H => ⟨(hskip rfl (hskip rfl hnil)), vp_done <| sR <| nM (e 0) rfl <| nP R_nil H fun _ H => nP (R_fld TF_285_3) H fun _ H => nL T1_3 H fun _ H => ?_⟩
        refine nP R_sub H fun _ H => nP R_nil H fun _ H => nP (R_fld TF_285_3) H fun _ H => vl_n <| H_store1 TS_3 H fun h H => vl_e ?_
        refine WPc_seq (fun e h => Map_si_PopMin.j10 (e 6) h K1 Q ∧ [e1 0, e1 6] = [e 0, e 6]) ?_ (fun e h ⟨H, hq1⟩ => ?_)
        rotate_left
        · unfold Map_si_PopMin.j10 at H
          exact WPc_seq' <| W_drawn [0, 1, 0, 4, 3, 31, 63] (.take 0 (.take 1 (.take 2 (.take 3 (.take 4 (.take 5 (.take 6 .done))))))) mixed (by kernel_rfl) <| pP rfl (R_fld TF_283_1) H fun _ H => pL rfl T1_9 H fun _ t110 _ H => pP rfl (R_fld TF_283_0) H fun _ H => pL rfl T1_3 H fun _ t112 _ H => pS t110 rfl rfl <| pS t112 rfl rfl <| pS (.bool true) rfl rfl <| vp_done <| WPc_ret <| resH_of rfl <| H
        refine sR <| nM (e 0) rfl <| nP R_nil H fun _ H => nP (R_fld TF_285_3) H fun _ H => nL T1_3 H fun _ H => nP R_eqI H fun _ H => vl_e ?_
        refine cI H (fun H => ?_) fun H => ?_
        · refine W_region (by kernel_rfl) <| nM (e 0) rfl <| nP R_nil H fun _ H => nP (R_fld TF_285_2) H fun _ H => vl_n <| H_store1 TS_281 H fun h H => vl_e ?_
          exact ⟨H, hq1⟩
        · refine WPc_skip ?_
          exact ⟨H, hq1⟩
      refine WPc_seq' <| W_drawn [0, 1, 3, 7, 15, 0, 32, 96, 224, 511] (.take 0 (.take 1 (.take 2 (.take 3 (.take 4 (.take 5 (.take 6 (.take 7 (.take 8 (.take 9 .done)))))))))) mixed (by kernel_rfl) <| pM (e1 5) rfl rfl <| pP rfl R_nil H fun _ H => pP rfl (R_fld TF_292_2) H fun _ H => pL rfl T1_289 H fun _ _ _ H => pP rfl (R_len Try.underlying289) H fun _ H => pM (e1 0) rfl rfl <| pP rfl R_nil H fun _ H => pP rfl (R_fld TF_285_5) H fun _ H => pL rfl T1_3 H fun _ _ _ H => pP rfl R_eqI H fun _ H => vp_done ?_
      refine cI H (fun H => ?_) fun H => ?_
      · refine WPc_exit ?_
        exact H
      · refine WPc_skip ?_
        exact ⟨H, rfl⟩
    · refine WPc_skip ?_
      exact ⟨H, rfl⟩
  refine sR <| nM a0 rfl <| nP R_nil H fun _ H => nP (R_fld TF_285_2) H fun _ H => nL T1_281 H fun _ H => nP (R_eqNilP Try.underlying281 rfl) H fun _ H => vl_e ?_
  refine cI H (fun H => ?_) fun H => ?_
  · refine WPc_seq' <| W_drawn [0, 1, 3, 7, 15, 0, 32, 96, 224, 480, 31, 2047, 4095] (.take 0 (.take 1 (.take 2 (.take 3 (.take 4 (.take 5 (.take 6 (.take 7 (.take 8 (.take 9 (.take 10 (.take 11 (.take 12 .done))))))))))))) mixed (by kernel_rfl) <| pM a0 rfl rfl <| pP rfl R_nil H fun _ H => pP rfl (R_fld TF_285_4) H fun _ H => pP rfl (R_fld TF_283_1) H fun _ H => pL rfl T1_9 H fun _ t18 _ H => pM a0 rfl rfl <| pP rfl R_nil H fun _ H => pP rfl (R_fld TF_285_4) H fun _ H => pP rfl (R_fld TF_283_0) H fun _ H => pL rfl T1_3 H fun _ t23 _ H => pS t18 rfl rfl <| pS t23 rfl rfl ?_
    exact pS (.bool false) rfl rfl <| vp_done <| WPc_ret <| resH_of rfl <| H
  · exact WPc_skip <| H
end Go.Proofs.Ytkkappjbcgnacaa
end
section
namespace Go.Proofs.Ytkkappjbcgnacaa.Si
open Go.Hp
set_option linter.unusedVariables false
set_option linter.unusedSimpArgs false
abbrev KT := ByteArray
abbrev VT := Int
abbrev It := KT × VT
abbrev enc (p : It) : List Value := [.int .i64 p.2, .string p.1]
abbrev kv (k : KT) : Value := .string k
abbrev vv (v : VT) : Value := .int .i64 v
abbrev emp : It := (⟨#[]⟩, 0)
def lt (a b : It) : Bool := Op.bytesLess a.1.toList b.1.toList
/-- The cells of a map's head, in parts. -/
abbrev hd0 (iso : Int) (ctr : Option Addr) : List Value := [.int .u64 iso, .pointer ctr]
abbrev hd4 (mn mx : Int) : List Value := enc emp ++ [.int .i64 mn, .int .i64 mx, .bool false, .bool false]
abbrev hdr (iso : Int) (ctr root : Option Addr) (cnt mn mx : Int) : List Value := [.int .u64 iso, .pointer ctr, .pointer root, .int .i64 cnt] ++ hd4 mn mx
theorem encl (p : It) : (enc p).length = 2 := rfl
theorem enc1 (p : It) : ∀ y ∈ enc p, one1 y = true := by simp [one1]
theorem swo : Swo lt where
  irr a := bytesLess_irr _
  tr a b c := bytesLess_tr _ _ _
  ntr a b c := bytesLess_ntr _ _ _

/-- An item as the laws have it. -/
abbrev encA (p : It) : List Value := [kv p.1, vv p.2]
theorem encAl (p : It) : (encA p).length = 2 := rfl
theorem encA1 (p : It) : ∀ y ∈ encA p, one1 y = true := by simp [one1]
abbrev fk (k : KT) : List Value := [kv k]
theorem fkl (k : KT) : (fk k).length = 1 := rfl
theorem snoc_fk (l : List KT) (k : KT) : l.flatMap fk ++ [kv k] = (l ++ [k]).flatMap fk := by rw [List.flatMap_append, List.flatMap_singleton]
/-- The items of a list that is set in order. -/
def setAll (l : List It) : List It := l.foldl (lput lt) []
theorem setAll_snoc (l : List It) (x : It) : setAll (l ++ [x]) = lput lt (setAll l) x := by unfold setAll; rw [List.foldl_append]; rfl
theorem setAll_len (l : List It) : (setAll l).length ≤ l.length := by
  unfold setAll
  have : ∀ (l a : List It), (l.foldl (lput lt) a).length ≤ a.length + l.length := fun l => by
    induction l with
    | nil => intro a; simp
    | cons x r ih =>
      intro a
      have h1 := ih (lput lt a x)
      have h2 : (lput lt a x).length = _ := lput_length
      simp only [List.foldl_cons, List.length_cons]
      split at h2 <;> omega
  have := this l []; simpa using this
/-- The tree of a list that is set in order. -/
def grown (m : Nat) (l : List It) : MT It := l.foldl (MT.set lt m) none
theorem grown_snoc (m : Nat) (l : List It) (x : It) : grown m (l ++ [x]) = (grown m l).set lt m x := by unfold grown; rw [List.foldl_append]; rfl
end Go.Proofs.Ytkkappjbcgnacaa.Si
end
section
namespace Go.Proofs.Ytkkappjbcgnacaa.Si
open Go.Hp Go.Proofs.Ytkkappjbcgnacaa
set_option linter.unusedVariables false
set_option linter.unusedSimpArgs false
variable {h0 h : Heap} {Z E : List Rg} {Q : Value → Heap → Prop}

theorem search_ok {h : Heap} {tr iv : Value} {n : Nat} {its : List It} {x : It} {Q : Value → Heap → Prop} (ha : Asc lt its) (hb : its.length ≤ 4611686018427387903)
    (hn : cl h n 2 = some iv) (hr : Rdl 2 h iv its.length (its.flatMap enc)) (H : Q (.tuple #[.int .i64 (pos lt its x), .bool (lget lt its x).isSome]) h) : Map_si_search.call #[tr, ptr n 0, kv x.1] h Q := by
  obtain ⟨a, cap, rfl, hl, hx, _⟩ := hr
  obtain ⟨ib, io, hia⟩ : ∃ ib io, its.length ≠ 0 → a = some ⟨ib, io, none⟩ ∧ Rw h ib io (its.flatMap enc) := by
    by_cases e : its.length ≠ 0
    · obtain ⟨b, o, h1, h2⟩ := hx e; exact ⟨b, o, fun _ => ⟨h1, h2⟩⟩
    · exact ⟨0, 0, fun e' => absurd e' e⟩
  have hk : ∀ i (hi : i < its.length), cl h ib (io + i * 2 + 1) = some (kv its[i].1) := fun i hi => by
    have h2 := (hia (by omega)).2 (i * 2 + 1) (by rw [flat_len encl]; omega)
    rw [flat_get encl its i hi 1 (by decide)] at h2
    rw [Nat.add_assoc]; exact h2
  have hs : ∀ i j (hi : i < its.length) (hj : j < its.length), i < j → lt its[i] its[j] = true := fun i j hi hj hij => List.pairwise_iff_getElem.1 ha i j hi hj hij
  have fin : ∀ lo, lo ≤ its.length → (∀ i (hi : i < its.length), i < lo → lt x its[i] = false) → (∀ i (hi : i < its.length), lo ≤ i → lt x its[i] = true) →
      (∀ hp : lo - 1 < its.length, 0 < lo → lt its[lo - 1] x = false → Q (.tuple #[.int .i64 (lo - 1 : Nat), .bool true]) h) ∧ ((∀ hp : lo - 1 < its.length, 0 < lo → lt its[lo - 1] x = true) → Q (.tuple #[.int .i64 lo, .bool false]) h) := by
    intro lo h1 h2 h3
    constructor
    · intro hp h0 hlt
      have e : pos lt its x = lo - 1 := pos_uni (by omega) (fun j hj hjl => swo.tr1 (hs j (lo - 1) hj hp hjl) (h2 (lo - 1) hp (by omega))) (fun _ => hlt)
      have e2 : lget lt its x = some its[lo - 1] := by
        unfold lget; rw [e, List.getElem?_eq_getElem hp, Option.bind_some, h2 (lo - 1) hp (by omega)]; rfl
      rw [e, e2] at H; exact H
    · intro hlt
      have e : pos lt its x = lo := by
        refine pos_uni h1 (fun j hj hjl => ?_) (fun hl => swo.asym (h3 lo hl (Nat.le_refl _)))
        rcases Nat.lt_or_ge j (lo - 1) with hl | hl
        · exact swo.tr _ _ _ (hs j (lo - 1) hj (by omega) hl) (hlt (by omega) (by omega))
        · have : j = lo - 1 := by omega
          subst this; exact hlt hj (by omega)
      have e2 : lget lt its x = none := by
        unfold lget; rw [e]
        rcases Nat.lt_or_ge lo its.length with hl | hl
        · rw [List.getElem?_eq_getElem hl, Option.bind_some, h3 lo hl (Nat.le_refl _)]; rfl
        · rw [List.getElem?_eq_none hl]; rfl
      rw [e, e2] at H; exact H
  refine Map_si_search.body _ _ _ _ _ ?_
  unfold Map_si_search.sh
  simp only [w_load1, w_loadN, w_nil, w_fld, w_idx, w_len, w_lenStr, w_cap, w_arith, w_divi, w_remi, w_cmpI, w_cmpS, w_not, w_ext, w_eqNilP, w_neNilP, w_eqB, w_pick, w_max, w_ifV, w_br, w_store1, w_storeN, w_alloc, w_box, add_mk, Nat.zero_add, Nat.add_zero, Option.some.injEq, exists_eq_left', List.getElem?_cons_zero, List.getElem?_cons_succ, List.getD_cons_zero, List.getD_cons_succ, hn]
  refine loop_intro (fun s h' => h' = h ∧ ∃ lo hi : Nat, s = [.int .i64 lo, .int .i64 hi] ∧ lo ≤ hi ∧ hi ≤ its.length ∧ (∀ i (hi' : i < its.length), i < lo → lt x its[i] = false) ∧ (∀ i (hi' : i < its.length), hi ≤ i → lt x its[i] = true))
    (fun s _ => (iv (s.getD 1 undef) - iv (s.getD 0 undef)).toNat) ⟨rfl, 0, its.length, rfl, by omega, by omega, fun i hi hl => by omega, fun i h1 h2 => by omega⟩ ?_
  rintro s h' ⟨rfl, lo, hi, rfl, h1, h2, h3, h4⟩
  unfold Map_si_search.l3.b
  simp only [w_load1, w_loadN, w_nil, w_fld, w_idx, w_len, w_lenStr, w_cap, w_arith, w_divi, w_remi, w_cmpI, w_cmpS, w_not, w_ext, w_eqNilP, w_neNilP, w_eqB, w_pick, w_max, w_ifV, w_br, w_store1, w_storeN, w_alloc, w_box, add_mk, Nat.zero_add, Nat.add_zero, Option.some.injEq, exists_eq_left', List.getElem?_cons_zero, List.getElem?_cons_succ, List.getD_cons_zero, List.getD_cons_succ]
  refine ⟨fun hlt => ?_, fun hge => ?_⟩
  · have hlt : lo < hi := by simpa using hlt
    unfold Map_si_search.j4
    have hd : ((lo : Int) + hi).tdiv 2 = (((lo + hi) / 2 : Nat) : Int) := by
      rw [← Int.natCast_add]; exact (Int.ofNat_tdiv (lo + hi) 2).symm
    simp only [w_load1, w_loadN, w_nil, w_fld, w_idx, w_len, w_lenStr, w_cap, w_arith, w_divi, w_remi, w_cmpI, w_cmpS, w_not, w_ext, w_eqNilP, w_neNilP, w_eqB, w_pick, w_max, w_ifV, w_br, w_store1, w_storeN, w_alloc, w_box, add_mk, Nat.zero_add, Nat.add_zero, Option.some.injEq, exists_eq_left', List.getElem?_cons_zero, List.getElem?_cons_succ, List.getD_cons_zero, List.getD_cons_succ]
    rw [i64w (n := (lo : Int) + hi) (by omega) (by omega), hd, i64w (n := (((lo + hi) / 2 : Nat) : Int)) (by omega) (by omega)]
    refine ⟨by decide, ?_⟩
    simp only [w_load1, w_loadN, w_nil, w_fld, w_idx, w_len, w_lenStr, w_cap, w_arith, w_divi, w_remi, w_cmpI, w_cmpS, w_not, w_ext, w_eqNilP, w_neNilP, w_eqB, w_pick, w_max, w_ifV, w_br, w_store1, w_storeN, w_alloc, w_box, add_mk, Nat.zero_add, Nat.add_zero, Option.some.injEq, exists_eq_left', List.getElem?_cons_zero, List.getElem?_cons_succ, List.getD_cons_zero, List.getD_cons_succ, hn, (hia (by omega)).1, Int.toNat_natCast]
    have hm : (lo + hi) / 2 < its.length := by omega
    refine ⟨by omega, by omega, ?_⟩
    simp only [w_load1, w_loadN, w_nil, w_fld, w_idx, w_len, w_lenStr, w_cap, w_arith, w_divi, w_remi, w_cmpI, w_cmpS, w_not, w_ext, w_eqNilP, w_neNilP, w_eqB, w_pick, w_max, w_ifV, w_br, w_store1, w_storeN, w_alloc, w_box, add_mk, Nat.zero_add, Nat.add_zero, Option.some.injEq, exists_eq_left', List.getElem?_cons_zero, List.getElem?_cons_succ, List.getD_cons_zero, List.getD_cons_succ, hk _ hm]
    refine ⟨fun hc => ?_, fun hc => ?_⟩
    · have hc : lt x its[(lo + hi) / 2] = false := by simpa [lt] using hc
      rw [i64w (by omega) (by omega)]
      refine ⟨⟨trivial, (lo + hi) / 2 + 1, hi, by simp, by omega, h2, fun i hi' hl => ?_, h4⟩, by simp; omega⟩
      rcases Nat.lt_or_ge i ((lo + hi) / 2) with hl | hl
      · cases e : lt x its[i] with
        | false => rfl
        | true => have := swo.tr _ _ _ e (hs i _ hi' hm hl); rw [hc] at this; cases this
      · have : i = (lo + hi) / 2 := by omega
        subst this; exact hc
    · have hc : lt x its[(lo + hi) / 2] = true := by simpa [lt] using hc
      refine ⟨⟨trivial, lo, (lo + hi) / 2, rfl, by omega, by omega, h3, fun i hi1 hi2 => ?_⟩, by simp; omega⟩
      rcases Nat.lt_or_ge ((lo + hi) / 2) i with hl | hl
      · exact swo.tr _ _ _ hc (hs _ i hm hi1 hl)
      · have : i = (lo + hi) / 2 := by omega
        subst this; exact hc
  · have hge : lo = hi := by simp at hge; omega
    subst hge
    obtain ⟨f1, f2⟩ := fin lo h2 h3 h4
    unfold Map_si_search.j1
    simp only [w_load1, w_loadN, w_nil, w_fld, w_idx, w_len, w_lenStr, w_cap, w_arith, w_divi, w_remi, w_cmpI, w_cmpS, w_not, w_ext, w_eqNilP, w_neNilP, w_eqB, w_pick, w_max, w_ifV, w_br, w_store1, w_storeN, w_alloc, w_box, add_mk, Nat.zero_add, Nat.add_zero, Option.some.injEq, exists_eq_left', List.getElem?_cons_zero, List.getElem?_cons_succ, List.getD_cons_zero, List.getD_cons_succ]
    refine ⟨fun hpos => ?_, fun hz => ?_⟩
    · have hpos : 0 < lo := by simpa using hpos
      rw [i64w (n := (lo : Int) - 1) (by omega) (by omega)]
      simp only [w_load1, w_loadN, w_nil, w_fld, w_idx, w_len, w_lenStr, w_cap, w_arith, w_divi, w_remi, w_cmpI, w_cmpS, w_not, w_ext, w_eqNilP, w_neNilP, w_eqB, w_pick, w_max, w_ifV, w_br, w_store1, w_storeN, w_alloc, w_box, add_mk, Nat.zero_add, Nat.add_zero, Option.some.injEq, exists_eq_left', List.getElem?_cons_zero, List.getElem?_cons_succ, List.getD_cons_zero, List.getD_cons_succ, hn, (hia (by omega)).1]
      refine ⟨by omega, by omega, ?_⟩
      rw [show ((lo : Int) - 1).toNat = lo - 1 by omega]
      have hm : lo - 1 < its.length := by omega
      simp only [w_load1, w_loadN, w_nil, w_fld, w_idx, w_len, w_lenStr, w_cap, w_arith, w_divi, w_remi, w_cmpI, w_cmpS, w_not, w_ext, w_eqNilP, w_neNilP, w_eqB, w_pick, w_max, w_ifV, w_br, w_store1, w_storeN, w_alloc, w_box, add_mk, Nat.zero_add, Nat.add_zero, Option.some.injEq, exists_eq_left', List.getElem?_cons_zero, List.getElem?_cons_succ, List.getD_cons_zero, List.getD_cons_succ, hk (lo - 1) hm]
      refine ⟨fun hc => ?_, fun hc => ?_⟩
      · have hc : lt its[lo - 1] x = false := by simpa [lt] using hc
        rw [show ((lo : Int) - 1) = ((lo - 1 : Nat) : Int) by omega]
        exact f1 hm hpos hc
      · have hc : lt its[lo - 1] x = true := by simpa [lt] using hc
        unfold Map_si_search.j2
        exact f2 (fun _ _ => hc)
    · have hz : lo = 0 := by simp at hz; omega
      subst hz
      unfold Map_si_search.j2
      exact f2 (fun _ e => absurd e (Nat.lt_irrefl _))

theorem leaf_ok {n : Nat} {a : Option Addr} (hn : cl h n 3 = some (.pointer a)) (H : Q (.bool a.isNone) h) : mapNode_si_leaf.call #[ptr n 0] h Q := by
  refine mapNode_si_leaf.body _ _ _ ?_
  unfold mapNode_si_leaf.sh
  have s := St.start h
  refine r_nil ?_
  refine r_fld ?_
  refine s.r_loadB hn ?_
  refine r_eqNilP ?_
  exact H
/-- One's own node, or a node that is only read. -/
theorem isoLoad_ok {tb pb po n : Nat} {iso : Int} {m : Bool} (hi : cl h tb 0 = some (.int .u64 iso)) (hp : cl h pb po = some (ptr n 0)) (hn : m = true → cl h n 0 = some (.int .u64 iso)) (H : Q (ptr n 0) h) :
    Map_si_isoLoad.call #[ptr tb 0, ptr pb po, .bool m] h Q := by
  refine Map_si_isoLoad.body _ _ _ _ _ ?_
  unfold Map_si_isoLoad.sh
  have hj : Map_si_isoLoad.j1 (ptr pb po) h Q := by
    unfold Map_si_isoLoad.j1
    refine r_nil ?_
    exact r_ld hp H
  refine r_br (fun hm => ?_) (fun _ => hj)
  refine r_nil ?_
  refine r_ld hp ?_
  refine r_nil ?_
  refine r_fld ?_
  refine r_ld (hn hm) ?_
  refine r_nil ?_
  refine r_fld ?_
  refine r_ld hi ?_
  refine r_cmpI ?_
  refine r_if (fun e => absurd e (by simp)) (fun _ => hj)

theorem newNode_leaf {tb : Nat} {iso : Int} (hi : cl h tb 0 = some (.int .u64 iso)) (H : ∀ n h', St h [] [(n, 0, [.int .u64 iso, .int .i64 0, .slice none 0 0, .pointer none])] h' → Q (ptr n 0) h') : Map_si_newNode.call #[ptr tb 0, .bool true] h Q := by
  refine Map_si_newNode.body _ _ _ _ ?_
  unfold Map_si_newNode.sh
  have s := St.start h
  refine s.r_alloc fun n h s => ?_
  refine r_nil ?_
  refine r_fld ?_
  refine s.r_loadB hi ?_
  refine r_nil ?_
  refine r_fld ?_
  refine St.r_store0 s 0 rfl (by simp) rfl ?_
  intro h s
  try simp only [List.set_cons_zero, List.set_cons_succ] at s
  refine r_not ?_
  refine r_if (fun e => absurd e (by decide)) (fun _ => ?_)
  unfold Map_si_newNode.j1
  exact H n h s
theorem newNode_inner {tb : Nat} {iso : Int} (hi : cl h tb 0 = some (.int .u64 iso)) (H : ∀ n kb h', St h [] [(n, 0, [.int .u64 iso, .int .i64 0, .slice none 0 0, ptr kb 0]), (kb, 0, [.slice none 0 0])] h' → Q (ptr n 0) h') : Map_si_newNode.call #[ptr tb 0, .bool false] h Q := by
  refine Map_si_newNode.body _ _ _ _ ?_
  unfold Map_si_newNode.sh
  have s := St.start h
  refine s.r_alloc fun n h s => ?_
  refine r_nil ?_
  refine r_fld ?_
  refine s.r_loadB hi ?_
  refine r_nil ?_
  refine r_fld ?_
  refine St.r_store0 s 0 rfl (by simp) rfl ?_
  intro h s
  try simp only [List.set_cons_zero, List.set_cons_succ] at s
  refine r_not ?_
  refine r_if (fun _ => ?_) (fun e => absurd e (by decide))
  refine s.r_alloc fun kb h s => ?_
  refine r_nil ?_
  refine r_fld ?_
  refine St.r_store0 s 1 rfl (by simp) rfl ?_; intro h s
  unfold Map_si_newNode.j1
  exact H n kb h (s.perm (by ((apply perm_rg; intro f; simp only [List.set_cons_zero, List.set_cons_succ, List.eraseIdx_cons_zero, List.eraseIdx_cons_succ, List.cons_append, List.nil_append, List.map_append, List.map_cons, List.map_nil, List.sum_append, List.sum_cons, List.sum_nil, List.map_flatMap, Nat.add_zero, Nat.zero_add]; ac_rfl))))

theorem updateCount_leaf {n b o len : Nat} {c1 c2 iv : Value} {xs sp : List Value} (s : St h0 Z ((n, 0, [c1, c2, iv, .pointer none]) :: E) h) (w : Own 2 iv len b o xs sp)
    (H : ∀ h', St h0 Z ((n, 0, [c1, .int .i64 len, iv, .pointer none]) :: E) h' → Q (.tuple #[]) h') : mapNode_si_updateCount.call #[ptr n 0] h Q := by
  refine mapNode_si_updateCount.body _ _ _ ?_
  unfold mapNode_si_updateCount.sh
  refine r_nil ?_
  refine r_fld ?_
  refine St.r_load0 s 0 rfl rfl ?_
  refine w.lenV ?_
  refine r_nil ?_
  refine r_fld ?_
  refine St.r_store0 s 0 rfl (by simp) rfl ?_
  intro h s
  try simp only [List.set_cons_zero, List.set_cons_succ] at s
  refine leaf_ok (a := none) (s.get (k := 0) (j := 3) rfl (by simp)) ?_
  refine r_not ?_
  refine r_if (fun e => absurd e (by decide)) (fun _ => ?_)
  exact H _ s
theorem updateCount_inner {n kb b o rb ro len : Nat} {c1 c2 iv kv : Value} {xs sp ksp : List Value} {ids : List Nat} {c : Nat → Int} (s : St h0 Z ((n, 0, [c1, c2, iv, ptr kb 0]) :: (kb, 0, [kv]) :: (rb, ro, (ids.map fun m => ptr m 0) ++ ksp) :: E) h)
    (w : Own 2 iv len b o xs sp) (wkid : Own 1 kv ids.length rb ro (ids.map fun m => ptr m 0) ksp) (hids : ids.length ≤ 4294967296)
    (hc : ∀ j (hj : j < ids.length), ∃ a1 a2 a3, (ids[j], 0, [a1, .int .i64 (c j), a2, a3]) ∈ E ++ Z) (hb : ∀ j, j ≤ ids.length → 0 ≤ (len : Int) + ((List.range j).map c).sum ∧ (len : Int) + ((List.range j).map c).sum ≤ 9223372036854775807)
    (H : ∀ h', St h0 Z ((n, 0, [c1, .int .i64 ((len : Int) + ((List.range ids.length).map c).sum), iv, ptr kb 0]) :: (kb, 0, [kv]) :: (rb, ro, (ids.map fun m => ptr m 0) ++ ksp) :: E) h' → Q (.tuple #[]) h') : mapNode_si_updateCount.call #[ptr n 0] h Q := by
  refine mapNode_si_updateCount.body _ _ _ ?_
  unfold mapNode_si_updateCount.sh
  refine r_nil ?_
  refine r_fld ?_
  refine St.r_load0 s 0 rfl rfl ?_
  refine w.lenV ?_
  refine r_nil ?_
  refine r_fld ?_
  refine St.r_store0 s 0 rfl (by simp) rfl ?_
  intro h s
  try simp only [List.set_cons_zero, List.set_cons_succ] at s
  refine leaf_ok (a := some ⟨kb, 0, none⟩) (s.get (k := 0) (j := 3) rfl (by simp)) ?_
  refine r_not ?_
  refine r_if (fun _ => ?_) (fun e => absurd e (by simp))
  refine loop_intro (fun t h => ∃ j : Nat, t = [.int .i64 j] ∧ j ≤ ids.length ∧ St h0 Z ((n, 0, [c1, .int .i64 ((len : Int) + ((List.range j).map c).sum), iv, ptr kb 0]) :: (kb, 0, [kv]) :: (rb, ro, (ids.map fun m => ptr m 0) ++ ksp) :: E) h)
    (fun t _ => ids.length - (Hp.iv (t.getD 0 undef)).toNat) ⟨0, rfl, by omega, by simpa using s⟩ ?_
  rintro t h ⟨j, rfl, hj, s⟩
  unfold mapNode_si_updateCount.l1.b
  refine r_nil ?_
  refine r_fld ?_
  refine St.r_load0 s 0 rfl rfl ?_
  refine r_nil ?_
  refine St.r_load0 s 1 rfl rfl ?_
  refine wkid.lenV ?_
  refine r_cmpI ?_
  refine r_if (fun hlt => ?_) (fun hge => ?_)
  · have hlt : j < ids.length := by simpa using hlt
    unfold mapNode_si_updateCount.j2
    refine r_nil ?_
    refine r_fld ?_
    refine St.r_load0 s 0 rfl rfl ?_
    refine r_nil ?_
    refine r_fld ?_
    refine St.r_load0 s 0 rfl rfl ?_
    refine r_nil ?_
    refine St.r_load0 s 1 rfl rfl ?_
    refine wkid.idx (n := j) rfl hlt ?_
    refine s.r_load1 2 rfl (v := ptr ids[j] 0) (by rw [Nat.mul_one, List.getElem?_append_left (by simpa using hlt), List.getElem?_map, List.getElem?_eq_getElem hlt]; rfl) ?_
    obtain ⟨a1, a2, a3, hm⟩ := hc j hlt
    refine r_nil ?_
    refine r_fld ?_
    refine s.r_loadM (xs := [a1, .int .i64 (c j), a2, a3]) (by simp only [List.cons_append, List.mem_cons]; exact .inr (.inr (.inr hm))) rfl ?_
    refine r_add (z := (len : Int) + ((List.range (j + 1)).map c).sum) ?_ ?_
    · have := hb (j + 1) hlt
      rw [List.range_succ, List.map_append, List.sum_append] at this ⊢
      simp only [List.map_cons, List.map_nil, List.sum_cons, List.sum_nil] at this ⊢
      rw [i64w (by omega) (by omega)]; omega
    · refine r_nil ?_
      refine r_fld ?_
      refine St.r_store0 s 0 rfl (by simp) rfl ?_
      intro h s
      try simp only [List.set_cons_zero, List.set_cons_succ] at s
      unfold mapNode_si_updateCount.j3
      refine r_add (z := ((j + 1 : Nat) : Int)) (by rw [i64w (by omega) (by omega)]; omega) ?_
      exact ⟨⟨j + 1, rfl, hlt, s⟩, by simp; omega⟩
  · have hge : j = ids.length := by simp at hge; omega
    subst hge
    exact H h s
end Go.Proofs.Ytkkappjbcgnacaa.Si
end
section
namespace Go.Proofs.Ytkkappjbcgnacaa.Si
open Go.Hp Go.Proofs.Ytkkappjbcgnacaa
set_option linter.unusedVariables false
set_option linter.unusedSimpArgs false
variable {h0 h : Heap} {Z E : List Rg} {Q : Value → Heap → Prop}

/-- A tree whose nodes are all the map's own, as they should be. -/
structure Gd (iso : Int) {k : Nat} (t : GT It k) : Prop where
  wf : t.Wf enc 2 iso
  cn : t.Cn
  mine : t.Mine
theorem Gd.kid {iso : Int} {k : Nat} {t : GT It (k + 1)} (g : Gd iso t) {c : GT It k} (hc : c ∈ t.2) : Gd iso c := ⟨(g.wf.2.2.2 c hc).1, g.cn.2 c hc, g.mine.2 c hc⟩
abbrev fp (m : Nat) : List Value := [ptr m 0]
theorem fpl (m : Nat) : (fp m).length = 1 := rfl
theorem mfp (l : List Nat) : (l.map fun m => ptr m 0) = l.flatMap fp := List.map_eq_flatMap
theorem GT.topA : ∀ {k : Nat} {t : GT It k}, ∃ a1 a2 a3, (t.id, 0, [a1, .int .i64 t.nd.cnt, a2, a3]) ∈ t.all enc
  | 0, d => ⟨_, _, _, List.mem_cons_self ..⟩
  | _ + 1, t => ⟨_, _, _, List.mem_append.2 (.inl (List.mem_cons_self ..))⟩
theorem r_div {k : IntKind} {x y z : Int} {K : Value → Prop} (hy : y ≠ 0) (hz : k.wrap (x.tdiv y) = z) (H : K (.int k z)) : divi (.int k x) (.int k y) K := ⟨k, x, y, rfl, rfl, hy, by rw [hz]; exact H⟩
theorem half {m : Nat} (hm : m ≤ 1048576) : IntKind.wrap .i64 ((m : Int).tdiv 2) = ((m / 2 : Nat) : Int) := by
  have : (m : Int).tdiv 2 = ((m / 2 : Nat) : Int) := (Int.ofNat_tdiv m 2).symm
  rw [this, i64w (by omega) (by omega)]

theorem updateCount_kids {k : Nat} {ts : List (GT It k)} {n kb b o rb ro len : Nat} {c1 c2 iv kv : Value} {xs sp ksp : List Value}
    (s : St h0 Z ((n, 0, [c1, c2, iv, ptr kb 0]) :: (kb, 0, [kv]) :: (rb, ro, (ts.map GT.id).flatMap fp ++ ksp) :: E) h)
    (w : Own 2 iv len b o xs sp) (wK : Own 1 kv (ts.map GT.id).length rb ro ((ts.map GT.id).flatMap fp) ksp) (hm : ∀ t ∈ ts, t.Cn) (hE : ∀ t ∈ ts, ∀ r ∈ t.all enc, r ∈ E)
    (hl : ts.length ≤ 1048576) (hsz : len + (ts.map fun t => t.pt.items.length).sum ≤ 4611686018427387904)
    (H : ∀ h', St h0 Z ((n, 0, [c1, .int .i64 ((len + (ts.map fun t => t.pt.items.length).sum : Nat) : Int), iv, ptr kb 0]) :: (kb, 0, [kv]) :: (rb, ro, (ts.map GT.id).flatMap fp ++ ksp) :: E) h' → Q (.tuple #[]) h') : mapNode_si_updateCount.call #[ptr n 0] h Q := by
  have hmm : (ts.map fun t => t.pt.items).map List.length = ts.map fun t => t.pt.items.length := by rw [List.map_map]; rfl
  have hsum : ∀ i, i ≤ ts.length → ((List.range i).map fun j => (ts.map fun t => t.nd.cnt)[j]?.getD 0).sum = (((ts.map fun t => t.pt.items.length).take i).sum : Nat) := fun i hi => by
    rw [sum_range _ i (by simpa using hi), ← List.map_take, GT.Cn.sum (fun t ht => hm t (List.mem_of_mem_take ht)), List.map_map, ← List.map_take]; rfl
  rw [← mfp] at s wK
  refine updateCount_inner (c := fun j => (ts.map fun t => t.nd.cnt)[j]?.getD 0) s w wK (by simp; omega) (fun i hi => ?_) (fun i hi => ?_) fun h s => ?_
  · have hi' : i < ts.length := by simpa using hi
    obtain ⟨a1, a2, a3, hmem⟩ := GT.topA (t := ts[i])
    refine ⟨a1, a2, a3, ?_⟩
    simp only [List.getElem_map, List.getElem?_map, List.getElem?_eq_getElem hi', Option.map_some, Option.getD_some]
    exact List.mem_append.2 (.inl (hE _ (List.getElem_mem hi') _ hmem))
  · rw [hsum i (by simpa using hi)]
    have := sum_take_le (ts.map fun t => t.pt.items.length) i
    omega
  · rw [show (ts.map GT.id).length = ts.length by simp, hsum _ (Nat.le_refl _), List.take_of_length_le (by simp)] at s
    rw [mfp] at s
    exact H h (by rw [Int.natCast_add]; exact s)

theorem nodeSplit_ok : ∀ {k : Nat} (t : GT It k) {h : Heap} {E : List Rg} {tb m lo : Nat} {iso mn : Int} {ctr : Option Addr}, (tb, 0, hd0 iso ctr) ∈ Z → (tb, 4, hd4 mn m) ∈ Z → 0 < m → m ≤ 1024 → t.pt.Fl m lo → t.pt.its.length = m → t.pt.items.length ≤ 4611686018427387904 → Gd iso t →
    St h0 Z (t.all enc ++ E) h → (∀ (l r : GT It k) md h', t.pt.its[m / 2]? = some md → l.pt = t.pt.lo (m / 2) → r.pt = t.pt.hi (m / 2) → l.id = t.id → Gd iso l → Gd iso r → St h0 Z (l.all enc ++ (r.all enc ++ E)) h' → Q (.tuple #[ptr r.id 0, .agg (enc md).toArray]) h') →
    Map_si_nodeSplit.call #[ptr tb 0, ptr t.id 0] h Q
  | 0, (d : Nd It), h, E, tb, m, lo, iso, mn, ctr, hT0, hT4, hm0, hm1, fl, hlen, hsz, g, s, H => by
    obtain ⟨own, n, is', cnt, its, iv, ib, io, isp, kb, kv, krb, kro, ksp⟩ := d
    have hi : ∀ {E h}, St h0 Z E h → cl h tb 0 = some (.int .u64 iso) := fun s => by have := s.getZ hT0 (j := 0) (by simp); simpa using this
    have hlen : its.length = m := hlen
    have w : Own 2 iv its.length ib io (its.flatMap enc) isp := g.wf.1
    have s : St h0 Z ((n, 0, [.int .u64 is', .int .i64 cnt, iv, .pointer none]) :: (ib, io, its.flatMap enc ++ isp) :: E) h := s
    have hiso : is' = iso := g.wf.2.1 g.mine
    subst hiso
    obtain ⟨md, hmd⟩ : ∃ md, its[m / 2]? = some md := ⟨its[m / 2]'(by omega), List.getElem?_eq_getElem (by omega)⟩
    show Map_si_nodeSplit.call #[ptr tb 0, ptr n 0] h Q
    refine Map_si_nodeSplit.body _ _ _ _ ?_
    unfold Map_si_nodeSplit.sh
    refine s.r_alloc fun t5 h s => ?_
    refine r_nil ?_
    refine r_fld ?_
    refine s.r_lz hT4 3 rfl rfl ?_
    refine r_div (by decide) (half (by omega)) ?_
    refine r_nil ?_
    refine r_fld ?_
    refine St.r_load0 s 1 rfl rfl ?_
    refine w.idx (n := m / 2) rfl (by omega) ?_
    refine s.r_loadF encl 2 rfl hmd ?_
    refine St.r_storeN0 s 0 rfl rfl (by simp) (enc1 _) ?_; intro h s
    refine leaf_ok (a := none) (s.get (k := 1) (j := 3) rfl (by simp)) ?_
    refine newNode_leaf (hi s) fun n' h s1 => ?_
    have s := s.join s1
    refine r_nil ?_
    refine r_fld ?_
    refine St.r_load0 s 2 rfl rfl ?_
    refine r_add (z := ((m / 2 + 1 : Nat) : Int)) (by rw [i64w (by omega) (by omega)]; omega) ?_
    refine w.slcLo encl (i := m / 2 + 1) rfl (by omega) fun vr wr => ?_
    refine r_nil ?_
    refine r_fld ?_
    refine St.r_store0 s 0 rfl (by simp) wr.one ?_; intro h s
    refine leaf_ok (a := none) (s.get (k := 2) (j := 3) rfl (by simp)) ?_
    refine r_not ?_
    refine r_if (fun e => absurd e (by decide)) (fun _ => ?_)
    unfold Map_si_nodeSplit.j1
    refine updateCount_leaf s wr fun h s => ?_
    refine r_nil ?_
    refine r_fld ?_
    refine St.r_load0 s 2 rfl rfl ?_
    refine r_nil ?_
    refine r_fld ?_
    refine s.r_lzN hT4 0 rfl (by simp) ?_
    refine w.idx (n := m / 2) rfl (by omega) ?_
    refine s.r_storeF (x := emp) encl 3 rfl (by omega) (enc1 _) fun h s => ?_
    refine r_nil ?_
    refine r_fld ?_
    refine St.r_load0 s 2 rfl rfl ?_
    refine w.slc3 encl (i := m / 2) rfl rfl (by omega) fun vl wl => ?_
    refine r_nil ?_
    refine r_fld ?_
    refine St.r_store0 s 2 rfl (by simp) wl.one ?_; intro h s
    refine leaf_ok (a := none) (s.get (k := 2) (j := 3) rfl (by simp)) ?_
    refine r_not ?_
    refine r_if (fun e => absurd e (by decide)) (fun _ => ?_)
    unfold Map_si_nodeSplit.j2
    refine updateCount_leaf (s.front 2 rfl) wl fun h s => ?_
    refine St.r_loadN0 s 2 rfl (by simp) ?_
    refine St.r_storeN0 s 2 rfl rfl (by simp) (enc1 _) ?_; intro h s
    refine St.r_loadN0 s 2 rfl (by simp) ?_
    have s : St h0 Z ((n, 0, [.int .u64 is', .int .i64 (its.take (m / 2)).length, vl, .pointer none]) :: (n', 0, [.int .u64 is', .int .i64 (its.drop (m / 2 + 1)).length, vr, .pointer none]) :: (t5, 0, enc md) :: (ib, io, (its.set (m / 2) emp).flatMap enc ++ isp) :: E) h := s
    have s := St.cut3 encl (x := emp) (i := m / 2) (s.front 3 rfl) (by rw [List.getElem?_set_self (by omega)])
    rw [List.take_set_of_le (Nat.le_refl _), List.drop_set_of_lt (by omega)] at s
    have hl1 : (its.take (m / 2)).length = m / 2 := by rw [List.length_take]; omega
    refine H (⟨true, n, is', (its.take (m / 2)).length, its.take (m / 2), vl, ib, io, [], 0, .pointer none, 0, 0, []⟩ : Nd It) (⟨true, n', is', (its.drop (m / 2 + 1)).length, its.drop (m / 2 + 1), vr, ib, io + (m / 2 + 1) * 2, isp, 0, .pointer none, 0, 0, []⟩ : Nd It) md h hmd rfl rfl rfl ⟨⟨wl, by simp⟩, rfl, rfl⟩ ⟨⟨wr, by simp⟩, rfl, rfl⟩ ?_
    exact (s.perm (E' := (ib, io + m / 2 * 2, enc emp) :: (t5, 0, enc md) :: (n, 0, [.int .u64 is', .int .i64 (its.take (m / 2)).length, vl, .pointer none]) :: (ib, io, (its.take (m / 2)).flatMap enc ++ []) :: (n', 0, [.int .u64 is', .int .i64 (its.drop (m / 2 + 1)).length, vr, .pointer none]) :: (ib, io + (m / 2 + 1) * 2, (its.drop (m / 2 + 1)).flatMap enc ++ isp) :: E) (by rw [List.append_nil]; ((apply perm_rg; intro f; simp only [List.set_cons_zero, List.set_cons_succ, List.eraseIdx_cons_zero, List.eraseIdx_cons_succ, List.cons_append, List.nil_append, List.map_append, List.map_cons, List.map_nil, List.sum_append, List.sum_cons, List.sum_nil, List.map_flatMap, Nat.add_zero, Nat.zero_add]; ac_rfl)))).drop 2
  | k + 1, t, h, E, tb, m, lo, iso, mn, ctr, hT0, hT4, hm0, hm1, fl, hlen, hsz, g, s, H => by
    obtain ⟨d, ts⟩ := t
    obtain ⟨own, n, is', cnt, its, iv, ib, io, isp, kb, kv, krb, kro, ksp⟩ := d
    have hi : ∀ {E h}, St h0 Z E h → cl h tb 0 = some (.int .u64 iso) := fun s => by have := s.getZ hT0 (j := 0) (by simp); simpa using this
    have hlen : its.length = m := hlen
    have w : Own 2 iv its.length ib io (its.flatMap enc) isp := g.wf.1.1
    have wK : Own 1 kv ts.length krb kro ((ts.map GT.id).map fun m => ptr m 0) ksp := g.wf.2.1
    have hkl : ts.length = its.length + 1 := g.wf.2.2.1
    have hidl : (ts.map GT.id).length = ts.length := List.length_map ..
    have hiso : is' = iso := g.wf.1.2.1 g.mine.1
    subst hiso
    rw [← hidl, mfp] at wK
    have s : St h0 Z ((n, 0, [.int .u64 is', .int .i64 cnt, iv, ptr kb 0]) :: (ib, io, its.flatMap enc ++ isp) :: (kb, 0, [kv]) :: (krb, kro, ((ts.map GT.id).map fun m => ptr m 0) ++ ksp) :: (ts.flatMap (GT.all enc) ++ E)) h := s
    rw [mfp] at s
    have hmem : ∀ t ∈ ts, ∀ r ∈ t.all enc, r ∈ ts.flatMap (GT.all enc) ++ E := fun t ht r hr => List.mem_append.2 (.inl (List.mem_flatMap.2 ⟨t, ht, hr⟩))
    have hsz' : its.length + (ts.map fun t => t.pt.items.length).sum ≤ 4611686018427387904 := by
      have h1 : (inter its ((ts.map GT.pt).map PT.items)).length = _ := inter_length _ _
      rw [List.map_map, List.map_map] at h1
      have h2 : (inter its ((ts.map GT.pt).map PT.items)).length ≤ 4611686018427387904 := hsz
      rw [List.map_map] at h2
      rw [h1] at h2; exact h2
    have hcn : ∀ t ∈ ts, t.Cn := fun t ht => g.cn.2 t ht
    have hsum : (ts.map fun t => t.pt.items.length).sum = ((ts.take (m / 2 + 1)).map fun t => t.pt.items.length).sum + ((ts.drop (m / 2 + 1)).map fun t => t.pt.items.length).sum := by
      rw [← List.sum_append, ← List.map_append, List.take_append_drop]
    obtain ⟨md, hmd⟩ : ∃ md, its[m / 2]? = some md := ⟨its[m / 2]'(by omega), List.getElem?_eq_getElem (by omega)⟩
    show Map_si_nodeSplit.call #[ptr tb 0, ptr n 0] h Q
    refine Map_si_nodeSplit.body _ _ _ _ ?_
    unfold Map_si_nodeSplit.sh
    refine s.r_alloc fun t5 h s => ?_
    refine r_nil ?_
    refine r_fld ?_
    refine s.r_lz hT4 3 rfl rfl ?_
    refine r_div (by decide) (half (by omega)) ?_
    refine r_nil ?_
    refine r_fld ?_
    refine St.r_load0 s 1 rfl rfl ?_
    refine w.idx (n := m / 2) rfl (by omega) ?_
    refine s.r_loadF encl 2 rfl hmd ?_
    refine St.r_storeN0 s 0 rfl rfl (by simp) (enc1 _) ?_; intro h s
    refine leaf_ok (a := some ⟨kb, 0, none⟩) (s.get (k := 1) (j := 3) rfl (by simp)) ?_
    refine newNode_inner (hi s) fun n' kb' h s1 => ?_
    have s := s.join s1
    refine r_nil ?_
    refine r_fld ?_
    refine St.r_load0 s 3 rfl rfl ?_
    refine r_add (z := ((m / 2 + 1 : Nat) : Int)) (by rw [i64w (by omega) (by omega)]; omega) ?_
    refine w.slcLo encl (i := m / 2 + 1) rfl (by omega) fun vr wr => ?_
    refine r_nil ?_
    refine r_fld ?_
    refine St.r_store0 s 0 rfl (by simp) wr.one ?_; intro h s
    refine leaf_ok (a := some ⟨kb, 0, none⟩) (s.get (k := 3) (j := 3) rfl (by simp)) ?_
    refine r_not ?_
    refine r_if (fun _ => ?_) (fun e => absurd e (by simp))
    refine r_nil ?_
    refine r_fld ?_
    refine St.r_load0 s 0 rfl rfl ?_
    refine r_nil ?_
    refine r_fld ?_
    refine St.r_load0 s 3 rfl rfl ?_
    refine r_nil ?_
    refine St.r_load0 s 5 rfl rfl ?_
    refine r_add (z := ((m / 2 + 1 : Nat) : Int)) (by rw [i64w (by omega) (by omega)]; omega) ?_
    refine wK.slcLo fpl (i := m / 2 + 1) rfl (by omega) fun vkr wkr => ?_
    refine r_nil ?_
    refine St.r_store0 s 1 rfl (by simp) wkr.one ?_; intro h s
    unfold Map_si_nodeSplit.j1
    have ecut : (ts.map GT.id).flatMap fp ++ ksp = ((ts.take (m / 2 + 1)).map GT.id).flatMap fp ++ (((ts.drop (m / 2 + 1)).map GT.id).flatMap fp ++ ksp) := by
      rw [← List.append_assoc, ← List.flatMap_append, ← List.map_append, List.take_append_drop]
    have s := s.front 6 rfl
    rw [ecut] at s
    have s := s.cut
    rw [flat_len fpl, List.length_map, List.length_take, Nat.min_eq_left (show m / 2 + 1 ≤ ts.length by omega)] at s
    rw [← List.map_drop] at wkr
    refine updateCount_kids (ts := ts.drop (m / 2 + 1)) (s.perm (E' := (n', 0, _) :: (kb', 0, _) :: (krb, kro + (m / 2 + 1) * 1, ((ts.drop (m / 2 + 1)).map GT.id).flatMap fp ++ ksp) :: (krb, kro, ((ts.take (m / 2 + 1)).map GT.id).flatMap fp) :: (t5, 0, enc md) :: (n, 0, [.int .u64 is', .int .i64 cnt, iv, ptr kb 0]) :: (ib, io, its.flatMap enc ++ isp) :: (kb, 0, [kv]) :: (ts.flatMap (GT.all enc) ++ E)) (by ((apply perm_rg; intro f; simp only [List.set_cons_zero, List.set_cons_succ, List.eraseIdx_cons_zero, List.eraseIdx_cons_succ, List.cons_append, List.nil_append, List.map_append, List.map_cons, List.map_nil, List.sum_append, List.sum_cons, List.sum_nil, List.map_flatMap, Nat.add_zero, Nat.zero_add]; ac_rfl)))) wr wkr (fun t ht => hcn t (List.mem_of_mem_drop ht))
      (fun t ht r hr => by have := hmem t (List.mem_of_mem_drop ht) r hr; simp only [List.mem_cons]; exact .inr (.inr (.inr (.inr (.inr this))))) (by rw [List.length_drop]; omega) (by rw [List.length_drop]; omega) fun h s => ?_
    refine r_nil ?_
    refine r_fld ?_
    refine St.r_load0 s 5 rfl rfl ?_
    refine r_nil ?_
    refine r_fld ?_
    refine s.r_lzN hT4 0 rfl (by simp) ?_
    refine w.idx (n := m / 2) rfl (by omega) ?_
    refine s.r_storeF (x := emp) encl 6 rfl (by omega) (enc1 _) fun h s => ?_
    refine r_nil ?_
    refine r_fld ?_
    refine St.r_load0 s 5 rfl rfl ?_
    refine w.slc3 encl (i := m / 2) rfl rfl (by omega) fun vl wl => ?_
    refine r_nil ?_
    refine r_fld ?_
    refine St.r_store0 s 5 rfl (by simp) wl.one ?_; intro h s
    refine leaf_ok (a := some ⟨kb, 0, none⟩) (s.get (k := 5) (j := 3) rfl (by simp)) ?_
    refine r_not ?_
    refine r_if (fun _ => ?_) (fun e => absurd e (by simp))
    refine r_nil ?_
    refine r_fld ?_
    refine St.r_load0 s 5 rfl rfl ?_
    refine r_nil ?_
    refine r_fld ?_
    refine St.r_load0 s 5 rfl rfl ?_
    refine r_nil ?_
    refine St.r_load0 s 7 rfl rfl ?_
    refine r_add (z := ((m / 2 + 1 : Nat) : Int)) (by rw [i64w (by omega) (by omega)]; omega) ?_
    refine r_add (z := ((m / 2 + 1 : Nat) : Int)) (by rw [i64w (by omega) (by omega)]; omega) ?_
    refine wK.slc3 fpl (i := m / 2 + 1) rfl rfl (by omega) fun vkl wkl => ?_
    refine r_nil ?_
    refine St.r_store0 s 7 rfl (by simp) wkl.one ?_; intro h s
    unfold Map_si_nodeSplit.j2
    rw [← List.map_take] at wkl
    have s : St h0 Z ((n, 0, [.int .u64 is', .int .i64 cnt, vl, ptr kb 0]) :: (kb, 0, [vkl]) :: (krb, kro, ((ts.take (m / 2 + 1)).map GT.id).flatMap fp ++ []) :: (n', 0, [.int .u64 is', .int .i64 (((its.drop (m / 2 + 1)).length + ((ts.drop (m / 2 + 1)).map fun t => t.pt.items.length).sum : Nat) : Int), vr, ptr kb' 0]) :: (kb', 0, [vkr]) :: (krb, kro + (m / 2 + 1) * 1, ((ts.drop (m / 2 + 1)).map GT.id).flatMap fp ++ ksp) :: (t5, 0, enc md) :: (ib, io, (its.set (m / 2) emp).flatMap enc ++ isp) :: (ts.flatMap (GT.all enc) ++ E)) h := s.perm (by rw [List.append_nil]; ((apply perm_rg; intro f; simp only [List.set_cons_zero, List.set_cons_succ, List.eraseIdx_cons_zero, List.eraseIdx_cons_succ, List.cons_append, List.nil_append, List.map_append, List.map_cons, List.map_nil, List.sum_append, List.sum_cons, List.sum_nil, List.map_flatMap, Nat.add_zero, Nat.zero_add]; ac_rfl)))
    refine updateCount_kids (ts := ts.take (m / 2 + 1)) s wl wkl (fun t ht => hcn t (List.mem_of_mem_take ht))
      (fun t ht r hr => by have := hmem t (List.mem_of_mem_take ht) r hr; simp only [List.mem_cons]; exact .inr (.inr (.inr (.inr (.inr this))))) (by rw [List.length_take]; omega) (by rw [List.length_take]; omega) fun h s => ?_
    refine St.r_loadN0 s 6 rfl (by simp) ?_
    refine St.r_storeN0 s 6 rfl rfl (by simp) (enc1 _) ?_; intro h s
    refine St.r_loadN0 s 6 rfl (by simp) ?_
    have s := St.cut3 encl (x := emp) (i := m / 2) (s.front 7 rfl) (by rw [List.getElem?_set_self (by omega)])
    rw [List.take_set_of_le (Nat.le_refl _), List.drop_set_of_lt (by omega)] at s
    have cnt' : ∀ (a : List It) (b : List (GT It k)), (inter a ((b.map GT.pt).map PT.items)).length = a.length + (b.map fun t => t.pt.items.length).sum := fun a b => by
      rw [inter_length, List.map_map, List.map_map]; rfl
    refine H ((⟨true, n, is', (((its.take (m / 2)).length + ((ts.take (m / 2 + 1)).map fun t => t.pt.items.length).sum : Nat) : Int), its.take (m / 2), vl, ib, io, [], kb, vkl, krb, kro, []⟩ : Nd It), ts.take (m / 2 + 1)) ((⟨true, n', is', (((its.drop (m / 2 + 1)).length + ((ts.drop (m / 2 + 1)).map fun t => t.pt.items.length).sum : Nat) : Int), its.drop (m / 2 + 1), vr, ib, io + (m / 2 + 1) * 2, isp, kb', vkr, krb, kro + (m / 2 + 1) * 1, ksp⟩ : Nd It), ts.drop (m / 2 + 1)) md h hmd ?_ ?_ rfl ?_ ?_ ?_
    · show (its.take (m / 2), (ts.take (m / 2 + 1)).map GT.pt) = (its.take (m / 2), (ts.map GT.pt).take (m / 2 + 1)); rw [List.map_take]
    · show (its.drop (m / 2 + 1), (ts.drop (m / 2 + 1)).map GT.pt) = (its.drop (m / 2 + 1), (ts.map GT.pt).drop (m / 2 + 1)); rw [List.map_drop]
    · refine ⟨⟨⟨wl, by simp⟩, ?_, ?_, fun c hc => ⟨(g.wf.2.2.2 c (List.mem_of_mem_take hc)).1, fun e => by simp at e⟩⟩, ⟨?_, fun c hc => g.cn.2 c (List.mem_of_mem_take hc)⟩, ⟨rfl, fun c hc => g.mine.2 c (List.mem_of_mem_take hc)⟩⟩
      · rw [mfp]; rw [List.length_map] at wkl; exact wkl
      · show (ts.take (m / 2 + 1)).length = (its.take (m / 2)).length + 1; rw [List.length_take, List.length_take]; omega
      · exact congrArg Int.ofNat (cnt' _ _).symm
    · refine ⟨⟨⟨wr, by simp⟩, ?_, ?_, fun c hc => ⟨(g.wf.2.2.2 c (List.mem_of_mem_drop hc)).1, fun e => by simp at e⟩⟩, ⟨?_, fun c hc => g.cn.2 c (List.mem_of_mem_drop hc)⟩, ⟨rfl, fun c hc => g.mine.2 c (List.mem_of_mem_drop hc)⟩⟩
      · rw [mfp]; rw [List.length_map] at wkr; exact wkr
      · show (ts.drop (m / 2 + 1)).length = (its.drop (m / 2 + 1)).length + 1; rw [List.length_drop, List.length_drop]; omega
      · exact congrArg Int.ofNat (cnt' _ _).symm
    · have ef : ts.flatMap (GT.all enc) = (ts.take (m / 2 + 1)).flatMap (GT.all enc) ++ (ts.drop (m / 2 + 1)).flatMap (GT.all enc) := by rw [← List.flatMap_append, List.take_append_drop]
      have s := (s.perm (E' := (ib, io + m / 2 * 2, enc emp) :: (t5, 0, enc md) :: (((n, 0, [.int .u64 is', .int .i64 (((its.take (m / 2)).length + ((ts.take (m / 2 + 1)).map fun t => t.pt.items.length).sum : Nat) : Int), vl, ptr kb 0]) :: (ib, io, (its.take (m / 2)).flatMap enc ++ []) :: (kb, 0, [vkl]) :: (krb, kro, ((ts.take (m / 2 + 1)).map GT.id).flatMap fp ++ []) :: (ts.take (m / 2 + 1)).flatMap (GT.all enc)) ++
        (((n', 0, [.int .u64 is', .int .i64 (((its.drop (m / 2 + 1)).length + ((ts.drop (m / 2 + 1)).map fun t => t.pt.items.length).sum : Nat) : Int), vr, ptr kb' 0]) :: (ib, io + (m / 2 + 1) * 2, (its.drop (m / 2 + 1)).flatMap enc ++ isp) :: (kb', 0, [vkr]) :: (krb, kro + (m / 2 + 1) * 1, ((ts.drop (m / 2 + 1)).map GT.id).flatMap fp ++ ksp) :: (ts.drop (m / 2 + 1)).flatMap (GT.all enc)) ++ E))) (by rw [List.append_nil, List.append_nil, ef]; ((apply perm_rg; intro f; simp only [List.set_cons_zero, List.set_cons_succ, List.eraseIdx_cons_zero, List.eraseIdx_cons_succ, List.cons_append, List.nil_append, List.map_append, List.map_cons, List.map_nil, List.sum_append, List.sum_cons, List.sum_nil, List.map_flatMap, Nat.add_zero, Nat.zero_add]; ac_rfl)))).drop 2
      rw [← mfp, ← mfp] at s
      exact s
end Go.Proofs.Ytkkappjbcgnacaa.Si
end
section
namespace Go.Proofs.Ytkkappjbcgnacaa.Si
open Go.Hp Go.Proofs.Ytkkappjbcgnacaa
set_option linter.unusedVariables false
set_option linter.unusedSimpArgs false
variable {h0 h : Heap} {Z E : List Rg} {Q : Value → Heap → Prop}

/-- The value that was there. -/
abbrev old (r : Option It) : Value := vv (r.getD emp).2
theorem snoc_enc (l : List It) (e : It) : l.flatMap enc ++ enc e = (l ++ [e]).flatMap enc := by rw [List.flatMap_append, List.flatMap_singleton]
theorem Gd.leaf {iso : Int} {d : Nd It} (w : Own 2 d.iv d.its.length d.ib d.io (d.its.flatMap enc) d.isp) (ho : d.own = true) (hi : d.iso = iso) (hc : d.cnt = d.its.length) : Gd iso (k := 0) d := ⟨⟨w, by simp [ho, hi]⟩, hc, ho⟩
theorem Gd.inner {iso : Int} {k : Nat} {d : Nd It} {ts : List (GT It k)} (w : Own 2 d.iv d.its.length d.ib d.io (d.its.flatMap enc) d.isp) (ho : d.own = true) (hi : d.iso = iso) (wK : Own 1 d.kv ts.length d.krb d.kro ((ts.map GT.id).flatMap fp) d.ksp)
    (hl : ts.length = d.its.length + 1) (hk : ∀ c ∈ ts, Gd iso c) (hc : d.cnt = (GT.pt (h := k + 1) (d, ts)).items.length) : Gd iso (k := k + 1) (d, ts) :=
  ⟨⟨⟨w, by simp [ho, hi]⟩, by rw [mfp]; exact wK, hl, fun c hc => ⟨(hk c hc).wf, fun e => by rw [ho] at e; cases e⟩⟩, ⟨hc, fun c hc => (hk c hc).cn⟩, ⟨ho, fun c hc => (hk c hc).mine⟩⟩

theorem set_head {n ib io pb po tb : Nat} {iso cnt : Int} {ctr : Option Addr} {iv kp : Value} {its : List It} {isp : List Value} {x : It} (hT0 : (tb, 0, hd0 iso ctr) ∈ Z) (ha : Asc lt its) (hb : its.length ≤ 1024)
    (w : Own 2 iv its.length ib io (its.flatMap enc) isp) (s : St h0 Z ((pb, po, [ptr n 0]) :: (n, 0, [.int .u64 iso, .int .i64 cnt, iv, kp]) :: (ib, io, its.flatMap enc ++ isp) :: E) h)
    (H1 : ∀ y h', lget lt its x = some y → St h0 Z ((pb, po, [ptr n 0]) :: (n, 0, [.int .u64 iso, .int .i64 cnt, iv, kp]) :: (ib, io, (lput lt its x).flatMap enc ++ isp) :: E) h' → Q (.tuple #[vv y.2, .bool true, .bool false]) h')
    (H2 : ∀ t5 t9 h', lget lt its x = none → St h0 Z ((t9, 0, [ptr n 0]) :: (t5, 0, enc x) :: (pb, po, [ptr n 0]) :: (n, 0, [.int .u64 iso, .int .i64 cnt, iv, kp]) :: (ib, io, its.flatMap enc ++ isp) :: E) h' → Map_si_nodeSet.j1 (ptr tb 0) (ptr t5 0) (ptr t9 0) (.int .i64 (pos lt its x)) h' Q) :
    Map_si_nodeSet.call #[ptr tb 0, ptr pb po, .agg (enc x).toArray] h Q := by
  refine Map_si_nodeSet.body _ _ _ _ _ ?_
  unfold Map_si_nodeSet.sh
  refine St.r_box (cs := enc x) s fun t5 h s => ?_
  refine isoLoad_ok (n := n) (iso := iso) (by have := s.getZ hT0 (j := 0) (by simp); simpa using this) (by have := s.get (k := 1) (j := 0) rfl (by simp); simpa using this) (fun _ => by have := s.get (k := 2) (j := 0) rfl (by simp); simpa using this) ?_
  refine s.r_alloc fun t9 h s => ?_
  refine St.r_store0 s 0 rfl (by simp) rfl ?_
  intro h s
  try simp only [List.set_cons_zero, List.set_cons_succ] at s
  refine St.r_load0 s 0 rfl rfl ?_
  refine r_fld ?_
  refine St.r_load0 s 1 rfl rfl ?_
  refine search_ok (x := x) ha (by omega) (by have := s.get (k := 3) (j := 2) rfl (by simp); simpa using this) (w.rdl s 4 rfl) ?_
  refine r_ext rfl ?_
  refine r_ext rfl ?_
  refine r_if (fun hf => ?_) (fun hn => ?_)
  · obtain ⟨y, hy⟩ := Option.isSome_iff_exists.1 hf
    obtain ⟨hp, hyy, _⟩ := lget_some hy
    have hy2 : its[pos lt its x]? = some y := by rw [List.getElem?_eq_getElem hp, hyy]
    refine St.r_load0 s 0 rfl rfl ?_
    refine r_nil ?_
    refine r_fld ?_
    refine St.r_load0 s 3 rfl rfl ?_
    refine w.idx (n := pos lt its x) rfl hp ?_
    refine r_fld ?_
    refine s.r_load1F encl (r := 0) 4 rfl hy2 rfl ?_
    refine St.r_load0 s 0 rfl rfl ?_
    refine r_nil ?_
    refine r_fld ?_
    refine St.r_load0 s 3 rfl rfl ?_
    refine St.r_loadN0 s 1 rfl (by simp) ?_
    refine w.idx (n := pos lt its x) rfl hp ?_
    refine s.r_storeF (x := x) encl 4 rfl hp (enc1 _) fun h s => ?_
    rw [← lput_found hy] at s
    exact H1 y h hy (s.drop 2)
  · have hn : lget lt its x = none := by cases e : lget lt its x with
      | none => rfl
      | some y => rw [e] at hn; cases hn
    exact H2 t5 t9 h hn s

/-- An item between the items of a node. -/
theorem set_leaf {n ib io i t5 t9 tb : Nat} {cnt mn mx : Int} {c1 iv kp : Value} {its : List It} {isp : List Value} {x : It} (htb : h0.size ≤ tb) (hT4 : (tb, 4, hd4 mn mx) ∈ Z) (hl : its.length ≤ 1024) (hi : i ≤ its.length) (hc0 : 0 ≤ cnt) (hc : cnt ≤ 4611686018427387904)
    (w : Own 2 iv its.length ib io (its.flatMap enc) isp) (s : St h0 Z ((t9, 0, [ptr n 0]) :: (t5, 0, enc x) :: (n, 0, [c1, .int .i64 cnt, iv, kp]) :: (ib, io, its.flatMap enc ++ isp) :: E) h)
    (H : ∀ iv' ib' io' isp' h', Own 2 iv' (ins its i x).length ib' io' ((ins its i x).flatMap enc) isp' → St h0 Z ((n, 0, [c1, .int .i64 (cnt + 1), iv', kp]) :: (ib', io', (ins its i x).flatMap enc ++ isp') :: E) h' → Q (.tuple #[vv emp.2, .bool false, .bool false]) h') :
    Map_si_nodeSet.j6 (ptr tb 0) (ptr t5 0) (ptr t9 0) (.int .i64 i) h Q := by
  unfold Map_si_nodeSet.j6
  refine St.r_load0 s 0 rfl rfl ?_
  refine St.r_load0 s 0 rfl rfl ?_
  refine r_nil ?_
  refine r_fld ?_
  refine St.r_load0 s 2 rfl rfl ?_
  refine r_nil ?_
  refine r_fld ?_
  refine s.r_lzE hT4 0 (enc emp) rfl (by simp) rfl ?_
  refine St.r_mkSl (sz := 2) (cs := enc emp) s (by ((simp only [fillV, fill1, Value.cells, zeros_succ, zeros_zero, List.size_toArray, List.length_cons, List.length_nil, List.length_append, List.take_succ_cons, List.take_zero, List.take_nil, List.drop_succ_cons, List.drop_zero, List.drop_nil, List.cons_append, List.nil_append, List.append_nil, Nat.reduceAdd, Nat.reduceMul, Nat.reduceLeDiff, Nat.reduceEqDiff, and_self, and_true, true_and, if_true, Nat.le_refl, Nat.zero_add, Nat.add_zero, Nat.zero_mul, reduceIte, if_false] <;> rfl))) rfl fun q h s w1 => ?_
  refine And.intro (by exact St.r_still0 s 1 rfl rfl) ?_
  refine And.intro (by exact St.r_still0 s 1 rfl rfl) ?_
  refine And.intro (by exact St.r_still0 s 3 rfl rfl) ?_
  refine St.r_app s 4 (sz := 2) (n := 1) (new := enc emp) rfl w rfl (w1.rdl s 0 rfl) (enc1 _) (by omega) (by omega) fun v' b' o' sp' h s w' => ?_
  rw [snoc_enc] at s w'
  have w' : Own 2 v' (its ++ [emp]).length b' o' ((its ++ [emp]).flatMap enc) sp' := by rw [List.length_append]; exact w'
  refine And.intro (by exact St.r_still0 s 1 rfl rfl) ?_
  refine r_nil ?_
  refine r_fld ?_
  refine St.r_store0 s 3 rfl (by simp) w'.one ?_; intro h s
  refine St.r_load0 s 1 rfl rfl ?_
  refine r_nil ?_
  refine r_fld ?_
  refine St.r_load0 s 3 rfl rfl ?_
  refine r_add (z := ((i + 1 : Nat) : Int)) (by rw [i64w (by omega) (by omega)]; omega) ?_
  refine w'.slcLo encl (i := i + 1) rfl (by simp; omega) fun d wd => ?_
  refine St.r_load0 s 1 rfl rfl ?_
  refine r_nil ?_
  refine r_fld ?_
  refine St.r_load0 s 3 rfl rfl ?_
  refine (w'.rdl s 4 rfl).slcLo encl (i := i) rfl (by simp; omega) fun src rs => ?_
  refine s.r_cpyF encl 4 (L := its ++ [emp]) (M := (its ++ [emp]).drop i) rfl wd (by simp; omega) rs rfl (fun y _ => enc1 y) fun h s => ?_
  refine St.r_load0 s 1 rfl rfl ?_
  refine r_nil ?_
  refine r_fld ?_
  refine St.r_load0 s 3 rfl rfl ?_
  refine St.r_loadN0 s 2 rfl (by simp) ?_
  refine w'.idx (n := i) rfl (by simp; omega) ?_
  refine s.r_storeF (x := x) encl 4 rfl (by simp; omega) (enc1 _) fun h s => ?_
  rw [List.set_set, ins_steps its emp x hi] at s
  refine St.r_load0 s 1 rfl rfl ?_
  refine r_nil ?_
  refine r_fld ?_
  refine St.r_load0 s 3 rfl rfl ?_
  refine r_add (z := cnt + 1) (by rw [i64w (by omega) (by omega)]) ?_
  refine r_nil ?_
  refine r_fld ?_
  refine St.r_store0 s 3 rfl (by simp) rfl ?_; intro h s
  refine r_nil ?_
  refine r_fld ?_
  refine r_fld ?_
  refine s.r_lz hT4 0 rfl rfl ?_
  refine H v' b' o' sp' h ?_ (s.drop 3)
  have e := ins_length (x := x) hi
  rw [show (ins its i x).length = (its ++ [emp]).length by rw [e]; simp]
  exact w'.cong (by rw [flat_len encl, flat_len encl, e]; simp)

/-- Setting below a node of height k, as told by the plain tree. -/
def SetOk (h0 : Heap) (Z : List Rg) (tb m : Nat) (iso : Int) (x : It) (k : Nat) : Prop :=
  ∀ (t : GT It k) {h : Heap} {E : List Rg} {Q : Value → Heap → Prop} {pb po lo : Nat}, t.pt.Fl m lo → Asc lt t.pt.items → t.pt.items.length ≤ 4611686018427387903 → Gd iso t → St h0 Z ((pb, po, [ptr t.id 0]) :: (t.all enc ++ E)) h →
    (∀ (t' : GT It k) h', t'.pt = (if t.pt.splits lt m x then t.pt else t.pt.set lt m x) → t'.id = t.id → Gd iso t' → St h0 Z ((pb, po, [ptr t.id 0]) :: (t'.all enc ++ E)) h' →
      Q (.tuple #[old (t.pt.get lt x), .bool (t.pt.get lt x).isSome, .bool (t.pt.splits lt m x)]) h') → Map_si_nodeSet.call #[ptr tb 0, ptr pb po, .agg (enc x).toArray] h Q

theorem SetOk.zero {tb m : Nat} {iso mn : Int} {ctr : Option Addr} {x : It} (htb : h0.size ≤ tb) (hT0 : (tb, 0, hd0 iso ctr) ∈ Z) (hT4 : (tb, 4, hd4 mn m) ∈ Z) (hm1 : m ≤ 1024) : SetOk h0 Z tb m iso x 0 := by
  intro d h E Q pb po lo fl ha hsz g s H
  obtain ⟨own, n, is', cnt, its, iv, ib, io, isp, kb, kv, krb, kro, ksp⟩ := d
  have w : Own 2 iv its.length ib io (its.flatMap enc) isp := g.wf.1
  have hlen : its.length ≤ m := fl.2
  have hcn : cnt = its.length := g.cn
  have ho : own = true := g.mine
  have hiso : is' = iso := g.wf.2.1 ho
  subst hiso; subst ho
  have s : St h0 Z ((pb, po, [ptr n 0]) :: (n, 0, [.int .u64 is', .int .i64 cnt, iv, .pointer none]) :: (ib, io, its.flatMap enc ++ isp) :: E) h := s
  have ha : Asc lt its := ha
  refine set_head hT0 ha (by omega) w s (fun y h' hy s => ?_) fun t5 t9 h' hn s => ?_
  · have hns : PT.splits lt m (h := 0) its x = false := by rw [PT.splits_leaf, hy]; rfl
    have hg : PT.get lt (h := 0) its x = some y := hy
    have hln : (lput lt its x).length = its.length := by rw [lput_length, hy]; rfl
    have := H (⟨true, n, is', cnt, lput lt its x, iv, ib, io, isp, kb, kv, krb, kro, ksp⟩ : Nd It) h' (by show _ = if PT.splits lt m (h := 0) its x = true then _ else _; rw [hns]; rfl) rfl
      (Gd.leaf (by show Own 2 iv (lput lt its x).length ib io ((lput lt its x).flatMap enc) isp; rw [hln]; exact w.cong (by rw [flat_len encl, flat_len encl, hln])) rfl rfl (by show cnt = (lput lt its x).length; rw [hln]; exact hcn)) s
    change Q (.tuple #[old (PT.get lt (h := 0) its x), .bool (PT.get lt (h := 0) its x).isSome, .bool (PT.splits lt m (h := 0) its x)]) h' at this
    rw [hns, hg] at this
    exact this
  · unfold Map_si_nodeSet.j1
    have hg : PT.get lt (h := 0) its x = none := hn
    refine St.r_load0 s 0 rfl rfl ?_
    refine leaf_ok (a := none) (s.get (k := 3) (j := 3) rfl (by simp)) ?_
    refine r_if (fun _ => ?_) (fun e => absurd e (by simp))
    refine St.r_load0 s 0 rfl rfl ?_
    refine r_nil ?_
    refine r_fld ?_
    refine St.r_load0 s 3 rfl rfl ?_
    refine w.lenV ?_
    refine r_nil ?_
    refine r_fld ?_
    refine s.r_lz hT4 3 rfl rfl ?_
    refine r_cmpI ?_
    refine r_if (fun hfull => ?_) (fun hroom => ?_)
    · have hfull : its.length = m := Int.ofNat_inj.1 (by simpa using hfull)
      have hsp : PT.splits lt m (h := 0) its x = true := by rw [PT.splits_leaf, hn]; simpa using hfull
      refine r_nil ?_
      refine r_fld ?_
      refine r_fld ?_
      refine s.r_lz hT4 0 rfl rfl ?_
      have := H (⟨true, n, is', cnt, its, iv, ib, io, isp, kb, kv, krb, kro, ksp⟩ : Nd It) h' (by show _ = if PT.splits lt m (h := 0) its x = true then _ else _; rw [hsp]; rfl) rfl g (s.drop 2)
      change Q (.tuple #[old (PT.get lt (h := 0) its x), .bool (PT.get lt (h := 0) its x).isSome, .bool (PT.splits lt m (h := 0) its x)]) h' at this
      rw [hsp, hg] at this
      exact this
    · have hroom : its.length ≠ m := fun e => by rw [e] at hroom; simp at hroom
      have hsp : PT.splits lt m (h := 0) its x = false := by rw [PT.splits_leaf, hn]; simpa using hroom
      have hp := pos_le (lt := lt) its x
      refine set_leaf (n := n)  (t5 := t5) (t9 := t9) (x := x) (c1 := .int .u64 is') (kp := .pointer none) (cnt := cnt) (its := its) (E := (pb, po, [ptr n 0]) :: E) htb hT4 (by omega) hp (by omega) (by omega) w (s.perm (by ((apply perm_rg; intro f; simp only [List.set_cons_zero, List.set_cons_succ, List.eraseIdx_cons_zero, List.eraseIdx_cons_succ, List.cons_append, List.nil_append, List.map_append, List.map_cons, List.map_nil, List.sum_append, List.sum_cons, List.sum_nil, List.map_flatMap, Nat.add_zero, Nat.zero_add]; ac_rfl)))) fun iv' ib' io' isp' h' w' s => ?_
      rw [← lput_ins hn] at w' s
      have hln : (lput lt its x).length = its.length + 1 := by rw [lput_length, hn]; rfl
      have := H (⟨true, n, is', cnt + 1, lput lt its x, iv', ib', io', isp', kb, kv, krb, kro, ksp⟩ : Nd It) h' (by show _ = if PT.splits lt m (h := 0) its x = true then _ else _; rw [hsp]; rfl) rfl
        (Gd.leaf w' rfl rfl (by show cnt + 1 = (lput lt its x).length; omega)) (s.front 2 rfl)
      change Q (.tuple #[old (PT.get lt (h := 0) its x), .bool (PT.get lt (h := 0) its x).isSome, .bool (PT.splits lt m (h := 0) its x)]) h' at this
      rw [hsp, hg] at this
      exact this
end Go.Proofs.Ytkkappjbcgnacaa.Si
end
section
namespace Go.Proofs.Ytkkappjbcgnacaa.Si
open Go.Hp Go.Proofs.Ytkkappjbcgnacaa
set_option linter.unusedVariables false
set_option linter.unusedSimpArgs false
variable {h0 h : Heap} {Z E : List Rg} {Q : Value → Heap → Prop}

theorem flat_at3 {β : Type} (f : β → List Rg) {ts : List β} {i : Nat} {c : β} (hc : ts[i]? = some c) : ts.flatMap f = (ts.take i).flatMap f ++ (f c ++ (ts.drop (i + 1)).flatMap f) := by
  conv => lhs; rw [take_at hc, List.flatMap_append, List.flatMap_cons]
theorem set_ids {k : Nat} {ts : List (GT It k)} {i : Nat} {c c' : GT It k} (hc : ts[i]? = some c) (he : c'.id = c.id) : (ts.set i c').map GT.id = ts.map GT.id := by
  obtain ⟨hi, rfl⟩ := List.getElem?_eq_some_iff.1 hc
  rw [List.map_set, he]
  apply List.ext_getElem?
  intro j
  rw [List.getElem?_set]
  split
  · rename_i e; subst e
    simp [hi]
  · rfl
/-- A call below a kid: the kid's cell and the kid's ranges are lent. -/
theorem lend_kid {k : Nat} {ts : List (GT It k)} {i kb krb kro : Nat} {kv : Value} {ksp : List Value} {A : List Rg} {c : GT It k} (hc : ts[i]? = some c)
    (s : St h0 Z (A ++ ((krb, kro, (ts.map GT.id).flatMap fp ++ ksp) :: (ts.flatMap (GT.all enc) ++ E))) h) :
    ∃ E', St h0 Z ((krb, kro + i * 1, [ptr c.id 0]) :: (c.all enc ++ E')) h ∧ ∀ (c' : GT It k) h', c'.id = c.id → St h0 Z ((krb, kro + i * 1, [ptr c.id 0]) :: (c'.all enc ++ E')) h' →
      St h0 Z (A ++ ((krb, kro, ((ts.set i c').map GT.id).flatMap fp ++ ksp) :: ((ts.set i c').flatMap (GT.all enc) ++ E))) h' := by
  have hid : (ts.map GT.id)[i]? = some c.id := by rw [List.getElem?_map, hc]; rfl
  have s1 : St h0 Z ((krb, kro, (ts.map GT.id).flatMap fp ++ ksp) :: (A ++ (ts.flatMap (GT.all enc) ++ E))) h := s.perm (by ((apply perm_rg; intro f; simp only [List.set_cons_zero, List.set_cons_succ, List.eraseIdx_cons_zero, List.eraseIdx_cons_succ, List.cons_append, List.nil_append, List.map_append, List.map_cons, List.map_nil, List.sum_append, List.sum_cons, List.sum_nil, List.map_flatMap, Nat.add_zero, Nat.zero_add]; ac_rfl)))
  have s2 := St.cut3 fpl s1 hid
  refine ⟨(krb, kro, ((ts.map GT.id).take i).flatMap fp) :: (krb, kro + (i + 1) * 1, ((ts.map GT.id).drop (i + 1)).flatMap fp ++ ksp) :: (A ++ ((ts.take i).flatMap (GT.all enc) ++ ((ts.drop (i + 1)).flatMap (GT.all enc) ++ E))), s2.perm ?_, fun c' h' he s' => ?_⟩
  · rw [flat_at3 (GT.all enc) hc]; ((apply perm_rg; intro f; simp only [List.set_cons_zero, List.set_cons_succ, List.eraseIdx_cons_zero, List.eraseIdx_cons_succ, List.cons_append, List.nil_append, List.map_append, List.map_cons, List.map_nil, List.sum_append, List.sum_cons, List.sum_nil, List.map_flatMap, Nat.add_zero, Nat.zero_add]; ac_rfl))
  · have hi := (List.getElem?_eq_some_iff.1 hc).1
    have hc' : (ts.set i c')[i]? = some c' := by rw [List.getElem?_set_self hi]
    rw [set_ids hc he, flat_at3 (GT.all enc) hc', List.take_set_of_le (Nat.le_refl _), List.drop_set_of_lt (by omega)]
    have s3 : St h0 Z ((krb, kro, ((ts.map GT.id).take i).flatMap fp) :: (krb, kro + (i + 1) * 1, ((ts.map GT.id).drop (i + 1)).flatMap fp ++ ksp) :: (krb, kro + i * 1, fp c.id) :: (A ++ ((ts.take i).flatMap (GT.all enc) ++ (c'.all enc ++ ((ts.drop (i + 1)).flatMap (GT.all enc) ++ E))))) h' := s'.perm (by ((apply perm_rg; intro f; simp only [List.set_cons_zero, List.set_cons_succ, List.eraseIdx_cons_zero, List.eraseIdx_cons_succ, List.cons_append, List.nil_append, List.map_append, List.map_cons, List.map_nil, List.sum_append, List.sum_cons, List.sum_nil, List.map_flatMap, Nat.add_zero, Nat.zero_add]; ac_rfl)))
    have s4 := St.glue3 fpl hid s3
    exact s4.perm (by ((apply perm_rg; intro f; simp only [List.set_cons_zero, List.set_cons_succ, List.eraseIdx_cons_zero, List.eraseIdx_cons_succ, List.cons_append, List.nil_append, List.map_append, List.map_cons, List.map_nil, List.sum_append, List.sum_cons, List.sum_nil, List.map_flatMap, Nat.add_zero, Nat.zero_add]; ac_rfl)))
theorem r_loadM1 {k : Nat} {ts : List (GT It k)} {K : Value → Prop} (s : St h0 Z E h) (j : Nat) {b o i : Nat} {sp : List Value} {c : GT It k} (hk : E[j]? = some (b, o, (ts.map GT.id).flatMap fp ++ sp)) (hc : ts[i]? = some c) (H : K (ptr c.id 0)) : load1 (ptr b (o + i * 1)) h K := by
  have := s.r_load1F (K := K) (r := 0) fpl j hk (show (ts.map GT.id)[i]? = some c.id by rw [List.getElem?_map, hc]; rfl) (v := ptr c.id 0) rfl H
  exact this

/-- What a changed kid makes of a node. -/
theorem Gd.setKid {iso : Int} {k : Nat} {d : Nd It} {ts : List (GT It k)} (g : Gd iso (k := k + 1) (d, ts)) {i : Nat} {c c' : GT It k} (hc : ts[i]? = some c) (he : c'.id = c.id) (g' : Gd iso c') {cnt : Int}
    (hcnt : cnt = (GT.pt (h := k + 1) (d, ts.set i c')).items.length) : Gd iso (k := k + 1) ({ d with cnt := cnt }, ts.set i c') := by
  have wK := g.wf.2.1
  refine Gd.inner g.wf.1.1 g.mine.1 (g.wf.1.2.1 g.mine.1) ?_ (by rw [List.length_set]; exact g.wf.2.2.1) (fun q hq => ?_) hcnt
  · rw [set_ids hc he, List.length_set, ← mfp]; exact wK
  · rcases List.mem_or_eq_of_mem_set hq with e | e
    · exact g.kid e
    · rw [e]; exact g'

theorem set_noSplit {tb m : Nat} {iso mn : Int} {ctr : Option Addr} {x : It} (htb : h0.size ≤ tb) (hT0 : (tb, 0, hd0 iso ctr) ∈ Z) (hT4 : (tb, 4, hd4 mn m) ∈ Z) (hm1 : m ≤ 1024) (ho : m % 2 = 1) {k : Nat} (ih : SetOk h0 Z tb m iso x k)
    (t : GT It (k + 1)) {pb po lo : Nat} (fl : t.pt.Fl m lo) (ha : Asc lt t.pt.items) (hsz : t.pt.items.length ≤ 4611686018427387903) (g : Gd iso t) (s : St h0 Z ((pb, po, [ptr t.id 0]) :: (t.all enc ++ E)) h)
    (hns : ∀ c, t.pt.2[pos lt t.pt.1 x]? = some c → lget lt t.pt.1 x = none → c.splits lt m x = false)
    (H : ∀ (t' : GT It (k + 1)) h', t'.pt = t.pt.set lt m x → t'.id = t.id → Gd iso t' → St h0 Z ((pb, po, [ptr t.id 0]) :: (t'.all enc ++ E)) h' → Q (.tuple #[old (t.pt.get lt x), .bool (t.pt.get lt x).isSome, .bool false]) h') :
    Map_si_nodeSet.call #[ptr tb 0, ptr pb po, .agg (enc x).toArray] h Q := by
  have hsp : t.pt.splits lt m x = false := by
    cases e : t.pt.splits lt m x with
    | false => rfl
    | true =>
      obtain ⟨_, e2⟩ := PT.splits_len e
      have e2 : lget lt t.pt.1 x = none := e2
      obtain ⟨c, hc, _⟩ := PT.step swo fl ha e2
      rw [PT.splits_kid e2 hc, hns c hc e2] at e
      simp at e
  have hset := PT.set_items swo ho fl ha hsp
  have hgi := PT.get_items swo fl ha (x := x)
  obtain ⟨d, ts⟩ := t
  obtain ⟨own, n, is', cnt, its, iv, ib, io, isp, kb, kv, krb, kro, ksp⟩ := d
  have w : Own 2 iv its.length ib io (its.flatMap enc) isp := g.wf.1.1
  have wK : Own 1 kv ts.length krb kro ((ts.map GT.id).map fun m => ptr m 0) ksp := g.wf.2.1
  have hkl : ts.length = its.length + 1 := g.wf.2.2.1
  have hidl : (ts.map GT.id).length = ts.length := List.length_map ..
  have hom : own = true := g.mine.1
  have hiso : is' = iso := g.wf.1.2.1 hom
  subst hiso; subst hom
  have hlen : its.length ≤ m := fl.2.1
  have ha1 : Asc lt its := asc_of_sub ha (PT.its_sub1 (its, ts.map GT.pt))
  rw [← hidl, mfp] at wK
  have hcn : cnt = (PT.items (h := k + 1) (its, ts.map GT.pt)).length := g.cn.1
  have s : St h0 Z ((pb, po, [ptr n 0]) :: (n, 0, [.int .u64 is', .int .i64 cnt, iv, ptr kb 0]) :: (ib, io, its.flatMap enc ++ isp) :: (kb, 0, [kv]) :: (krb, kro, ((ts.map GT.id).map fun m => ptr m 0) ++ ksp) :: (ts.flatMap (GT.all enc) ++ E)) h := s
  rw [mfp] at s
  refine set_head hT0 ha1 (by omega) w s (fun y h' hy s => ?_) fun t5 t9 h' hn s => ?_
  · have hln : (lput lt its x).length = its.length := by rw [lput_length, hy]; rfl
    have e1 : PT.set lt m (h := k + 1) (its, ts.map GT.pt) x = (lput lt its x, ts.map GT.pt) := PT.set_found (t := (its, ts.map GT.pt)) hy
    have e2 : PT.get lt (h := k + 1) (its, ts.map GT.pt) x = some y := PT.get_found (t := (its, ts.map GT.pt)) hy
    have e3 : (PT.items (h := k + 1) (lput lt its x, ts.map GT.pt)).length = (PT.items (h := k + 1) (its, ts.map GT.pt)).length := by
      have h1 : (PT.set lt m (h := k + 1) (its, ts.map GT.pt) x).items = lput lt (PT.items (h := k + 1) (its, ts.map GT.pt)) x := hset.1
      have h2 : PT.get lt (h := k + 1) (its, ts.map GT.pt) x = lget lt (PT.items (h := k + 1) (its, ts.map GT.pt)) x := hgi
      rw [e1] at h1
      rw [h1, lput_length, ← h2, e2]; rfl
    have := H ((⟨true, n, is', cnt, lput lt its x, iv, ib, io, isp, kb, kv, krb, kro, ksp⟩ : Nd It), ts) h' e1.symm rfl
      (Gd.inner (by show Own 2 iv (lput lt its x).length ib io ((lput lt its x).flatMap enc) isp; rw [hln]; exact w.cong (by rw [flat_len encl, flat_len encl, hln])) rfl rfl (by rw [← hidl]; exact wK) (by show ts.length = (lput lt its x).length + 1; rw [hln]; exact hkl) (fun c hc => g.kid hc) (by
        show cnt = ((PT.items (h := k + 1) (lput lt its x, ts.map GT.pt)).length : Int); rw [e3]; exact hcn)) (by rw [← mfp] at s; exact s)
    change Q (.tuple #[old (PT.get lt (h := k + 1) (its, ts.map GT.pt) x), .bool (PT.get lt (h := k + 1) (its, ts.map GT.pt) x).isSome, .bool false]) h' at this
    rw [e2] at this
    exact this
  · have hp := pos_le (lt := lt) its x
    obtain ⟨c, hc⟩ : ∃ c, ts[pos lt its x]? = some c := ⟨ts[pos lt its x]'(by omega), List.getElem?_eq_getElem (by omega)⟩
    have hcp : (ts.map GT.pt)[pos lt its x]? = some c.pt := by rw [List.getElem?_map, hc]; rfl
    have hcs : c.pt.splits lt m x = false := hns c.pt hcp hn
    obtain ⟨c0, hc0, hcm, hac, hg0, _⟩ := PT.step (h := k) (t := (its, ts.map GT.pt)) swo fl ha hn
    have : c0 = c.pt := Option.some.inj (hc0.symm.trans hcp)
    subst this
    have hcmem := List.mem_of_getElem? hc
    have e1 : PT.set lt m (h := k + 1) (its, ts.map GT.pt) x = (its, (ts.map GT.pt).set (pos lt its x) (c.pt.set lt m x)) := PT.set_kid (t := (its, ts.map GT.pt)) hn hcp hcs
    have e2 : PT.get lt (h := k + 1) (its, ts.map GT.pt) x = c.pt.get lt x := PT.get_kid (t := (its, ts.map GT.pt)) hn hcp
    have hcsz : c.pt.items.length ≤ 4611686018427387903 := by
      have h1 : (inter its ((ts.map GT.pt).map PT.items)).length = _ := inter_length _ _
      have h2 : (inter its ((ts.map GT.pt).map PT.items)).length ≤ 4611686018427387903 := hsz
      have h3 : c.pt.items.length ≤ (((ts.map GT.pt).map PT.items).map List.length).sum := mem_le_sum (by
        rw [List.map_map, List.map_map]; exact List.mem_map.2 ⟨c, hcmem, rfl⟩)
      omega
    unfold Map_si_nodeSet.j1
    refine St.r_load0 s 0 rfl rfl ?_
    refine leaf_ok (a := some ⟨kb, 0, none⟩) (s.get (k := 3) (j := 3) rfl (by simp)) ?_
    refine r_if (fun e => absurd e (by simp)) (fun _ => ?_)
    unfold Map_si_nodeSet.j2
    refine St.r_load0 s 0 rfl rfl ?_
    refine r_nil ?_
    refine r_fld ?_
    refine St.r_load0 s 3 rfl rfl ?_
    refine r_nil ?_
    refine St.r_load0 s 5 rfl rfl ?_
    refine wK.idx (n := pos lt its x) rfl (by omega) ?_
    refine St.r_loadN0 s 1 rfl (by simp) ?_
    obtain ⟨E', sk, back⟩ := lend_kid (A := (t9, 0, [ptr n 0]) :: (t5, 0, enc x) :: (pb, po, [ptr n 0]) :: (n, 0, [.int .u64 is', .int .i64 cnt, iv, ptr kb 0]) :: (ib, io, its.flatMap enc ++ isp) :: (kb, 0, [kv]) :: []) (E := E) (kb := kb) (kv := kv) hc s
    refine ih c (fl.2.2.2 _ hcm) hac hcsz (g.kid hcmem) sk fun c' h' hc1 hc2 hc3 s => ?_
    rw [hcs] at hc1 ⊢
    simp only [Bool.false_eq_true, ↓reduceIte] at hc1
    have s := back c' h' hc2 s
    have s : St h0 Z ((t9, 0, [ptr n 0]) :: (t5, 0, enc x) :: (pb, po, [ptr n 0]) :: (n, 0, [.int .u64 is', .int .i64 cnt, iv, ptr kb 0]) :: (ib, io, its.flatMap enc ++ isp) :: (kb, 0, [kv]) :: (krb, kro, ((ts.set (pos lt its x) c').map GT.id).flatMap fp ++ ksp) :: ((ts.set (pos lt its x) c').flatMap (GT.all enc) ++ E)) h' := s
    have ept : (ts.set (pos lt its x) c').map GT.pt = (ts.map GT.pt).set (pos lt its x) (c.pt.set lt m x) := by rw [List.map_set, hc1]
    have hlenI : (PT.items (h := k + 1) (its, (ts.set (pos lt its x) c').map GT.pt)).length = (PT.items (h := k + 1) (its, ts.map GT.pt)).length + if (c.pt.get lt x).isSome then 0 else 1 := by
      have h1 : (PT.set lt m (h := k + 1) (its, ts.map GT.pt) x).items = lput lt (PT.items (h := k + 1) (its, ts.map GT.pt)) x := hset.1
      have h2 : PT.get lt (h := k + 1) (its, ts.map GT.pt) x = lget lt (PT.items (h := k + 1) (its, ts.map GT.pt)) x := hgi
      rw [e1, ← ept] at h1
      rw [h1, lput_length, ← h2, e2]
    have fin : ∀ cnt' h', cnt' = (((PT.items (h := k + 1) (its, (ts.set (pos lt its x) c').map GT.pt)).length : Nat) : Int) →
        St h0 Z ((t9, 0, [ptr n 0]) :: (t5, 0, enc x) :: (pb, po, [ptr n 0]) :: (n, 0, [.int .u64 is', .int .i64 cnt', iv, ptr kb 0]) :: (ib, io, its.flatMap enc ++ isp) :: (kb, 0, [kv]) :: (krb, kro, ((ts.set (pos lt its x) c').map GT.id).flatMap fp ++ ksp) :: ((ts.set (pos lt its x) c').flatMap (GT.all enc) ++ E)) h' →
        Q (.tuple #[old (c.pt.get lt x), .bool (c.pt.get lt x).isSome, .bool false]) h' := by
      intro cnt' h' hcnt' s
      have := H ((⟨true, n, is', cnt', its, iv, ib, io, isp, kb, kv, krb, kro, ksp⟩ : Nd It), ts.set (pos lt its x) c') h' (by show (its, (ts.set (pos lt its x) c').map GT.pt) = _; rw [ept]; exact e1.symm) rfl
        (Gd.setKid (d := ⟨true, n, is', cnt, its, iv, ib, io, isp, kb, kv, krb, kro, ksp⟩) g hc hc2 hc3 hcnt') (by rw [← mfp] at s; exact s.drop 2)
      change Q (.tuple #[old (PT.get lt (h := k + 1) (its, ts.map GT.pt) x), .bool (PT.get lt (h := k + 1) (its, ts.map GT.pt) x).isSome, .bool false]) h' at this
      rw [e2] at this
      exact this
    refine r_ext rfl ?_
    refine r_ext rfl ?_
    refine r_ext rfl ?_
    refine r_if (fun e => absurd e (by simp)) (fun _ => ?_)
    unfold Map_si_nodeSet.j3
    refine r_not ?_
    refine r_if (fun hr => ?_) (fun hr => ?_)
    · have hr : (c.pt.get lt x).isSome = false := by simpa using hr
      rw [hr] at hlenI
      refine St.r_load0 s 0 rfl rfl ?_
      refine r_nil ?_
      refine r_fld ?_
      refine St.r_load0 s 3 rfl rfl ?_
      refine r_add (z := cnt + 1) (by have : (PT.items (h := k + 1) (its, ts.map GT.pt)).length ≤ 4611686018427387903 := hsz; rw [i64w (by omega) (by omega)]) ?_
      refine r_nil ?_
      refine r_fld ?_
      refine St.r_store0 s 3 rfl (by simp) rfl ?_; intro h s
      unfold Map_si_nodeSet.j4
      exact fin (cnt + 1) h (by rw [hlenI, hcn]; simp) s
    · have hr : (c.pt.get lt x).isSome = true := by simpa using hr
      rw [hr] at hlenI
      unfold Map_si_nodeSet.j4
      exact fin cnt h' (by rw [hlenI, hcn]; simp) s
end Go.Proofs.Ytkkappjbcgnacaa.Si
end
section
namespace Go.Proofs.Ytkkappjbcgnacaa.Si
open Go.Hp Go.Proofs.Ytkkappjbcgnacaa
set_option linter.unusedVariables false
set_option linter.unusedSimpArgs false
variable {h0 h : Heap} {Z E : List Rg} {Q : Value → Heap → Prop}
abbrev pp (m : Nat) : Value := ptr m 0
theorem fpv (l : List Nat) : l.flatMap fp = (l.map pp).flatMap fv := by rw [flat_fv]; exact List.map_eq_flatMap.symm

theorem SetOk.succ {tb m : Nat} {iso mn : Int} {ctr : Option Addr} {x : It} (htb : h0.size ≤ tb) (hT0 : (tb, 0, hd0 iso ctr) ∈ Z) (hT4 : (tb, 4, hd4 mn m) ∈ Z) (hm1 : m ≤ 1024) (ho : m % 2 = 1) {k : Nat} (ih : SetOk h0 Z tb m iso x k) : SetOk h0 Z tb m iso x (k + 1) := by
  intro t h E Q pb po lo fl ha hsz g s H
  by_cases hns : ∀ c, t.pt.2[pos lt t.pt.1 x]? = some c → lget lt t.pt.1 x = none → c.splits lt m x = false
  · have hsp : t.pt.splits lt m x = false := by
      cases e : t.pt.splits lt m x with
      | false => rfl
      | true =>
        obtain ⟨_, e2⟩ := PT.splits_len e
        have e2 : lget lt t.pt.1 x = none := e2
        obtain ⟨c, hc, _⟩ := PT.step swo fl ha e2
        rw [PT.splits_kid e2 hc, hns c hc e2] at e
        simp at e
    refine set_noSplit htb hT0 hT4 hm1 ho ih t fl ha hsz g s hns fun t' h' h1 h2 h3 s => ?_
    have := H t' h' (by rw [hsp]; exact h1) h2 h3 s
    rw [hsp] at this; exact this
  have hex : ∃ cp, t.pt.2[pos lt t.pt.1 x]? = some cp ∧ lget lt t.pt.1 x = none ∧ cp.splits lt m x = true := by
    apply Classical.byContradiction
    intro hno
    refine hns fun c h1 h2 => ?_
    cases e : c.splits lt m x with
    | false => rfl
    | true => exact absurd ⟨c, h1, h2, e⟩ hno
  clear hns
  obtain ⟨cp, hcp, hn, hcs⟩ := hex
  obtain ⟨c0, hc0, hcm, hac, hg0, _⟩ := PT.step swo fl ha hn
  have : c0 = cp := Option.some.inj (hc0.symm.trans hcp)
  subst this
  have hgn := PT.splits_get swo (fl.2.2.2 _ hcm) hac hcs
  have hgt : t.pt.get lt x = none := by rw [PT.get_items swo fl ha, hg0, hgn]
  have hgc : c0.get lt x = none := by rw [PT.get_items swo (fl.2.2.2 _ hcm) hac, hgn]
  obtain ⟨md, hmd, _⟩ := PT.halves swo ho (fl.2.2.2 _ hcm) hac hcs
  obtain ⟨d, ts⟩ := t
  obtain ⟨own, n, is', cnt, its, iv, ib, io, isp, kb, kv, krb, kro, ksp⟩ := d
  have w : Own 2 iv its.length ib io (its.flatMap enc) isp := g.wf.1.1
  have wK : Own 1 kv ts.length krb kro ((ts.map GT.id).map fun m => ptr m 0) ksp := g.wf.2.1
  have hkl : ts.length = its.length + 1 := g.wf.2.2.1
  have hidl : (ts.map GT.id).length = ts.length := List.length_map ..
  have hom : own = true := g.mine.1
  have hiso : is' = iso := g.wf.1.2.1 hom
  subst hiso; subst hom
  have hlen : its.length ≤ m := fl.2.1
  have hn : lget lt its x = none := hn
  have hcp : (ts.map GT.pt)[pos lt its x]? = some c0 := hcp
  have ha1 : Asc lt its := asc_of_sub ha (PT.its_sub1 (its, ts.map GT.pt))
  rw [← hidl, mfp] at wK
  have hcn : cnt = (PT.items (h := k + 1) (its, ts.map GT.pt)).length := g.cn.1
  have s : St h0 Z ((pb, po, [ptr n 0]) :: (n, 0, [.int .u64 is', .int .i64 cnt, iv, ptr kb 0]) :: (ib, io, its.flatMap enc ++ isp) :: (kb, 0, [kv]) :: (krb, kro, ((ts.map GT.id).map fun m => ptr m 0) ++ ksp) :: (ts.flatMap (GT.all enc) ++ E)) h := s
  rw [mfp] at s
  refine set_head hT0 ha1 (by omega) w s (fun y h' hy s => by rw [hn] at hy; cases hy) fun t5 t9 h' _ s => ?_
  have hp := pos_le (lt := lt) its x
  obtain ⟨c, hc⟩ : ∃ c, ts[pos lt its x]? = some c := ⟨ts[pos lt its x]'(by omega), List.getElem?_eq_getElem (by omega)⟩
  have : c0 = c.pt := by
    rw [List.getElem?_map, hc] at hcp
    exact (Option.some.inj hcp).symm
  subst this
  have hcmem := List.mem_of_getElem? hc
  have hcsz : c.pt.items.length ≤ 4611686018427387903 := by
    have h1 : (inter its ((ts.map GT.pt).map PT.items)).length = _ := inter_length _ _
    have h2 : (inter its ((ts.map GT.pt).map PT.items)).length ≤ 4611686018427387903 := hsz
    have h3 : c.pt.items.length ≤ (((ts.map GT.pt).map PT.items).map List.length).sum := mem_le_sum (by
      rw [List.map_map, List.map_map]; exact List.mem_map.2 ⟨c, hcmem, rfl⟩)
    omega
  unfold Map_si_nodeSet.j1
  refine St.r_load0 s 0 rfl rfl ?_
  refine leaf_ok (a := some ⟨kb, 0, none⟩) (s.get (k := 3) (j := 3) rfl (by simp)) ?_
  refine r_if (fun e => absurd e (by simp)) (fun _ => ?_)
  unfold Map_si_nodeSet.j2
  refine St.r_load0 s 0 rfl rfl ?_
  refine r_nil ?_
  refine r_fld ?_
  refine St.r_load0 s 3 rfl rfl ?_
  refine r_nil ?_
  refine St.r_load0 s 5 rfl rfl ?_
  refine wK.idx (n := pos lt its x) rfl (by omega) ?_
  refine St.r_loadN0 s 1 rfl (by simp) ?_
  obtain ⟨E', sk, back⟩ := lend_kid (A := (t9, 0, [ptr n 0]) :: (t5, 0, enc x) :: (pb, po, [ptr n 0]) :: (n, 0, [.int .u64 is', .int .i64 cnt, iv, ptr kb 0]) :: (ib, io, its.flatMap enc ++ isp) :: (kb, 0, [kv]) :: []) (E := E) (kb := kb) (kv := kv) hc s
  refine ih c (fl.2.2.2 _ hcm) hac hcsz (g.kid hcmem) sk fun c' h' hc1 hc2 hc3 s => ?_
  rw [hcs, hgc]
  rw [hcs] at hc1
  simp only [↓reduceIte] at hc1
  have s := back c' h' hc2 s
  have s : St h0 Z ((t9, 0, [ptr n 0]) :: (t5, 0, enc x) :: (pb, po, [ptr n 0]) :: (n, 0, [.int .u64 is', .int .i64 cnt, iv, ptr kb 0]) :: (ib, io, its.flatMap enc ++ isp) :: (kb, 0, [kv]) :: (krb, kro, ((ts.set (pos lt its x) c').map GT.id).flatMap fp ++ ksp) :: ((ts.set (pos lt its x) c').flatMap (GT.all enc) ++ E)) h' := s
  have hi := (List.getElem?_eq_some_iff.1 hc).1
  have hc' : (ts.set (pos lt its x) c')[pos lt its x]? = some c' := List.getElem?_set_self hi
  have ept : (ts.set (pos lt its x) c').map GT.pt = ts.map GT.pt := by
    apply List.ext_getElem?
    intro j
    rw [List.map_set, List.getElem?_set]
    split
    · rename_i e; subst e
      simp only [List.length_map, hi, if_true]
      rw [hc1]; exact hcp.symm
    · rfl
  have g1 : Gd is' (k := k + 1) ((⟨true, n, is', cnt, its, iv, ib, io, isp, kb, kv, krb, kro, ksp⟩ : Nd It), ts.set (pos lt its x) c') :=
    Gd.setKid g hc hc2 hc3 (by show cnt = ((PT.items (h := k + 1) (its, (ts.set (pos lt its x) c').map GT.pt)).length : Int); rw [ept]; exact hcn)
  refine r_ext rfl ?_
  refine r_ext rfl ?_
  refine r_ext rfl ?_
  refine r_if (fun _ => ?_) (fun e => absurd e (by simp))
  refine St.r_load0 s 0 rfl rfl ?_
  refine r_nil ?_
  refine r_fld ?_
  refine St.r_load0 s 3 rfl rfl ?_
  refine w.lenV ?_
  refine r_nil ?_
  refine r_fld ?_
  refine s.r_lz hT4 3 rfl rfl ?_
  refine r_cmpI ?_
  refine r_if (fun hfull => ?_) (fun hroom => ?_)
  · have hfull : its.length = m := Int.ofNat_inj.1 (by simpa using hfull)
    have hsp : PT.splits lt m (h := k + 1) (its, ts.map GT.pt) x = true := by rw [PT.splits_kid (t := (its, ts.map GT.pt)) hn hcp, hcs]; simpa using hfull
    refine r_nil ?_
    refine r_fld ?_
    refine r_fld ?_
    refine s.r_lz hT4 0 rfl rfl ?_
    have := H ((⟨true, n, is', cnt, its, iv, ib, io, isp, kb, kv, krb, kro, ksp⟩ : Nd It), ts.set (pos lt its x) c') h' (by
      show (its, (ts.set (pos lt its x) c').map GT.pt) = if PT.splits lt m (h := k + 1) (its, ts.map GT.pt) x = true then _ else _
      rw [hsp, ept]; rfl) rfl g1 (by rw [← mfp] at s; exact s.drop 2)
    change Q (.tuple #[old (PT.get lt (h := k + 1) (its, ts.map GT.pt) x), .bool (PT.get lt (h := k + 1) (its, ts.map GT.pt) x).isSome, .bool (PT.splits lt m (h := k + 1) (its, ts.map GT.pt) x)]) h' at this
    have hgt : PT.get lt (h := k + 1) (its, ts.map GT.pt) x = none := hgt
    rw [hsp, hgt] at this
    exact this
  · have hroom : its.length ≠ m := fun e => by rw [e] at hroom; simp at hroom
    have hsp : PT.splits lt m (h := k + 1) (its, ts.map GT.pt) x = false := by rw [PT.splits_kid (t := (its, ts.map GT.pt)) hn hcp]; simp [hroom]
    obtain ⟨q1, q2, q3, q4, q5⟩ := PT.set_split (t := (its, ts.map GT.pt)) swo ho fl ha hn hcp hcs hmd hroom
    unfold Map_si_nodeSet.j5
    refine St.r_load0 s 0 rfl rfl ?_
    refine r_nil ?_
    refine r_fld ?_
    refine St.r_load0 s 3 rfl rfl ?_
    refine r_nil ?_
    refine St.r_load0 s 5 rfl rfl ?_
    have wk1 : Own 1 kv ((ts.set (pos lt its x) c').map GT.id).length krb kro (((ts.set (pos lt its x) c').map GT.id).flatMap fp) ksp := by rw [set_ids hc hc2]; exact wK
    refine wk1.idx (n := pos lt its x) rfl (by rw [List.length_map, List.length_set]; omega) ?_
    refine r_loadM1 s 6 rfl hc' ?_
    have hcl : c'.pt.its.length = m := by rw [hc1]; exact (PT.splits_len hcs).1
    have etake : (ts.set (pos lt its x) c').take (pos lt its x) = ts.take (pos lt its x) := List.take_set_of_le (Nat.le_refl _)
    have edrop : (ts.set (pos lt its x) c').drop (pos lt its x + 1) = ts.drop (pos lt its x + 1) := List.drop_set_of_lt (by omega)
    refine nodeSplit_ok c' (m := m) (E := (t9, 0, [ptr n 0]) :: (t5, 0, enc x) :: (pb, po, [ptr n 0]) :: (n, 0, [.int .u64 is', .int .i64 cnt, iv, ptr kb 0]) :: (ib, io, its.flatMap enc ++ isp) :: (kb, 0, [kv]) :: (krb, kro, (ts.map GT.id).flatMap fp ++ ksp) :: ((ts.take (pos lt its x)).flatMap (GT.all enc) ++ ((ts.drop (pos lt its x + 1)).flatMap (GT.all enc) ++ E)))
      hT0 hT4 (by omega) (by omega) (by rw [hc1]; exact fl.2.2.2 _ hcm) hcl (by rw [hc1]; omega) hc3 (s.perm ?_) fun l r md' h hmd' hl hr hlid gl gr s => ?_
    · rw [set_ids hc hc2, flat_at3 (GT.all enc) hc', etake, edrop]; ((apply perm_rg; intro f; simp only [List.set_cons_zero, List.set_cons_succ, List.eraseIdx_cons_zero, List.eraseIdx_cons_succ, List.cons_append, List.nil_append, List.map_append, List.map_cons, List.map_nil, List.sum_append, List.sum_cons, List.sum_nil, List.map_flatMap, Nat.add_zero, Nat.zero_add]; ac_rfl))
    have : md' = md := by rw [hc1] at hmd'; exact Option.some.inj (hmd'.symm.trans hmd)
    subst this
    rw [hc1] at hl hr
    have s : St h0 Z ((t9, 0, [ptr n 0]) :: (t5, 0, enc x) :: (pb, po, [ptr n 0]) :: (n, 0, [.int .u64 is', .int .i64 cnt, iv, ptr kb 0]) :: (ib, io, its.flatMap enc ++ isp) :: (kb, 0, [kv]) :: (krb, kro, ((ts.map GT.id).map pp).flatMap fv ++ ksp) :: ((ts.take (pos lt its x) ++ l :: r :: ts.drop (pos lt its x + 1)).flatMap (GT.all enc) ++ E)) h :=
      s.perm (by rw [← fpv, List.flatMap_append, List.flatMap_cons, List.flatMap_cons]; ((apply perm_rg; intro f; simp only [List.set_cons_zero, List.set_cons_succ, List.eraseIdx_cons_zero, List.eraseIdx_cons_succ, List.cons_append, List.nil_append, List.map_append, List.map_cons, List.map_nil, List.sum_append, List.sum_cons, List.sum_nil, List.map_flatMap, Nat.add_zero, Nat.zero_add]; ac_rfl)))
    rw [fpv] at wK
    have hpl : ((ts.map GT.id).map pp).length = ts.length := by rw [List.length_map, List.length_map]
    have elp : (ts.map GT.id).length = ((ts.map GT.id).map pp).length := List.length_map .. |>.symm
    rw [elp] at wK
    generalize hL : (ts.map GT.id).map pp = L at s wK hpl
    refine r_ext rfl ?_
    refine r_ext rfl ?_
    refine s.r_alloc fun t13 h s => ?_
    refine St.r_storeN0 s 0 rfl rfl (by simp) (enc1 _) ?_; intro h s
    refine St.r_load0 s 1 rfl rfl ?_
    refine r_nil ?_
    refine r_fld ?_
    refine St.r_load0 s 4 rfl rfl ?_
    refine St.r_load0 s 1 rfl rfl ?_
    refine r_nil ?_
    refine r_fld ?_
    refine St.r_load0 s 4 rfl rfl ?_
    refine r_nil ?_
    refine St.r_load0 s 6 rfl rfl ?_
    refine St.r_mkSl (sz := 1) (cs := [.pointer none]) s (by ((simp only [fillV, fill1, Value.cells, zeros_succ, zeros_zero, List.size_toArray, List.length_cons, List.length_nil, List.length_append, List.take_succ_cons, List.take_zero, List.take_nil, List.drop_succ_cons, List.drop_zero, List.drop_nil, List.cons_append, List.nil_append, List.append_nil, Nat.reduceAdd, Nat.reduceMul, Nat.reduceLeDiff, Nat.reduceEqDiff, and_self, and_true, true_and, if_true, Nat.le_refl, Nat.zero_add, Nat.add_zero, Nat.zero_mul, reduceIte, if_false] <;> rfl))) rfl fun q h s w1 => ?_
    refine And.intro (by exact St.r_still0 s 2 rfl rfl) ?_
    refine And.intro (by exact St.r_still0 s 5 rfl rfl) ?_
    refine And.intro (by exact St.r_still0 s 2 rfl rfl) ?_
    refine And.intro (by exact St.r_still0 s 5 rfl rfl) ?_
    refine ⟨by refine St.r_still0 s 7 rfl rfl, ?_⟩
    refine St.r_app s 8 (sz := 1) (n := 1) (new := [.pointer none]) rfl wK rfl (w1.rdl s 0 rfl) (by simp [one1]) (by omega) (by omega) fun kv' krb' kro' ksp' h s wk' => ?_
    rw [snoc_fv] at s wk'
    have wk' : Own 1 kv' (L ++ [Value.pointer none]).length krb' kro' ((L ++ [Value.pointer none]).flatMap fv) ksp' := by rw [List.length_append]; exact wk'
    refine And.intro (by exact St.r_still0 s 2 rfl rfl) ?_
    refine And.intro (by exact St.r_still0 s 5 rfl rfl) ?_
    refine r_nil ?_
    refine St.r_store0 s 7 rfl (by simp) wk'.one ?_; intro h s
    refine St.r_load0 s 2 rfl rfl ?_
    refine r_nil ?_
    refine r_fld ?_
    refine St.r_load0 s 5 rfl rfl ?_
    refine r_nil ?_
    refine St.r_load0 s 7 rfl rfl ?_
    refine r_add (z := ((pos lt its x + 1 : Nat) : Int)) (by rw [i64w (by omega) (by omega)]; omega) ?_
    refine wk'.slcLo fvl (i := pos lt its x + 1) rfl (by simp; omega) fun dd wd => ?_
    refine St.r_load0 s 2 rfl rfl ?_
    refine r_nil ?_
    refine r_fld ?_
    refine St.r_load0 s 5 rfl rfl ?_
    refine r_nil ?_
    refine St.r_load0 s 7 rfl rfl ?_
    refine (wk'.rdl s 8 rfl).slcLo fvl (i := pos lt its x) rfl (by simp; omega) fun src rs => ?_
    refine s.r_cpyF fvl 8 (L := L ++ [Value.pointer none]) (M := (L ++ [Value.pointer none]).drop (pos lt its x)) rfl wd (by simp; omega) rs rfl (fun y hy => ?_) fun h s => ?_
    · have hy := List.mem_of_mem_drop hy
      intro z hz
      rw [List.mem_singleton.1 hz]
      rcases List.mem_append.1 hy with e | e
      · rw [← hL] at e; obtain ⟨a, _, rfl⟩ := List.mem_map.1 e; rfl
      · rw [List.mem_singleton.1 e]; rfl
    refine St.r_load0 s 2 rfl rfl ?_
    refine r_nil ?_
    refine r_fld ?_
    refine St.r_load0 s 5 rfl rfl ?_
    refine r_nil ?_
    refine St.r_load0 s 7 rfl rfl ?_
    refine r_add (z := ((pos lt its x + 1 : Nat) : Int)) (by rw [i64w (by omega) (by omega)]; omega) ?_
    refine wk'.idx (n := pos lt its x + 1) rfl (by simp; omega) ?_
    refine s.r_storeV (v := ptr r.id 0) 8 rfl (by simp; omega) rfl fun h s => ?_
    rw [List.set_set, ins_steps2 L (.pointer none) (ptr r.id 0) (by omega)] at s
    refine St.r_load0 s 2 rfl rfl ?_
    refine St.r_load0 s 2 rfl rfl ?_
    refine r_nil ?_
    refine r_fld ?_
    refine St.r_load0 s 5 rfl rfl ?_
    refine r_nil ?_
    refine r_fld ?_
    refine s.r_lzE hT4 0 (enc emp) rfl (by simp) rfl ?_
    refine St.r_mkSl (sz := 2) (cs := enc emp) s (by ((simp only [fillV, fill1, Value.cells, zeros_succ, zeros_zero, List.size_toArray, List.length_cons, List.length_nil, List.length_append, List.take_succ_cons, List.take_zero, List.take_nil, List.drop_succ_cons, List.drop_zero, List.drop_nil, List.cons_append, List.nil_append, List.append_nil, Nat.reduceAdd, Nat.reduceMul, Nat.reduceLeDiff, Nat.reduceEqDiff, and_self, and_true, true_and, if_true, Nat.le_refl, Nat.zero_add, Nat.add_zero, Nat.zero_mul, reduceIte, if_false] <;> rfl))) rfl fun qq h s w2 => ?_
    refine And.intro (by exact St.r_still0 s 3 rfl rfl) ?_
    refine And.intro (by exact St.r_still0 s 3 rfl rfl) ?_
    refine And.intro (by exact St.r_still0 s 6 rfl rfl) ?_
    refine St.r_app s 7 (sz := 2) (n := 1) (new := enc emp) rfl w rfl (w2.rdl s 0 rfl) (enc1 _) (by omega) (by omega) fun iv' ib' io' isp' h s w' => ?_
    rw [snoc_enc] at s w'
    have w' : Own 2 iv' (its ++ [emp]).length ib' io' ((its ++ [emp]).flatMap enc) isp' := by rw [List.length_append]; exact w'
    refine And.intro (by exact St.r_still0 s 3 rfl rfl) ?_
    refine r_nil ?_
    refine r_fld ?_
    refine St.r_store0 s 6 rfl (by simp) w'.one ?_; intro h s
    refine St.r_load0 s 3 rfl rfl ?_
    refine r_nil ?_
    refine r_fld ?_
    refine St.r_load0 s 6 rfl rfl ?_
    refine r_add (z := ((pos lt its x + 1 : Nat) : Int)) (by rw [i64w (by omega) (by omega)]; omega) ?_
    refine w'.slcLo encl (i := pos lt its x + 1) rfl (by simp; omega) fun dd2 wd2 => ?_
    refine St.r_load0 s 3 rfl rfl ?_
    refine r_nil ?_
    refine r_fld ?_
    refine St.r_load0 s 6 rfl rfl ?_
    refine (w'.rdl s 7 rfl).slcLo encl (i := pos lt its x) rfl (by simp; omega) fun src2 rs2 => ?_
    refine s.r_cpyF encl 7 (L := its ++ [emp]) (M := (its ++ [emp]).drop (pos lt its x)) rfl wd2 (by simp; omega) rs2 rfl (fun y _ => enc1 y) fun h s => ?_
    refine St.r_load0 s 3 rfl rfl ?_
    refine r_nil ?_
    refine r_fld ?_
    refine St.r_load0 s 6 rfl rfl ?_
    refine St.r_loadN0 s 2 rfl (by simp) ?_
    refine w'.idx (n := pos lt its x) rfl (by simp; omega) ?_
    refine s.r_storeF (x := md') encl 7 rfl (by simp; omega) (enc1 _) fun h s => ?_
    rw [List.set_set, ins_steps its emp md' hp] at s
    refine St.r_loadN0 s 4 rfl (by simp) ?_
    have hil := ins_length (x := md') hp
    have e8 : ins L (pos lt its x + 1) (ptr r.id 0) = ((ts.take (pos lt its x) ++ l :: r :: ts.drop (pos lt its x + 1)).map GT.id).map pp := by
      have e9 : ts.take (pos lt its x + 1) = ts.take (pos lt its x) ++ [c] := by rw [List.take_add_one, hc]; rfl
      unfold ins
      rw [← hL, ← List.map_take, ← List.map_take, ← List.map_drop, ← List.map_drop, e9]
      simp only [List.map_append, List.map_cons, List.map_nil, List.append_assoc, List.cons_append, List.nil_append, hlid, hc2]
    rw [e8, ← fpv] at s
    have hl2 : ((ts.take (pos lt its x) ++ l :: r :: ts.drop (pos lt its x + 1)).map GT.id).length = (L ++ [Value.pointer none]).length := by simp; omega
    have wk2 : Own 1 kv' (ts.take (pos lt its x) ++ l :: r :: ts.drop (pos lt its x + 1)).length krb' kro' (((ts.take (pos lt its x) ++ l :: r :: ts.drop (pos lt its x + 1)).map GT.id).flatMap fp) ksp' := by
      rw [← hl2, List.length_map] at wk'
      exact wk'.cong (by rw [flat_len fpl, flat_len fvl, hl2])
    have w2' : Own 2 iv' (ins its (pos lt its x) md').length ib' io' ((ins its (pos lt its x) md').flatMap enc) isp' := by
      rw [show (ins its (pos lt its x) md').length = (its ++ [emp]).length by rw [hil]; simp]
      exact w'.cong (by rw [flat_len encl, flat_len encl, hil]; simp)
    have ept2 : (ts.take (pos lt its x) ++ l :: r :: ts.drop (pos lt its x + 1)).map GT.pt = (ts.map GT.pt).take (pos lt its x) ++ c.pt.lo (m / 2) :: c.pt.hi (m / 2) :: (ts.map GT.pt).drop (pos lt its x + 1) := by
      rw [List.map_append, List.map_cons, List.map_cons, List.map_take, List.map_drop, hl, hr]
    have g2 : Gd is' (k := k + 1) ((⟨true, n, is', cnt, ins its (pos lt its x) md', iv', ib', io', isp', kb, kv', krb', kro', ksp'⟩ : Nd It), ts.take (pos lt its x) ++ l :: r :: ts.drop (pos lt its x + 1)) := by
      refine Gd.inner w2' rfl rfl wk2 (by show _ = (ins its (pos lt its x) md').length + 1; rw [hil]; simp; omega) (fun q hq => ?_) ?_
      · rcases List.mem_append.1 hq with e | e
        · exact g.kid (List.mem_of_mem_take e)
        · rcases List.mem_cons.1 e with e | e
          · rw [e]; exact gl
          · rcases List.mem_cons.1 e with e | e
            · rw [e]; exact gr
            · exact g.kid (List.mem_of_mem_drop e)
      · show cnt = ((PT.items (h := k + 1) (ins its (pos lt its x) md', (ts.take (pos lt its x) ++ l :: r :: ts.drop (pos lt its x + 1)).map GT.pt)).length : Int)
        rw [ept2, q1]; exact hcn
    have hpt2 : GT.pt (h := k + 1) ((⟨true, n, is', cnt, ins its (pos lt its x) md', iv', ib', io', isp', kb, kv', krb', kro', ksp'⟩ : Nd It), ts.take (pos lt its x) ++ l :: r :: ts.drop (pos lt its x + 1)) = (ins its (pos lt its x) md', (ts.map GT.pt).take (pos lt its x) ++ c.pt.lo (m / 2) :: c.pt.hi (m / 2) :: (ts.map GT.pt).drop (pos lt its x + 1)) := by
      show (_, _) = _; rw [ept2]
    have s : St h0 Z ((t9, 0, [ptr n 0]) :: ((GT.all enc (h := k + 1) ((⟨true, n, is', cnt, ins its (pos lt its x) md', iv', ib', io', isp', kb, kv', krb', kro', ksp'⟩ : Nd It), ts.take (pos lt its x) ++ l :: r :: ts.drop (pos lt its x + 1))) ++ ((pb, po, [ptr n 0]) :: E))) h := by
      have s1 : St h0 Z ((t9, 0, [ptr n 0]) :: (n, 0, [.int .u64 is', .int .i64 cnt, iv', ptr kb 0]) :: (ib', io', (ins its (pos lt its x) md').flatMap enc ++ isp') :: (kb, 0, [kv']) :: (krb', kro', ((ts.take (pos lt its x) ++ l :: r :: ts.drop (pos lt its x + 1)).map GT.id).flatMap fp ++ ksp') :: ((ts.take (pos lt its x) ++ l :: r :: ts.drop (pos lt its x + 1)).flatMap (GT.all enc) ++ ((pb, po, [ptr n 0]) :: E))) h :=
        (s.perm (E' := (qq, 0, _) :: (q, 0, _) :: (t13, 0, _) :: (t5, 0, _) :: _) (by ((apply perm_rg; intro f; simp only [List.set_cons_zero, List.set_cons_succ, List.eraseIdx_cons_zero, List.eraseIdx_cons_succ, List.cons_append, List.nil_append, List.map_append, List.map_cons, List.map_nil, List.sum_append, List.sum_cons, List.sum_nil, List.map_flatMap, Nat.add_zero, Nat.zero_add]; ac_rfl)))).drop 4
      rw [← mfp] at s1
      exact s1
    refine set_noSplit htb hT0 hT4 hm1 ho ih _ (by rw [hpt2]; exact q2) (by rw [hpt2, q1]; exact ha) (by rw [hpt2, q1]; exact hsz) g2 s (fun c2 h1 h2 => ?_) fun t' h' h1 h2 h3 s => ?_
    · rw [hpt2] at h1
      obtain ⟨c3, h3, h4⟩ := q4
      have : c2 = c3 := Option.some.inj (h1.symm.trans h3)
      rw [this]; exact h4
    · have hgt2 : PT.get lt (GT.pt (h := k + 1) ((⟨true, n, is', cnt, ins its (pos lt its x) md', iv', ib', io', isp', kb, kv', krb', kro', ksp'⟩ : Nd It), ts.take (pos lt its x) ++ l :: r :: ts.drop (pos lt its x + 1))) x = none := by
        rw [hpt2, PT.get_items swo q2 (by rw [q1]; exact ha), q1, ← PT.get_items (h := k + 1) (t := (its, ts.map GT.pt)) swo fl ha]; exact hgt
      rw [hgt2]
      refine r_ext rfl ?_
      refine r_ext rfl ?_
      refine r_ext rfl ?_
      have := H t' h' (by
        show _ = if PT.splits lt m (h := k + 1) (its, ts.map GT.pt) x = true then _ else _
        rw [hsp, h1, hpt2, q5]; rfl) h2 h3 ((s.drop 1).perm List.perm_middle.symm)
      change Q (.tuple #[old (PT.get lt (h := k + 1) (its, ts.map GT.pt) x), .bool (PT.get lt (h := k + 1) (its, ts.map GT.pt) x).isSome, .bool (PT.splits lt m (h := k + 1) (its, ts.map GT.pt) x)]) h' at this
      have hgt : PT.get lt (h := k + 1) (its, ts.map GT.pt) x = none := hgt
      rw [hsp, hgt] at this
      exact this

theorem SetOk.all {tb m : Nat} {iso mn : Int} {ctr : Option Addr} {x : It} (htb : h0.size ≤ tb) (hT0 : (tb, 0, hd0 iso ctr) ∈ Z) (hT4 : (tb, 4, hd4 mn m) ∈ Z) (hm1 : m ≤ 1024) (ho : m % 2 = 1) : ∀ k, SetOk h0 Z tb m iso x k
  | 0 => SetOk.zero htb hT0 hT4 hm1
  | k + 1 => SetOk.succ htb hT0 hT4 hm1 ho (SetOk.all htb hT0 hT4 hm1 ho k)
end Go.Proofs.Ytkkappjbcgnacaa.Si
end
