/-
  Texts of this claim, laid together: S9 K0Ii KaIi KbIi KcIi KdIi KeIi KfIi KqIi KrIi KsIi KzIi KgIi KhIi.
  Conditions: as each of them tells.
-/
import Derived.Test.YthpmeccnddchpaaGreatRIndexesB3
set_option linter.unusedVariables false
set_option linter.unusedSimpArgs false
open List (set_cons_zero set_cons_succ eraseIdx_cons_zero eraseIdx_cons_succ cons_append nil_append map_append map_cons map_flatMap map_nil flatMap_cons flatMap_append flatMap_nil append_nil append_assoc length_cons length_nil length_append take_succ_cons drop_succ_cons take_zero drop_zero take_nil drop_nil size_toArray length_map)
set_option maxRecDepth 100000
set_option maxHeartbeats 8000000
section
namespace Go.Proofs.YthpmeccnddchpaaGreat
open Go.Hp
def z00_.j2 (s0 s1 s2 s6 s7 : Value) (h : Heap) (Q : Value → Heap → Prop) : Prop := nilck s6 fun b=>fld 1 b fun d=>load1 d h fun g=>nilck s7 fun i=>fld 1 i fun j=>load1 j h fun k=>arith (· + ·) k (.int .i64 1) fun l=>arith (· + ·) g l fun m=>nilck s6 fun n=>fld 1 n fun o=>store1 o m h fun h=>nilck s1 fun p=>fld 2 p fun q=>load1 q h fun u=>slc 2 u (some s2) none none fun v=>nilck s1 fun w=>fld 2 w fun x=>load1 x h fun y=>arith (· + ·) s2 (.int .i64 1) fun z=>slc 2 y (some z) none none fun b0=>cpy 2 v b0 h fun b1 h=>nilck s1 fun b2=>fld 2 b2 fun b3=>load1 b3 h fun b4=>nilck s1 fun b5=>fld 2 b5 fun b6=>load1 b6 h fun b7=>lenV b7 fun b8=>arith (· - ·) b8 (.int .i64 1) fun b9=>nilck s0 fun d0=>fld 7 d0 fun d1=>loadN 2 d1 h fun d2=>idx 2 b4 b9 fun d3=>storeN 2 d3 d2 h fun h=>nilck s1 fun d4=>fld 2 d4 fun d5=>load1 d5 h fun d6=>nilck s1 fun d7=>fld 2 d7 fun d8=>load1 d8 h fun d9=>lenV d9 fun g0=>arith (· - ·) g0 (.int .i64 1) fun g1=>slc 2 d6 none (some g1) none fun g2=>nilck s1 fun g3=>fld 2 g3 fun g4=>store1 g4 g2 h fun h=>nilck s1 fun g5=>fld 3 g5 fun g6=>load1 g6 h fun g7=>nilck g7 fun g8=>load1 g8 h fun g9=>arith (· + ·) s2 (.int .i64 1) fun i0=>slc 1 g9 (some i0) none none fun i1=>nilck s1 fun i2=>fld 3 i2 fun i3=>load1 i3 h fun i4=>nilck i4 fun i5=>load1 i5 h fun i6=>arith (· + ·) s2 (.int .i64 2) fun i7=>slc 1 i6 (some i7) none none fun i8=>cpy 1 i1 i8 h fun i9 h=>nilck s1 fun j0=>fld 3 j0 fun j1=>load1 j1 h fun j2=>nilck j2 fun j3=>load1 j3 h fun j4=>nilck s1 fun j5=>fld 3 j5 fun j6=>load1 j6 h fun j7=>nilck j7 fun j8=>load1 j8 h fun j9=>lenV j9 fun k0=>arith (· - ·) k0 (.int .i64 1) fun k1=>idx 1 j4 k1 fun k2=>store1 k2 (.pointer none) h fun h=>nilck s1 fun k3=>fld 3 k3 fun k4=>load1 k4 h fun k5=>nilck s1 fun k6=>fld 3 k6 fun k7=>load1 k7 h fun k8=>nilck k8 fun k9=>load1 k9 h fun l0=>nilck s1 fun l1=>fld 3 l1 fun l2=>load1 l2 h fun l3=>nilck l3 fun l4=>load1 l4 h fun l5=>lenV l5 fun l6=>arith (· - ·) l6 (.int .i64 1) fun l7=>slc 1 l0 none (some l7) none fun l8=>nilck k5 fun l9=>store1 l9 l8 h fun h=>Q (.tuple #[]) h
def z00_.j1 (s0 s1 s2 : Value) (h : Heap) (Q : Value → Heap → Prop) : Prop := nilck s1 fun b=>fld 3 b fun d=>load1 d h fun g=>nilck g fun i=>load1 i h fun j=>idx 1 j s2 fun k=>z0f_.call #[s0, k, (.bool true)] h fun l h=>nilck s1 fun m=>fld 3 m fun n=>load1 n h fun o=>nilck o fun p=>load1 p h fun q=>arith (· + ·) s2 (.int .i64 1) fun u=>idx 1 q u fun v=>z0f_.call #[s0, v, (.bool true)] h fun w h=>nilck l fun x=>fld 2 x fun y=>load1 y h fun z=>lenV z fun b0=>nilck w fun b1=>fld 2 b1 fun b2=>load1 b2 h fun b3=>lenV b3 fun b4=>arith (· + ·) b0 b4 fun b5=>nilck s0 fun b6=>fld 9 b6 fun b7=>load1 b7 h fun b8=>cmpI (fun a b=> decide (a < b)) b5 b8 fun b9=>ifV b9 (nilck l fun d0=>fld 2 d0 fun d1=>load1 d1 h fun d2=>nilck s1 fun d3=>fld 2 d3 fun d4=>load1 d4 h fun d5=>idx 2 d5 s2 fun d6=>loadN 2 d6 h fun d7=>mkSl (if 1 * 2 = 0 then [] else zeros [(.int .i64 0), (.int .i64 0)] 1) 1 [(0 * 2, 2, d7)] 31 h fun d8 h=>still1 d1 d2 h ∧ app 31 2 16 [(.int .i64 0), (.int .i64 0)] d2 d8 h fun d9 h=>nilck l fun g0=>fld 2 g0 fun g1=>store1 g1 d9 h fun h=>nilck l fun g2=>fld 2 g2 fun g3=>load1 g3 h fun g4=>nilck w fun g5=>fld 2 g5 fun g6=>load1 g6 h fun g7=>app 31 2 16 [(.int .i64 0), (.int .i64 0)] g4 g7 h fun g8 h=>nilck l fun g9=>fld 2 g9 fun i0=>store1 i0 g8 h fun h=>z1i_.call #[l] h fun i1 h=>notV i1 fun i2=>ifV i2 (nilck l fun i3=>fld 3 i3 fun i4=>load1 i4 h fun i5=>nilck l fun i6=>fld 3 i6 fun i7=>load1 i7 h fun i8=>nilck i8 fun i9=>load1 i9 h fun j0=>nilck w fun j1=>fld 3 j1 fun j2=>load1 j2 h fun j3=>nilck j3 fun j4=>load1 j4 h fun j5=>app 126 1 8 [(.pointer none)] j0 j5 h fun j6 h=>still1 i4 i5 h ∧ nilck i5 fun j7=>store1 j7 j6 h fun h=>z00_.j2 s0 s1 s2 l w h Q) (z00_.j2 s0 s1 s2 l w h Q)) (nilck l fun j8=>fld 2 j8 fun j9=>load1 j9 h fun k0=>lenV k0 fun k1=>nilck w fun k2=>fld 2 k2 fun k3=>load1 k3 h fun k4=>lenV k4 fun k5=>cmpI (fun a b=> decide (a > b)) k1 k5 fun k6=>ifV k6 (nilck w fun k7=>fld 2 k7 fun k8=>load1 k8 h fun k9=>nilck s0 fun l0=>fld 7 l0 fun l1=>loadN 2 l1 h fun l2=>mkSl (if 1 * 2 = 0 then [] else zeros [(.int .i64 0), (.int .i64 0)] 1) 1 [(0 * 2, 2, l2)] 31 h fun l3 h=>still1 k8 k9 h ∧ app 31 2 16 [(.int .i64 0), (.int .i64 0)] k9 l3 h fun l4 h=>nilck w fun l5=>fld 2 l5 fun l6=>store1 l6 l4 h fun h=>nilck w fun l7=>fld 2 l7 fun l8=>load1 l8 h fun l9=>slc 2 l9 (some (.int .i64 1)) none none fun m0=>nilck w fun m1=>fld 2 m1 fun m2=>load1 m2 h fun m3=>cpy 2 m0 m3 h fun m4 h=>nilck w fun m5=>fld 2 m5 fun m6=>load1 m6 h fun m7=>nilck s1 fun m8=>fld 2 m8 fun m9=>load1 m9 h fun n0=>idx 2 n0 s2 fun n1=>loadN 2 n1 h fun n2=>idx 2 m7 (.int .i64 0) fun n3=>storeN 2 n3 n2 h fun h=>nilck w fun n4=>fld 1 n4 fun n5=>load1 n5 h fun n6=>arith (· + ·) n6 (.int .i64 1) fun n7=>nilck w fun n8=>fld 1 n8 fun n9=>store1 n9 n7 h fun h=>nilck s1 fun o0=>fld 2 o0 fun o1=>load1 o1 h fun o2=>nilck l fun o3=>fld 2 o3 fun o4=>load1 o4 h fun o5=>nilck l fun o6=>fld 2 o6 fun o7=>load1 o7 h fun o8=>lenV o8 fun o9=>arith (· - ·) o9 (.int .i64 1) fun p0=>idx 2 o5 p0 fun p1=>loadN 2 p1 h fun p2=>idx 2 o2 s2 fun p3=>storeN 2 p3 p2 h fun h=>nilck l fun p4=>fld 2 p4 fun p5=>load1 p5 h fun p6=>nilck l fun p7=>fld 2 p7 fun p8=>load1 p8 h fun p9=>lenV p9 fun q0=>arith (· - ·) q0 (.int .i64 1) fun q1=>nilck s0 fun q2=>fld 7 q2 fun q3=>loadN 2 q3 h fun q4=>idx 2 p6 q1 fun q5=>storeN 2 q5 q4 h fun h=>nilck l fun q6=>fld 2 q6 fun q7=>load1 q7 h fun q8=>nilck l fun q9=>fld 2 q9 fun u0=>load1 u0 h fun u1=>lenV u1 fun u2=>arith (· - ·) u2 (.int .i64 1) fun u3=>slc 2 q8 none (some u3) none fun u4=>nilck l fun u5=>fld 2 u5 fun u6=>store1 u6 u4 h fun h=>nilck l fun u7=>fld 1 u7 fun u8=>load1 u8 h fun u9=>arith (· - ·) u9 (.int .i64 1) fun v0=>nilck l fun v1=>fld 1 v1 fun v2=>store1 v2 v0 h fun h=>z1i_.call #[l] h fun v3 h=>notV v3 fun v4=>ifV v4 (nilck w fun v5=>fld 3 v5 fun v6=>load1 v6 h fun v7=>nilck w fun v8=>fld 3 v8 fun v9=>load1 v9 h fun w0=>nilck w0 fun w1=>load1 w1 h fun w2=>mkSl (if 1 * 1 = 0 then [] else zeros [(.pointer none)] 1) 1 [(0 * 1, 1, (.pointer none))] 126 h fun w3 h=>still1 v6 v7 h ∧ still1 v9 w0 h ∧ still1 w1 w2 h ∧ app 126 1 8 [(.pointer none)] w2 w3 h fun w4 h=>still1 v6 v7 h ∧ nilck v7 fun w5=>store1 w5 w4 h fun h=>nilck w fun w6=>fld 3 w6 fun w7=>load1 w7 h fun w8=>nilck w8 fun w9=>load1 w9 h fun x0=>slc 1 x0 (some (.int .i64 1)) none none fun x1=>nilck w fun x2=>fld 3 x2 fun x3=>load1 x3 h fun x4=>nilck x4 fun x5=>load1 x5 h fun x6=>cpy 1 x1 x6 h fun x7 h=>nilck w fun x8=>fld 3 x8 fun x9=>load1 x9 h fun y0=>nilck y0 fun y1=>load1 y1 h fun y2=>nilck l fun y3=>fld 3 y3 fun y4=>load1 y4 h fun y5=>nilck y5 fun y6=>load1 y6 h fun y7=>nilck l fun y8=>fld 3 y8 fun y9=>load1 y9 h fun z0=>nilck z0 fun z1=>load1 z1 h fun z2=>lenV z2 fun z3=>arith (· - ·) z3 (.int .i64 1) fun z4=>idx 1 y7 z4 fun z5=>load1 z5 h fun z6=>idx 1 y2 (.int .i64 0) fun z7=>store1 z7 z6 h fun h=>nilck l fun z8=>fld 3 z8 fun z9=>load1 z9 h fun b0_0=>nilck b0_0 fun b1_0=>load1 b1_0 h fun b2_0=>nilck l fun b3_0=>fld 3 b3_0 fun b4_0=>load1 b4_0 h fun b5_0=>nilck b5_0 fun b6_0=>load1 b6_0 h fun b7_0=>lenV b7_0 fun b8_0=>arith (· - ·) b8_0 (.int .i64 1) fun b9_0=>idx 1 b2_0 b9_0 fun d0_0=>store1 d0_0 (.pointer none) h fun h=>nilck l fun d1_0=>fld 3 d1_0 fun d2_0=>load1 d2_0 h fun d3_0=>nilck l fun d4_0=>fld 3 d4_0 fun d5_0=>load1 d5_0 h fun d6_0=>nilck d6_0 fun d7_0=>load1 d7_0 h fun d8_0=>nilck l fun d9_0=>fld 3 d9_0 fun g0_0=>load1 g0_0 h fun g1_0=>nilck g1_0 fun g2_0=>load1 g2_0 h fun g3_0=>lenV g3_0 fun g4_0=>arith (· - ·) g4_0 (.int .i64 1) fun g5_0=>slc 1 d8_0 none (some g5_0) none fun g6_0=>nilck d3_0 fun g7_0=>store1 g7_0 g6_0 h fun h=>nilck l fun g8_0=>fld 1 g8_0 fun g9_0=>load1 g9_0 h fun i0_0=>nilck w fun i1_0=>fld 3 i1_0 fun i2_0=>load1 i2_0 h fun i3_0=>nilck i3_0 fun i4_0=>load1 i4_0 h fun i5_0=>idx 1 i5_0 (.int .i64 0) fun i6_0=>load1 i6_0 h fun i7_0=>nilck i7_0 fun i8_0=>fld 1 i8_0 fun i9_0=>load1 i9_0 h fun j0_0=>arith (· - ·) i0_0 j0_0 fun j1_0=>nilck l fun j2_0=>fld 1 j2_0 fun j3_0=>store1 j3_0 j1_0 h fun h=>nilck w fun j4_0=>fld 1 j4_0 fun j5_0=>load1 j5_0 h fun j6_0=>nilck w fun j7_0=>fld 3 j7_0 fun j8_0=>load1 j8_0 h fun j9_0=>nilck j9_0 fun k0_0=>load1 k0_0 h fun k1_0=>idx 1 k1_0 (.int .i64 0) fun k2_0=>load1 k2_0 h fun k3_0=>nilck k3_0 fun k4_0=>fld 1 k4_0 fun k5_0=>load1 k5_0 h fun k6_0=>arith (· + ·) j6_0 k6_0 fun k7_0=>nilck w fun k8_0=>fld 1 k8_0 fun k9_0=>store1 k9_0 k7_0 h fun h=>Q (.tuple #[]) h) (Q (.tuple #[]) h)) (nilck l fun l0_0=>fld 2 l0_0 fun l1_0=>load1 l1_0 h fun l2_0=>nilck s1 fun l3_0=>fld 2 l3_0 fun l4_0=>load1 l4_0 h fun l5_0=>idx 2 l5_0 s2 fun l6_0=>loadN 2 l6_0 h fun l7_0=>mkSl (if 1 * 2 = 0 then [] else zeros [(.int .i64 0), (.int .i64 0)] 1) 1 [(0 * 2, 2, l7_0)] 31 h fun l8_0 h=>still1 l1_0 l2_0 h ∧ app 31 2 16 [(.int .i64 0), (.int .i64 0)] l2_0 l8_0 h fun l9_0 h=>nilck l fun m0_0=>fld 2 m0_0 fun m1_0=>store1 m1_0 l9_0 h fun h=>nilck l fun m2_0=>fld 1 m2_0 fun m3_0=>load1 m3_0 h fun m4_0=>arith (· + ·) m4_0 (.int .i64 1) fun m5_0=>nilck l fun m6_0=>fld 1 m6_0 fun m7_0=>store1 m7_0 m5_0 h fun h=>nilck s1 fun m8_0=>fld 2 m8_0 fun m9_0=>load1 m9_0 h fun n0_0=>nilck w fun n1_0=>fld 2 n1_0 fun n2_0=>load1 n2_0 h fun n3_0=>idx 2 n3_0 (.int .i64 0) fun n4_0=>loadN 2 n4_0 h fun n5_0=>idx 2 n0_0 s2 fun n6_0=>storeN 2 n6_0 n5_0 h fun h=>nilck w fun n7_0=>fld 2 n7_0 fun n8_0=>load1 n8_0 h fun n9_0=>nilck w fun o0_0=>fld 2 o0_0 fun o1_0=>load1 o1_0 h fun o2_0=>slc 2 o2_0 (some (.int .i64 1)) none none fun o3_0=>cpy 2 n9_0 o3_0 h fun o4_0 h=>nilck w fun o5_0=>fld 2 o5_0 fun o6_0=>load1 o6_0 h fun o7_0=>nilck w fun o8_0=>fld 2 o8_0 fun o9_0=>load1 o9_0 h fun p0_0=>lenV p0_0 fun p1_0=>arith (· - ·) p1_0 (.int .i64 1) fun p2_0=>nilck s0 fun p3_0=>fld 7 p3_0 fun p4_0=>loadN 2 p4_0 h fun p5_0=>idx 2 o7_0 p2_0 fun p6_0=>storeN 2 p6_0 p5_0 h fun h=>nilck w fun p7_0=>fld 2 p7_0 fun p8_0=>load1 p8_0 h fun p9_0=>nilck w fun q0_0=>fld 2 q0_0 fun q1_0=>load1 q1_0 h fun q2_0=>lenV q2_0 fun q3_0=>arith (· - ·) q3_0 (.int .i64 1) fun q4_0=>slc 2 p9_0 none (some q4_0) none fun q5_0=>nilck w fun q6_0=>fld 2 q6_0 fun q7_0=>store1 q7_0 q5_0 h fun h=>nilck w fun q8_0=>fld 1 q8_0 fun q9_0=>load1 q9_0 h fun u0_0=>arith (· - ·) u0_0 (.int .i64 1) fun u1_0=>nilck w fun u2_0=>fld 1 u2_0 fun u3_0=>store1 u3_0 u1_0 h fun h=>z1i_.call #[l] h fun u4_0 h=>notV u4_0 fun u5_0=>ifV u5_0 (nilck l fun u6_0=>fld 3 u6_0 fun u7_0=>load1 u7_0 h fun u8_0=>nilck l fun u9_0=>fld 3 u9_0 fun v0_0=>load1 v0_0 h fun v1_0=>nilck v1_0 fun v2_0=>load1 v2_0 h fun v3_0=>nilck w fun v4_0=>fld 3 v4_0 fun v5_0=>load1 v5_0 h fun v6_0=>nilck v6_0 fun v7_0=>load1 v7_0 h fun v8_0=>idx 1 v8_0 (.int .i64 0) fun v9_0=>load1 v9_0 h fun w0_0=>mkSl (if 1 * 1 = 0 then [] else zeros [(.pointer none)] 1) 1 [(0 * 1, 1, w0_0)] 126 h fun w1_0 h=>still1 u7_0 u8_0 h ∧ still1 v0_0 v1_0 h ∧ still1 v2_0 v3_0 h ∧ app 126 1 8 [(.pointer none)] v3_0 w1_0 h fun w2_0 h=>still1 u7_0 u8_0 h ∧ nilck u8_0 fun w3_0=>store1 w3_0 w2_0 h fun h=>nilck w fun w4_0=>fld 3 w4_0 fun w5_0=>load1 w5_0 h fun w6_0=>nilck w6_0 fun w7_0=>load1 w7_0 h fun w8_0=>nilck w fun w9_0=>fld 3 w9_0 fun x0_0=>load1 x0_0 h fun x1_0=>nilck x1_0 fun x2_0=>load1 x2_0 h fun x3_0=>slc 1 x3_0 (some (.int .i64 1)) none none fun x4_0=>cpy 1 w8_0 x4_0 h fun x5_0 h=>nilck w fun x6_0=>fld 3 x6_0 fun x7_0=>load1 x7_0 h fun x8_0=>nilck x8_0 fun x9_0=>load1 x9_0 h fun y0_0=>nilck w fun y1_0=>fld 3 y1_0 fun y2_0=>load1 y2_0 h fun y3_0=>nilck y3_0 fun y4_0=>load1 y4_0 h fun y5_0=>lenV y5_0 fun y6_0=>arith (· - ·) y6_0 (.int .i64 1) fun y7_0=>idx 1 y0_0 y7_0 fun y8_0=>store1 y8_0 (.pointer none) h fun h=>nilck w fun y9_0=>fld 3 y9_0 fun z0_0=>load1 z0_0 h fun z1_0=>nilck w fun z2_0=>fld 3 z2_0 fun z3_0=>load1 z3_0 h fun z4_0=>nilck z4_0 fun z5_0=>load1 z5_0 h fun z6_0=>nilck w fun z7_0=>fld 3 z7_0 fun z8_0=>load1 z8_0 h fun z9_0=>nilck z9_0 fun b0_1=>load1 b0_1 h fun b1_1=>lenV b1_1 fun b2_1=>arith (· - ·) b2_1 (.int .i64 1) fun b3_1=>slc 1 z6_0 none (some b3_1) none fun b4_1=>nilck z1_0 fun b5_1=>store1 b5_1 b4_1 h fun h=>nilck l fun b6_1=>fld 1 b6_1 fun b7_1=>load1 b7_1 h fun b8_1=>nilck l fun b9_1=>fld 3 b9_1 fun d0_1=>load1 d0_1 h fun d1_1=>nilck d1_1 fun d2_1=>load1 d2_1 h fun d3_1=>nilck l fun d4_1=>fld 3 d4_1 fun d5_1=>load1 d5_1 h fun d6_1=>nilck d6_1 fun d7_1=>load1 d7_1 h fun d8_1=>lenV d8_1 fun d9_1=>arith (· - ·) d9_1 (.int .i64 1) fun g0_1=>idx 1 d3_1 g0_1 fun g1_1=>load1 g1_1 h fun g2_1=>nilck g2_1 fun g3_1=>fld 1 g3_1 fun g4_1=>load1 g4_1 h fun g5_1=>arith (· + ·) b8_1 g5_1 fun g6_1=>nilck l fun g7_1=>fld 1 g7_1 fun g8_1=>store1 g8_1 g6_1 h fun h=>nilck w fun g9_1=>fld 1 g9_1 fun i0_1=>load1 i0_1 h fun i1_1=>nilck l fun i2_1=>fld 3 i2_1 fun i3_1=>load1 i3_1 h fun i4_1=>nilck i4_1 fun i5_1=>load1 i5_1 h fun i6_1=>nilck l fun i7_1=>fld 3 i7_1 fun i8_1=>load1 i8_1 h fun i9_1=>nilck i9_1 fun j0_1=>load1 j0_1 h fun j1_1=>lenV j1_1 fun j2_1=>arith (· - ·) j2_1 (.int .i64 1) fun j3_1=>idx 1 i6_1 j3_1 fun j4_1=>load1 j4_1 h fun j5_1=>nilck j5_1 fun j6_1=>fld 1 j6_1 fun j7_1=>load1 j7_1 h fun j8_1=>arith (· - ·) i1_1 j8_1 fun j9_1=>nilck w fun k0_1=>fld 1 k0_1 fun k1_1=>store1 k1_1 j9_1 h fun h=>Q (.tuple #[]) h) (Q (.tuple #[]) h)))
def z00_.sh (a0 a1 a2 : Value) (h : Heap) (Q : Value → Heap → Prop) : Prop := nilck a1 fun b=>fld 2 b fun d=>load1 d h fun g=>lenV g fun i=>cmpI (fun a b=> a == b) a2 i fun j=>ifV j (arith (· - ·) a2 (.int .i64 1) fun k=>z00_.j1 a0 a1 k h Q) (z00_.j1 a0 a1 a2 h Q)
theorem z00_.body (a0 a1 a2 : Value) (h : Heap) (Q : Value → Heap → Prop) (H : z00_.sh a0 a1 a2 h Q) : z00_.call #[a0, a1, a2] h Q := by
 refine callsH_of (args := [a0, a1, a2]) Tryz.func97 rfl rfl ?_; unfold z00_.sh at H; refine WPc_seq (fun e h=> z00_.j1 (e 0) (e 1) (e 2) h Q) ?_ (fun e h H=> ?_)
 rotate_left
 · unfold z00_.j1 at H
   refine sR <| nM (e 0) rfl<|nM (e 1) rfl<|nT TF_149_3 T1_147 H fun _ _ _ H=> nP R_nil H fun _ H=> nL T1_146 H fun _ H=> nM (e 2) rfl<|nP (R_idx TE_146) H fun _ H=> vl_n <| H_call HB_85 H fun t26 h H=> nS t26 rfl<|vl_e <| sR ?_; refine nM (e 0) rfl<|nM (e 1) rfl<|nT TF_149_3 T1_147 H fun _ _ _ H=> nP R_nil H fun _ H=> nL T1_146 H fun _ H=> nM (e 2) rfl<|nP R_add H fun _ H=> nP (R_idx TE_146) H fun _ H=> vl_n <| H_call HB_85 H fun t37 h H=> nS t37 rfl<|vl_e <| WPc_seq' ?_; refine W_drawn [0,1,3,7,15,0,32,96,224,480,1023,0,2048,6144,14336,32767] (Tk 0<|Tk 1<|Tk 2<|Tk 3<|Tk 4<|Tk 5<|Tk 6<|Tk 7<|Tk 8<|Tk 9<|Tk 10<|Tk 11<|Tk 12<|Tk 13<|Tk 14<|Tk 15 .done) mixed (by kernel_rfl) <| pM t26 rfl rfl<|pT rfl rfl rfl TF_149_2 T1_29 H fun _ _ _ _ _ H=> pP rfl (R_len Tryz.underlying29) H fun _ H=> pM t37 rfl rfl<|pT rfl rfl rfl TF_149_2 T1_29 H fun _ _ _ _ _ H=> pP rfl (R_len Tryz.underlying29) H fun _ H=> pP rfl R_add H fun _ H=> pM (e 0) rfl rfl<|pP rfl R_nil H fun _ H=> ?_; refine pP rfl (R_fld TF_128_8) H fun _ H=> pL rfl T1_3 H fun _ _ _ H=> pP rfl R_lss H fun _ H=> vp_done ?_; refine cI H (fun H=> ?_) fun H=> ?_
   · refine WPc_seq' <| W_drawn [0,0,2,6,14,0,32,96,224,0,992,2016,4064,8190,16383,32767,65535] (Tk 0<|Tk 1<|Tk 2<|Tk 3<|Tk 4<|Tk 5<|Tk 6<|Tk 7<|Tk 8<|Tk 9<|Tk 10<|Tk 11<|Al 12<|Al 13<|Tk 14<|Tk 15<|Al 16 .done) mixed (by kernel_rfl) <| pM t26 rfl rfl<|pM t26 rfl rfl<|pT rfl rfl rfl TF_149_2 T1_29 H fun _ _ _ _ hat58 H=> pM (e 1) rfl rfl<|pT rfl rfl rfl TF_149_2 T1_29 H fun _ _ _ _ _ H=> pM (e 2) rfl rfl<|pP rfl (R_idx TE_29) H fun _ H=> tkL rfl<|R_loadN TN_31 H fun _ _ _ _ H _ _=> ?_
     refine aE rfl<|H_mkSl TZ_29 (by decide) rfl H rfl fun _ h ⟨S, H⟩=> ⟨(hskip rfl (hskip rfl (hcons rfl (still_1 S hat58) hnil))), aE rfl<|H_app TZ_29 TU_29 H fun _ h H=> ⟨(hskip rfl hnil), pB rfl rfl TF_149_2 H fun _ _ H=> aE rfl<|H_store1 TS_29 H fun h H=> ⟨hnil, vp_done <| WPc_seq' <| W_drawn [0,0,2,6,14,0,32,96,224,510,1023,2047,4095] (Tk 0<|Tk 1<|Tk 2<|Tk 3<|Tk 4<|Tk 5<|Tk 6<|Tk 7<|Tk 8<|Al 9<|Tk 10<|Tk 11<|Al 12 .done) mixed (by kernel_rfl) <| pM t26 rfl rfl<|pM t26 rfl rfl<|pT rfl rfl rfl TF_149_2 T1_29 H fun _ _ _ _ _ H=> pM t37 rfl rfl ?_⟩⟩⟩
     refine pT rfl rfl rfl TF_149_2 T1_29 H fun _ _ _ _ _ H=> aE rfl<|H_app TZ_29 TU_29 H fun _ h H=> ⟨(hskip rfl (hskip rfl hnil)), pB rfl rfl TF_149_2 H fun _ _ H=> aE rfl<|H_store1 TS_29 H fun h H=> ⟨hnil, vp_done ?_⟩⟩
     refine WPc_seq (fun e h=> z00_.j2 (e 0) (e 1) (e 2) (e 6) (e 7) h Q) ?_ (fun e h H=> ?_)
     rotate_left
     · unfold z00_.j2 at H
       refine WPc_seq' <| W_drawn [0,1,3,7,0,16,48,112,240,511,1023,2047,4095] (Tk 0<|Tk 1<|Tk 2<|Tk 3<|Tk 4<|Tk 5<|Tk 6<|Tk 7<|Tk 8<|Tk 9<|Tk 10<|Tk 11<|Al 12 .done) mixed (by kernel_rfl) <| pM (e 6) rfl rfl<|pT rfl rfl rfl TF_149_1 T1_3 H fun _ _ _ _ _ H=> pM (e 7) rfl rfl<|pT rfl rfl rfl TF_149_1 T1_3 H fun _ _ _ _ _ H=> pP rfl R_add H fun _ H=> pP rfl R_add H fun _ H=> pB rfl rfl TF_149_1 H fun _ _ H=> ?_; refine aE rfl<|H_store1 TS_3 H fun h H=> ⟨(hskip rfl (hskip rfl hnil)), vp_done <| WPc_seq' <| W_drawn [0,1,3,7,0,31,0,64,192,448,0,1024,4032,8191] (Tk 0<|Tk 1<|Tk 2<|Tk 3<|Tk 4<|Tk 5<|Tk 6<|Tk 7<|Tk 8<|Tk 9<|Tk 10<|Tk 11<|Tk 12<|Al 13 .done) mixed (by kernel_rfl) <| pM (e 1) rfl rfl<|pT rfl rfl rfl TF_149_2 T1_29 H fun _ _ _ _ _ H=> pM (e 2) rfl rfl<|pP rfl (R_slice TE_29 (by decide)) H fun _ H=> pM (e 1) rfl rfl<|pT rfl rfl rfl TF_149_2 T1_29 H fun _ _ _ _ _ H=> ?_⟩
       refine pM (e 2) rfl rfl<|pP rfl R_add H fun _ H=> pP rfl (R_slice TE_29 (by decide)) H fun _ H=> aE rfl<|H_cpy TE_29 H fun _ h H=> ⟨(hskip rfl (hskip rfl hnil)), vp_done <| WPc_seq' <| W_drawn [0,1,3,7,0,16,48,112,240,496,0,1024,3072,7168,16383,32767] (Tk 0<|Tk 1<|Tk 2<|Tk 3<|Tk 4<|Tk 5<|Tk 6<|Tk 7<|Tk 8<|Tk 9<|Tk 10<|Tk 11<|Tk 12<|Tk 13<|Tk 14<|Al 15 .done) mixed (by kernel_rfl) <| pM (e 1) rfl rfl<|pT rfl rfl rfl TF_149_2 T1_29 H fun _ _ _ _ _ H=> pM (e 1) rfl rfl<|pB rfl rfl TF_149_2 H fun _ _ H=> ?_⟩
       refine pL rfl T1_29 H fun _ _ _ H=> pP rfl (R_len Tryz.underlying29) H fun _ H=> pP rfl R_sub H fun _ H=> pM (e 0) rfl rfl<|pB rfl rfl TF_128_7 H fun _ _ H=> tkL rfl<|R_loadN TN_31 H fun _ _ _ _ H _ _=> pP rfl (R_idx TE_29) H fun _ H=> aE rfl<|H_storeN TS_31 H fun h H=> ⟨(hskip rfl (hskip rfl (hskip rfl hnil))), vp_done <| WPc_seq' <| W_drawn [0,0,2,6,14,0,32,96,224,480,992,2046,4095,8191,16383] (Tk 0<|Tk 1<|Tk 2<|Tk 3<|Tk 4<|Tk 5<|Tk 6<|Tk 7<|Tk 8<|Tk 9<|Tk 10<|Tk 11<|Tk 12<|Tk 13<|Al 14 .done) mixed (by kernel_rfl) <| pM (e 1) rfl rfl<|pM (e 1) rfl rfl ?_⟩
       refine pT rfl rfl rfl TF_149_2 T1_29 H fun _ _ _ _ _ H=> pM (e 1) rfl rfl<|pT rfl rfl rfl TF_149_2 T1_29 H fun _ _ _ _ _ H=> pP rfl (R_len Tryz.underlying29) H fun _ H=> pP rfl R_sub H fun _ H=> pP rfl (R_slice TE_29 (by decide)) H fun _ H=> pB rfl rfl TF_149_2 H fun _ _ H=> aE rfl<|H_store1 TS_29 H fun h H=> ⟨(hskip rfl (hskip rfl hnil)), vp_done ?_⟩
       refine WPc_seq' <| W_drawn [0,1,3,7,15,31,0,64,255,0,512,1536,3584,7680,15872,0,32768,130560,262143] (Tk 0<|Tk 1<|Tk 2<|Tk 3<|Tk 4<|Tk 5<|Tk 6<|Tk 7<|Tk 8<|Tk 9<|Tk 10<|Tk 11<|Tk 12<|Tk 13<|Tk 14<|Tk 15<|Tk 16<|Tk 17<|Al 18 .done) mixed (by kernel_rfl) <| pM (e 1) rfl rfl<|pT rfl rfl rfl TF_149_3 T1_147 H fun _ _ _ _ _ H=> pP rfl R_nil H fun _ H=> pL rfl T1_146 H fun _ _ _ H=> pM (e 2) rfl rfl<|pP rfl R_add H fun _ H=> pP rfl (R_slice TE_146 (by decide)) H fun _ H=> pM (e 1) rfl rfl<|pB rfl rfl TF_149_3 H fun _ _ H=> ?_; refine pL rfl T1_147 H fun _ _ _ H=> pP rfl R_nil H fun _ H=> pL rfl T1_146 H fun _ _ _ H=> pM (e 2) rfl rfl<|pP rfl R_add H fun _ H=> pP rfl (R_slice TE_146 (by decide)) H fun _ H=> aE rfl<|H_cpy TE_146 H fun _ h H=> ⟨(hskip rfl (hskip rfl (hskip rfl (hskip rfl hnil)))), vp_done <| WPc_seq' <| W_drawn [0,1,3,7,15,31,0,64,192,448,960,1984,4032,8128,16383,32767] (Tk 0<|Tk 1<|Tk 2<|Tk 3<|Tk 4<|Tk 5<|Tk 6<|Tk 7<|Tk 8<|Tk 9<|Tk 10<|Tk 11<|Tk 12<|Tk 13<|Tk 14<|Al 15 .done) mixed (by kernel_rfl) <| pM (e 1) rfl rfl<|pT rfl rfl rfl TF_149_3 T1_147 H fun _ _ _ _ _ H=> ?_⟩
       refine pP rfl R_nil H fun _ H=> pL rfl T1_146 H fun _ _ _ H=> pM (e 1) rfl rfl<|pT rfl rfl rfl TF_149_3 T1_147 H fun _ _ _ _ _ H=> pP rfl R_nil H fun _ H=> pL rfl T1_146 H fun _ _ _ H=> pP rfl (R_len Tryz.underlying146) H fun _ H=> pP rfl R_sub H fun _ H=> pP rfl (R_idx TE_146) H fun _ H=> aE rfl<|H_store1 TS_126 H fun h H=> ⟨(hskip rfl (hskip rfl (hskip rfl (hskip rfl hnil)))), vp_done <| W_drawn [0,1,3,7,0,16,48,112,240,496,0,1024,3072,7168,15360,31744,64512,130048,262128,524287,1048575] (Tk 0<|Tk 1<|Tk 2<|Tk 3<|Tk 4<|Tk 5<|Tk 6<|Tk 7<|Tk 8<|Tk 9<|Tk 10<|Tk 11<|Tk 12<|Tk 13<|Tk 14<|Tk 15<|Tk 16<|Tk 17<|Tk 18<|Tk 19<|Al 20 .done) mixed (by kernel_rfl) ?_⟩
       refine pM (e 1) rfl rfl<|pT rfl rfl rfl TF_149_3 T1_147 H fun _ _ _ _ _ H=> pM (e 1) rfl rfl<|pT rfl rfl rfl TF_149_3 T1_147 H fun _ _ _ _ _ H=> pP rfl R_nil H fun _ H=> pL rfl T1_146 H fun _ _ _ H=> pM (e 1) rfl rfl<|pT rfl rfl rfl TF_149_3 T1_147 H fun _ _ _ _ _ H=> ?_; exact pP rfl R_nil H fun _ H=> pL rfl T1_146 H fun _ _ _ H=> pP rfl (R_len Tryz.underlying146) H fun _ H=> pP rfl R_sub H fun _ H=> pP rfl (R_slice TE_146 (by decide)) H fun _ H=> pP rfl R_nil H fun _ H=> aE rfl<|H_store1 TS_146 H fun h H=> ⟨(hskip rfl (hskip rfl (hskip rfl (hskip rfl (hskip rfl hnil))))), vp_done <| resH_of rfl<|H⟩
     refine sR <| nM t26 rfl<|vl_n <| H_call HB_87 H fun _ h H=> nP R_not H fun _ H=> vl_e ?_; refine cI H (fun H=> ?_) fun H=> ?_
     · refine W_drawn [0,1,3,7,0,16,48,112,240,496,0,1024,3072,7168,15360,31744,65520,131071,262143] (Tk 0<|Tk 1<|Tk 2<|Tk 3<|Tk 4<|Tk 5<|Tk 6<|Tk 7<|Tk 8<|Tk 9<|Tk 10<|Tk 11<|Tk 12<|Tk 13<|Tk 14<|Tk 15<|Al 16<|Tk 17<|Al 18 .done) mixed (by kernel_rfl) <| pM t26 rfl rfl<|pT rfl rfl rfl TF_149_3 T1_147 H fun _ _ _ _ hat88 H=> pM t26 rfl rfl<|pT rfl rfl rfl TF_149_3 T1_147 H fun _ _ _ _ _ H=> pP rfl R_nil H fun _ H=> pL rfl T1_146 H fun _ _ _ H=> pM t37 rfl rfl<|pB rfl rfl TF_149_3 H fun _ _ H=> ?_
       exact pL rfl T1_147 H fun _ _ _ H=> pP rfl R_nil H fun _ H=> pL rfl T1_146 H fun _ _ _ H=> aE rfl<|H_app TZ_146 TU_146 H fun _ h ⟨S_2, H⟩=> ⟨(hskip rfl (hskip rfl (hskip rfl (hskip rfl (hcons rfl (still_1 S_2 hat88) hnil))))), pP rfl R_nil H fun _ H=> aE rfl<|H_store1 TS_146 H fun h H=> ⟨(hskip rfl hnil), vp_done <| H⟩⟩
     · exact WPc_skip <| H
   · refine WPc_seq' <| W_drawn [0,1,3,7,15,0,32,96,224,480,1023] (Tk 0<|Tk 1<|Tk 2<|Tk 3<|Tk 4<|Tk 5<|Tk 6<|Tk 7<|Tk 8<|Tk 9<|Tk 10 .done) mixed (by kernel_rfl) <| pM t26 rfl rfl<|pT rfl rfl rfl TF_149_2 T1_29 H fun _ _ _ _ _ H=> pP rfl (R_len Tryz.underlying29) H fun _ H=> pM t37 rfl rfl<|pT rfl rfl rfl TF_149_2 T1_29 H fun _ _ _ _ _ H=> pP rfl (R_len Tryz.underlying29) H fun _ H=> pP rfl R_gtr H fun _ H=> vp_done ?_
     refine cI H (fun H=> ?_) fun H=> ?_
     · refine WPc_seq' <| W_drawn [0,0,2,6,14,0,32,96,224,480,1022,2047,4095,8191] (Tk 0<|Tk 1<|Tk 2<|Tk 3<|Tk 4<|Tk 5<|Tk 6<|Tk 7<|Tk 8<|Al 9<|Al 10<|Tk 11<|Tk 12<|Al 13 .done) mixed (by kernel_rfl) <| pM t37 rfl rfl<|pM t37 rfl rfl<|pT rfl rfl rfl TF_149_2 T1_29 H fun _ _ _ _ hat227 H=> pM (e 0) rfl rfl<|pB rfl rfl TF_128_7 H fun _ _ H=> tkL rfl<|R_loadN TN_31 H fun _ _ _ _ H _ _=> aE rfl<|H_mkSl TZ_29 (by decide) rfl H rfl fun _ h ⟨S_3, H⟩=> ⟨(hskip rfl (hcons rfl (still_1 S_3 hat227) hnil)), aE rfl<|H_app TZ_29 TU_29 H fun _ h H=> ⟨(hskip rfl hnil), pP rfl R_nil H fun _ H=> ?_⟩⟩
       refine pP rfl (R_fld TF_149_2) H fun _ H=> aE rfl<|H_store1 TS_29 H fun h H=> ⟨hnil, vp_done <| WPc_seq' <| W_drawn [0,1,3,7,15,0,32,96,224,511] (Tk 0<|Tk 1<|Tk 2<|Tk 3<|Tk 4<|Tk 5<|Tk 6<|Tk 7<|Tk 8<|Al 9 .done) mixed (by kernel_rfl) <| pM t37 rfl rfl<|pT rfl rfl rfl TF_149_2 T1_29 H fun _ _ _ _ _ H=> pP rfl (R_slice TE_29 (by decide)) H fun _ H=> pM t37 rfl rfl<|pT rfl rfl rfl TF_149_2 T1_29 H fun _ _ _ _ _ H=> ?_⟩
       refine aE rfl<|H_cpy TE_29 H fun _ h H=> ⟨(hskip rfl (hskip rfl hnil)), vp_done <| WPc_seq' <| W_drawn [0,1,3,7,0,16,48,112,0,496,1008,2047,4095] (Tk 0<|Tk 1<|Tk 2<|Tk 3<|Tk 4<|Tk 5<|Tk 6<|Tk 7<|Tk 8<|Tk 9<|Tk 10<|Tk 11<|Al 12 .done) mixed (by kernel_rfl) <| pM t37 rfl rfl<|pT rfl rfl rfl TF_149_2 T1_29 H fun _ _ _ _ _ H=> pM (e 1) rfl rfl<|pT rfl rfl rfl TF_149_2 T1_29 H fun _ _ _ _ _ H=> pM (e 2) rfl rfl<|pP rfl (R_idx TE_29) H fun _ H=> ?_⟩
       refine tkL rfl<|R_loadN TN_31 H fun _ _ _ _ H _ _=> pP rfl (R_idx TE_29) H fun _ H=> aE rfl<|H_storeN TS_31 H fun h H=> ⟨(hskip rfl (hskip rfl (hskip rfl hnil))), vp_done <| sR <| nM t37 rfl<|nT TF_149_1 T1_3 H fun _ _ _ H=> nP R_add H fun _ H=> nB TF_149_1 H fun _ _ H=> vl_n <| H_store1 TS_3 H fun h H=> vl_e ?_⟩
       refine WPc_seq' <| W_drawn [0,1,3,7,0,0,32,96,224,0,512,1536,3584,7680,15872,32736,65504,131071,262143] (Tk 0<|Tk 1<|Tk 2<|Tk 3<|Tk 4<|Tk 5<|Tk 6<|Tk 7<|Tk 8<|Tk 9<|Tk 10<|Tk 11<|Tk 12<|Tk 13<|Tk 14<|Tk 15<|Tk 16<|Tk 17<|Al 18 .done) mixed (by kernel_rfl) <| pM (e 1) rfl rfl<|pT rfl rfl rfl TF_149_2 T1_29 H fun _ _ _ _ _ H=> pM (e 2) rfl rfl<|pM t26 rfl rfl<|pT rfl rfl rfl TF_149_2 T1_29 H fun _ _ _ _ _ H=> pM t26 rfl rfl<|pB rfl rfl TF_149_2 H fun _ _ H=> ?_; refine pL rfl T1_29 H fun _ _ _ H=> pP rfl (R_len Tryz.underlying29) H fun _ H=> pP rfl R_sub H fun _ H=> pP rfl (R_idx TE_29) H fun _ H=> tkL rfl<|R_loadN TN_31 H fun _ _ _ _ H _ _=> pP rfl (R_idx TE_29) H fun _ H=> aE rfl<|H_storeN TS_31 H fun h H=> ⟨(hskip rfl (hskip rfl (hskip rfl (hskip rfl hnil)))), vp_done <| WPc_seq' <| W_drawn [0,1,3,7,0,16,48,112,240,496,0,1024,3072,7168,16383,32767] (Tk 0<|Tk 1<|Tk 2<|Tk 3<|Tk 4<|Tk 5<|Tk 6<|Tk 7<|Tk 8<|Tk 9<|Tk 10<|Tk 11<|Tk 12<|Tk 13<|Tk 14<|Al 15 .done) mixed (by kernel_rfl) <| pM t26 rfl rfl<|pT rfl rfl rfl TF_149_2 T1_29 H fun _ _ _ _ _ H=> ?_⟩
       refine pM t26 rfl rfl<|pT rfl rfl rfl TF_149_2 T1_29 H fun _ _ _ _ _ H=> pP rfl (R_len Tryz.underlying29) H fun _ H=> pP rfl R_sub H fun _ H=> pM (e 0) rfl rfl<|pB rfl rfl TF_128_7 H fun _ _ H=> tkL rfl<|R_loadN TN_31 H fun _ _ _ _ H _ _=> pP rfl (R_idx TE_29) H fun _ H=> aE rfl<|H_storeN TS_31 H fun h H=> ⟨(hskip rfl (hskip rfl (hskip rfl hnil))), vp_done <| WPc_seq' ?_⟩
       refine W_drawn [0,0,2,6,14,0,32,96,224,480,992,2046,4095,8191,16383] (Tk 0<|Tk 1<|Tk 2<|Tk 3<|Tk 4<|Tk 5<|Tk 6<|Tk 7<|Tk 8<|Tk 9<|Tk 10<|Tk 11<|Tk 12<|Tk 13<|Al 14 .done) mixed (by kernel_rfl) <| pM t26 rfl rfl<|pM t26 rfl rfl<|pT rfl rfl rfl TF_149_2 T1_29 H fun _ _ _ _ _ H=> pM t26 rfl rfl<|pT rfl rfl rfl TF_149_2 T1_29 H fun _ _ _ _ _ H=> pP rfl (R_len Tryz.underlying29) H fun _ H=> pP rfl R_sub H fun _ H=> pP rfl (R_slice TE_29 (by decide)) H fun _ H=> pP rfl R_nil H fun _ H=> ?_; refine pP rfl (R_fld TF_149_2) H fun _ H=> aE rfl<|H_store1 TS_29 H fun h H=> ⟨(hskip rfl (hskip rfl hnil)), vp_done <| sR <| nM t26 rfl<|nT TF_149_1 T1_3 H fun _ _ _ H=> nP R_sub H fun _ H=> nB TF_149_1 H fun _ _ H=> vl_n <| H_store1 TS_3 H fun h H=> vl_e <| sR ?_⟩
       refine nM t26 rfl<|vl_n <| H_call HB_87 H fun _ h H=> nP R_not H fun _ H=> vl_e ?_; refine cI H (fun H=> ?_) fun H=> ?_
       · refine WPc_seq' <| W_drawn [0,1,3,7,0,16,48,112,240,496,0,2032,4095,8191] (Tk 0<|Tk 1<|Tk 2<|Tk 3<|Tk 4<|Tk 5<|Tk 6<|Tk 7<|Tk 8<|Tk 9<|Al 10<|Al 11<|Tk 12<|Al 13 .done) mixed (by kernel_rfl) <| pM t37 rfl rfl<|pT rfl rfl rfl TF_149_3 T1_147 H fun _ _ _ _ hat325 H=> pM t37 rfl rfl<|pT rfl rfl rfl TF_149_3 T1_147 H fun _ _ _ _ hat329 H=> pP rfl R_nil H fun _ H=> pL rfl T1_146 H fun _ _ hat331 H=> aE rfl<|H_mkSl TZ_146 (by decide) rfl H rfl fun _ h ⟨S_4, S_5, S_6, H⟩=> ⟨(hcons rfl (still_1 S_6 hat331) (hcons rfl (still_1 S_5 hat329) (hcons rfl (still_1 S_4 hat325) hnil))), aE rfl<|H_app TZ_146 TU_146 H fun _ h ⟨S_7, H⟩=> ⟨(hskip rfl (hskip rfl (hcons rfl (still_1 S_7 hat325) hnil))), ?_⟩⟩
         refine pP rfl R_nil H fun _ H=> aE rfl<|H_store1 TS_146 H fun h H=> ⟨(hskip rfl hnil), vp_done <| WPc_seq' <| W_drawn [0,1,3,7,15,31,63,0,128,384,896,1920,3968,8191] (Tk 0<|Tk 1<|Tk 2<|Tk 3<|Tk 4<|Tk 5<|Tk 6<|Tk 7<|Tk 8<|Tk 9<|Tk 10<|Tk 11<|Tk 12<|Al 13 .done) mixed (by kernel_rfl) <| pM t37 rfl rfl<|pT rfl rfl rfl TF_149_3 T1_147 H fun _ _ _ _ _ H=> pP rfl R_nil H fun _ H=> pL rfl T1_146 H fun _ _ _ H=> pP rfl (R_slice TE_146 (by decide)) H fun _ H=> pM t37 rfl rfl<|pP rfl R_nil H fun _ H=> ?_⟩
         refine pP rfl (R_fld TF_149_3) H fun _ H=> pL rfl T1_147 H fun _ _ _ H=> pP rfl R_nil H fun _ H=> pL rfl T1_146 H fun _ _ _ H=> aE rfl<|H_cpy TE_146 H fun _ h H=> ⟨(hskip rfl (hskip rfl (hskip rfl (hskip rfl hnil)))), vp_done <| WPc_seq' <| W_drawn [0,1,3,7,15,31,0,64,192,448,960,1984,0,4096,12288,28672,61440,126976,258048,520192,1048512,2097088,4194303,8388607] (Tk 0<|Tk 1<|Tk 2<|Tk 3<|Tk 4<|Tk 5<|Tk 6<|Tk 7<|Tk 8<|Tk 9<|Tk 10<|Tk 11<|Tk 12<|Tk 13<|Tk 14<|Tk 15<|Tk 16<|Tk 17<|Tk 18<|Tk 19<|Tk 20<|Tk 21<|Tk 22<|Al 23 .done) mixed (by kernel_rfl) <| pM t37 rfl rfl<|pT rfl rfl rfl TF_149_3 T1_147 H fun _ _ _ _ _ H=> pP rfl R_nil H fun _ H=> pL rfl T1_146 H fun _ _ _ H=> ?_⟩
         refine pM t26 rfl rfl<|pT rfl rfl rfl TF_149_3 T1_147 H fun _ _ _ _ _ H=> pP rfl R_nil H fun _ H=> pL rfl T1_146 H fun _ _ _ H=> pM t26 rfl rfl<|pT rfl rfl rfl TF_149_3 T1_147 H fun _ _ _ _ _ H=> pP rfl R_nil H fun _ H=> pL rfl T1_146 H fun _ _ _ H=> pP rfl (R_len Tryz.underlying146) H fun _ H=> pP rfl R_sub H fun _ H=> ?_; refine pP rfl (R_idx TE_146) H fun _ H=> pL rfl T1_126 H fun _ _ _ H=> pP rfl (R_idx TE_146) H fun _ H=> aE rfl<|H_store1 TS_126 H fun h H=> ⟨(hskip rfl (hskip rfl (hskip rfl (hskip rfl (hskip rfl (hskip rfl (hskip rfl hnil))))))), vp_done <| WPc_seq' <| W_drawn [0,1,3,7,15,31,0,64,192,448,960,1984,4032,8128,16383,32767] (Tk 0<|Tk 1<|Tk 2<|Tk 3<|Tk 4<|Tk 5<|Tk 6<|Tk 7<|Tk 8<|Tk 9<|Tk 10<|Tk 11<|Tk 12<|Tk 13<|Tk 14<|Al 15 .done) mixed (by kernel_rfl) <| pM t26 rfl rfl<|pT rfl rfl rfl TF_149_3 T1_147 H fun _ _ _ _ _ H=> pP rfl R_nil H fun _ H=> pL rfl T1_146 H fun _ _ _ H=> pM t26 rfl rfl ?_⟩
         refine pT rfl rfl rfl TF_149_3 T1_147 H fun _ _ _ _ _ H=> pP rfl R_nil H fun _ H=> pL rfl T1_146 H fun _ _ _ H=> pP rfl (R_len Tryz.underlying146) H fun _ H=> pP rfl R_sub H fun _ H=> pP rfl (R_idx TE_146) H fun _ H=> aE rfl<|H_store1 TS_126 H fun h H=> ⟨(hskip rfl (hskip rfl (hskip rfl (hskip rfl hnil)))), vp_done <| WPc_seq' <| W_drawn [0,1,3,7,0,16,48,112,240,496,0,1024,3072,7168,15360,31744,64512,130048,262128,524287,1048575] (Tk 0<|Tk 1<|Tk 2<|Tk 3<|Tk 4<|Tk 5<|Tk 6<|Tk 7<|Tk 8<|Tk 9<|Tk 10<|Tk 11<|Tk 12<|Tk 13<|Tk 14<|Tk 15<|Tk 16<|Tk 17<|Tk 18<|Tk 19<|Al 20 .done) mixed (by kernel_rfl) <| pM t26 rfl rfl<|pP rfl R_nil H fun _ H=> ?_⟩
         refine pP rfl (R_fld TF_149_3) H fun _ H=> pL rfl T1_147 H fun _ _ _ H=> pM t26 rfl rfl<|pT rfl rfl rfl TF_149_3 T1_147 H fun _ _ _ _ _ H=> pP rfl R_nil H fun _ H=> pL rfl T1_146 H fun _ _ _ H=> pM t26 rfl rfl<|pT rfl rfl rfl TF_149_3 T1_147 H fun _ _ _ _ _ H=> pP rfl R_nil H fun _ H=> pL rfl T1_146 H fun _ _ _ H=> ?_; refine pP rfl (R_len Tryz.underlying146) H fun _ H=> pP rfl R_sub H fun _ H=> pP rfl (R_slice TE_146 (by decide)) H fun _ H=> pP rfl R_nil H fun _ H=> aE rfl<|H_store1 TS_146 H fun h H=> ⟨(hskip rfl (hskip rfl (hskip rfl (hskip rfl (hskip rfl hnil))))), vp_done <| WPc_seq' <| W_drawn [0,1,3,7,0,16,48,112,240,496,1008,2032,4080,8176,16368,32767,65535,131071,262143] (Tk 0<|Tk 1<|Tk 2<|Tk 3<|Tk 4<|Tk 5<|Tk 6<|Tk 7<|Tk 8<|Tk 9<|Tk 10<|Tk 11<|Tk 12<|Tk 13<|Tk 14<|Tk 15<|Tk 16<|Tk 17<|Al 18 .done) mixed (by kernel_rfl) <| pM t26 rfl rfl<|pT rfl rfl rfl TF_149_1 T1_3 H fun _ _ _ _ _ H=> pM t37 rfl rfl<|pP rfl R_nil H fun _ H=> ?_⟩
         refine pP rfl (R_fld TF_149_3) H fun _ H=> pL rfl T1_147 H fun _ _ _ H=> pP rfl R_nil H fun _ H=> pL rfl T1_146 H fun _ _ _ H=> pP rfl (R_idx TE_146) H fun _ H=> pL rfl T1_126 H fun _ _ _ H=> pT rfl rfl rfl TF_149_1 T1_3 H fun _ _ _ _ _ H=> pP rfl R_sub H fun _ H=> pB rfl rfl TF_149_1 H fun _ _ H=> aE rfl<|H_store1 TS_3 H fun h H=> ⟨(hskip rfl (hskip rfl (hskip rfl (hskip rfl (hskip rfl hnil))))), vp_done ?_⟩
         refine W_drawn [0,1,3,7,0,16,48,112,240,496,1008,2032,4080,8176,16368,32767,65535,131071,262143] (Tk 0<|Tk 1<|Tk 2<|Tk 3<|Tk 4<|Tk 5<|Tk 6<|Tk 7<|Tk 8<|Tk 9<|Tk 10<|Tk 11<|Tk 12<|Tk 13<|Tk 14<|Tk 15<|Tk 16<|Tk 17<|Al 18 .done) mixed (by kernel_rfl) <| pM t37 rfl rfl<|pT rfl rfl rfl TF_149_1 T1_3 H fun _ _ _ _ _ H=> pM t37 rfl rfl<|pT rfl rfl rfl TF_149_3 T1_147 H fun _ _ _ _ _ H=> pP rfl R_nil H fun _ H=> pL rfl T1_146 H fun _ _ _ H=> pP rfl (R_idx TE_146) H fun _ H=> pL rfl T1_126 H fun _ _ _ H=> pP rfl R_nil H fun _ H=> ?_; exact pP rfl (R_fld TF_149_1) H fun _ H=> pL rfl T1_3 H fun _ _ _ H=> pP rfl R_add H fun _ H=> pB rfl rfl TF_149_1 H fun _ _ H=> aE rfl<|H_store1 TS_3 H fun h H=> ⟨(hskip rfl (hskip rfl (hskip rfl (hskip rfl (hskip rfl hnil))))), vp_done <| resH_of rfl<|H⟩
       · exact WPc_skip <| resH_of rfl<|H
     · refine WPc_seq' <| W_drawn [0,0,2,6,14,0,32,96,224,0,992,2016,4064,8190,16383,32767,65535] (Tk 0<|Tk 1<|Tk 2<|Tk 3<|Tk 4<|Tk 5<|Tk 6<|Tk 7<|Tk 8<|Tk 9<|Tk 10<|Tk 11<|Al 12<|Al 13<|Tk 14<|Tk 15<|Al 16 .done) mixed (by kernel_rfl) <| pM t26 rfl rfl<|pM t26 rfl rfl<|pT rfl rfl rfl TF_149_2 T1_29 H fun _ _ _ _ hat447 H=> pM (e 1) rfl rfl<|pT rfl rfl rfl TF_149_2 T1_29 H fun _ _ _ _ _ H=> pM (e 2) rfl rfl<|pP rfl (R_idx TE_29) H fun _ H=> tkL rfl<|R_loadN TN_31 H fun _ _ _ _ H _ _=> ?_
       refine aE rfl<|H_mkSl TZ_29 (by decide) rfl H rfl fun _ h ⟨S_8, H⟩=> ⟨(hskip rfl (hskip rfl (hcons rfl (still_1 S_8 hat447) hnil))), aE rfl<|H_app TZ_29 TU_29 H fun _ h H=> ⟨(hskip rfl hnil), pB rfl rfl TF_149_2 H fun _ _ H=> aE rfl<|H_store1 TS_29 H fun h H=> ⟨hnil, vp_done <| sR <| nM t26 rfl<|nT TF_149_1 T1_3 H fun _ _ _ H=> nP R_add H fun _ H=> nB TF_149_1 H fun _ _ H=> ?_⟩⟩⟩
       refine vl_n <| H_store1 TS_3 H fun h H=> vl_e <| WPc_seq' <| W_drawn [0,1,3,7,0,0,32,96,224,480,992,2047,4095] (Tk 0<|Tk 1<|Tk 2<|Tk 3<|Tk 4<|Tk 5<|Tk 6<|Tk 7<|Tk 8<|Tk 9<|Tk 10<|Tk 11<|Al 12 .done) mixed (by kernel_rfl) <| pM (e 1) rfl rfl<|pT rfl rfl rfl TF_149_2 T1_29 H fun _ _ _ _ _ H=> pM (e 2) rfl rfl<|pM t37 rfl rfl<|pT rfl rfl rfl TF_149_2 T1_29 H fun _ _ _ _ _ H=> pP rfl (R_idx TE_29) H fun _ H=> ?_; refine tkL rfl<|R_loadN TN_31 H fun _ _ _ _ H _ _=> pP rfl (R_idx TE_29) H fun _ H=> aE rfl<|H_storeN TS_31 H fun h H=> ⟨(hskip rfl (hskip rfl (hskip rfl hnil))), vp_done <| WPc_seq' <| W_drawn [0,1,3,7,0,16,48,112,240,511] (Tk 0<|Tk 1<|Tk 2<|Tk 3<|Tk 4<|Tk 5<|Tk 6<|Tk 7<|Tk 8<|Al 9 .done) mixed (by kernel_rfl) <| pM t37 rfl rfl<|pT rfl rfl rfl TF_149_2 T1_29 H fun _ _ _ _ _ H=> pM t37 rfl rfl<|pT rfl rfl rfl TF_149_2 T1_29 H fun _ _ _ _ _ H=> ?_⟩
       refine pP rfl (R_slice TE_29 (by decide)) H fun _ H=> aE rfl<|H_cpy TE_29 H fun _ h H=> ⟨(hskip rfl (hskip rfl hnil)), vp_done <| WPc_seq' <| W_drawn [0,1,3,7,0,16,48,112,240,496,0,1024,3072,7168,16383,32767] (Tk 0<|Tk 1<|Tk 2<|Tk 3<|Tk 4<|Tk 5<|Tk 6<|Tk 7<|Tk 8<|Tk 9<|Tk 10<|Tk 11<|Tk 12<|Tk 13<|Tk 14<|Al 15 .done) mixed (by kernel_rfl) <| pM t37 rfl rfl<|pT rfl rfl rfl TF_149_2 T1_29 H fun _ _ _ _ _ H=> pM t37 rfl rfl<|pT rfl rfl rfl TF_149_2 T1_29 H fun _ _ _ _ _ H=> pP rfl (R_len Tryz.underlying29) H fun _ H=> ?_⟩
       refine pP rfl R_sub H fun _ H=> pM (e 0) rfl rfl<|pB rfl rfl TF_128_7 H fun _ _ H=> tkL rfl<|R_loadN TN_31 H fun _ _ _ _ H _ _=> pP rfl (R_idx TE_29) H fun _ H=> aE rfl<|H_storeN TS_31 H fun h H=> ⟨(hskip rfl (hskip rfl (hskip rfl hnil))), vp_done <| WPc_seq' <| W_drawn [0,0,2,6,14,0,32,96,224,480,992,2046,4095,8191,16383] (Tk 0<|Tk 1<|Tk 2<|Tk 3<|Tk 4<|Tk 5<|Tk 6<|Tk 7<|Tk 8<|Tk 9<|Tk 10<|Tk 11<|Tk 12<|Tk 13<|Al 14 .done) mixed (by kernel_rfl) <| pM t37 rfl rfl<|pM t37 rfl rfl<|pB rfl rfl TF_149_2 H fun _ _ H=> ?_⟩
       refine pL rfl T1_29 H fun _ _ _ H=> pM t37 rfl rfl<|pT rfl rfl rfl TF_149_2 T1_29 H fun _ _ _ _ _ H=> pP rfl (R_len Tryz.underlying29) H fun _ H=> pP rfl R_sub H fun _ H=> pP rfl (R_slice TE_29 (by decide)) H fun _ H=> pB rfl rfl TF_149_2 H fun _ _ H=> aE rfl<|H_store1 TS_29 H fun h H=> ⟨(hskip rfl (hskip rfl hnil)), vp_done <| sR <| nM t37 rfl ?_⟩
       refine nT TF_149_1 T1_3 H fun _ _ _ H=> nP R_sub H fun _ H=> nB TF_149_1 H fun _ _ H=> vl_n <| H_store1 TS_3 H fun h H=> vl_e <| sR <| nM t26 rfl<|vl_n <| H_call HB_87 H fun _ h H=> nP R_not H fun _ H=> vl_e ?_; refine cI H (fun H=> ?_) fun H=> ?_
       · refine WPc_seq' <| W_drawn [0,1,3,7,0,16,48,112,240,496,0,1024,3072,7168,15360,31744,64512,130048,261120,524272,1048575,2097151] (Tk 0<|Tk 1<|Tk 2<|Tk 3<|Tk 4<|Tk 5<|Tk 6<|Tk 7<|Tk 8<|Tk 9<|Tk 10<|Tk 11<|Tk 12<|Tk 13<|Tk 14<|Tk 15<|Tk 16<|Tk 17<|Al 18<|Al 19<|Tk 20<|Al 21 .done) mixed (by kernel_rfl) <| pM t26 rfl rfl<|pT rfl rfl rfl TF_149_3 T1_147 H fun _ _ _ _ hat530 H=> pM t26 rfl rfl<|pT rfl rfl rfl TF_149_3 T1_147 H fun _ _ _ _ hat534 H=> pP rfl R_nil H fun _ H=> pL rfl T1_146 H fun _ _ hat536 H=> pM t37 rfl rfl<|pP rfl R_nil H fun _ H=> ?_
         refine pP rfl (R_fld TF_149_3) H fun _ H=> pL rfl T1_147 H fun _ _ _ H=> pP rfl R_nil H fun _ H=> pL rfl T1_146 H fun _ _ _ H=> pP rfl (R_idx TE_146) H fun _ H=> pL rfl T1_126 H fun _ _ _ H=> aE rfl<|H_mkSl TZ_146 (by decide) rfl H rfl fun _ h ⟨S_9, S_10, S_11, H⟩=> ⟨(hskip rfl (hskip rfl (hskip rfl (hcons rfl (still_1 S_11 hat536) (hcons rfl (still_1 S_10 hat534) (hcons rfl (still_1 S_9 hat530) hnil)))))), aE rfl<|H_app TZ_146 TU_146 H fun _ h ⟨S_12, H⟩=> ⟨(hskip rfl (hskip rfl (hcons rfl (still_1 S_12 hat530) hnil))), pP rfl R_nil H fun _ H=> aE rfl<|H_store1 TS_146 H fun h H=> ⟨(hskip rfl hnil), vp_done <| WPc_seq' <| W_drawn [0,1,3,7,15,31,0,64,192,448,960,1984,4032,8191] (Tk 0<|Tk 1<|Tk 2<|Tk 3<|Tk 4<|Tk 5<|Tk 6<|Tk 7<|Tk 8<|Tk 9<|Tk 10<|Tk 11<|Tk 12<|Al 13 .done) mixed (by kernel_rfl) <| pM t37 rfl rfl ?_⟩⟩⟩
         refine pT rfl rfl rfl TF_149_3 T1_147 H fun _ _ _ _ _ H=> pP rfl R_nil H fun _ H=> pL rfl T1_146 H fun _ _ _ H=> pM t37 rfl rfl<|pT rfl rfl rfl TF_149_3 T1_147 H fun _ _ _ _ _ H=> pP rfl R_nil H fun _ H=> pL rfl T1_146 H fun _ _ _ H=> pP rfl (R_slice TE_146 (by decide)) H fun _ H=> aE rfl<|H_cpy TE_146 H fun _ h H=> ⟨(hskip rfl (hskip rfl (hskip rfl (hskip rfl hnil)))), vp_done ?_⟩
         refine WPc_seq' <| W_drawn [0,1,3,7,15,31,0,64,192,448,960,1984,4032,8128,16383,32767] (Tk 0<|Tk 1<|Tk 2<|Tk 3<|Tk 4<|Tk 5<|Tk 6<|Tk 7<|Tk 8<|Tk 9<|Tk 10<|Tk 11<|Tk 12<|Tk 13<|Tk 14<|Al 15 .done) mixed (by kernel_rfl) <| pM t37 rfl rfl<|pT rfl rfl rfl TF_149_3 T1_147 H fun _ _ _ _ _ H=> pP rfl R_nil H fun _ H=> pL rfl T1_146 H fun _ _ _ H=> pM t37 rfl rfl<|pT rfl rfl rfl TF_149_3 T1_147 H fun _ _ _ _ _ H=> pP rfl R_nil H fun _ H=> pL rfl T1_146 H fun _ _ _ H=> ?_; refine pP rfl (R_len Tryz.underlying146) H fun _ H=> pP rfl R_sub H fun _ H=> pP rfl (R_idx TE_146) H fun _ H=> aE rfl<|H_store1 TS_126 H fun h H=> ⟨(hskip rfl (hskip rfl (hskip rfl (hskip rfl hnil)))), vp_done <| WPc_seq' <| W_drawn [0,1,3,7,0,16,48,112,240,496,0,1024,3072,7168,15360,31744,64512,130048,262128,524287,1048575] (Tk 0<|Tk 1<|Tk 2<|Tk 3<|Tk 4<|Tk 5<|Tk 6<|Tk 7<|Tk 8<|Tk 9<|Tk 10<|Tk 11<|Tk 12<|Tk 13<|Tk 14<|Tk 15<|Tk 16<|Tk 17<|Tk 18<|Tk 19<|Al 20 .done) mixed (by kernel_rfl) <| pM t37 rfl rfl<|pT rfl rfl rfl TF_149_3 T1_147 H fun _ _ _ _ _ H=> pM t37 rfl rfl<|pB rfl rfl TF_149_3 H fun _ _ H=> ?_⟩
         refine pL rfl T1_147 H fun _ _ _ H=> pP rfl R_nil H fun _ H=> pL rfl T1_146 H fun _ _ _ H=> pM t37 rfl rfl<|pT rfl rfl rfl TF_149_3 T1_147 H fun _ _ _ _ _ H=> pP rfl R_nil H fun _ H=> pL rfl T1_146 H fun _ _ _ H=> pP rfl (R_len Tryz.underlying146) H fun _ H=> pP rfl R_sub H fun _ H=> pP rfl (R_slice TE_146 (by decide)) H fun _ H=> pP rfl R_nil H fun _ H=> aE rfl<|H_store1 TS_146 H fun h H=> ⟨(hskip rfl (hskip rfl (hskip rfl (hskip rfl (hskip rfl hnil))))), ?_⟩
         refine vp_done <| WPc_seq' <| W_drawn [0,1,3,7,0,16,48,112,240,496,0,1024,3072,7168,15360,31744,64512,130048,262128,524272,1048560,2097136,4194288,8388607,16777215,33554431,67108863] (Tk 0<|Tk 1<|Tk 2<|Tk 3<|Tk 4<|Tk 5<|Tk 6<|Tk 7<|Tk 8<|Tk 9<|Tk 10<|Tk 11<|Tk 12<|Tk 13<|Tk 14<|Tk 15<|Tk 16<|Tk 17<|Tk 18<|Tk 19<|Tk 20<|Tk 21<|Tk 22<|Tk 23<|Tk 24<|Tk 25<|Al 26 .done) mixed (by kernel_rfl) <| pM t26 rfl rfl<|pT rfl rfl rfl TF_149_1 T1_3 H fun _ _ _ _ _ H=> pM t26 rfl rfl<|pT rfl rfl rfl TF_149_3 T1_147 H fun _ _ _ _ _ H=> pP rfl R_nil H fun _ H=> pL rfl T1_146 H fun _ _ _ H=> pM t26 rfl rfl ?_; refine pT rfl rfl rfl TF_149_3 T1_147 H fun _ _ _ _ _ H=> pP rfl R_nil H fun _ H=> pL rfl T1_146 H fun _ _ _ H=> pP rfl (R_len Tryz.underlying146) H fun _ H=> pP rfl R_sub H fun _ H=> pP rfl (R_idx TE_146) H fun _ H=> pL rfl T1_126 H fun _ _ _ H=> pT rfl rfl rfl TF_149_1 T1_3 H fun _ _ _ _ _ H=> pP rfl R_add H fun _ H=> pP rfl R_nil H fun _ H=> ?_; refine pP rfl (R_fld TF_149_1) H fun _ H=> aE rfl<|H_store1 TS_3 H fun h H=> ⟨(hskip rfl (hskip rfl (hskip rfl (hskip rfl (hskip rfl (hskip rfl (hskip rfl hnil))))))), vp_done <| W_drawn [0,1,3,7,0,16,48,112,240,496,0,1024,3072,7168,15360,31744,64512,130048,262128,524272,1048560,2097136,4194288,8388607,16777215,33554431,67108863] (Tk 0<|Tk 1<|Tk 2<|Tk 3<|Tk 4<|Tk 5<|Tk 6<|Tk 7<|Tk 8<|Tk 9<|Tk 10<|Tk 11<|Tk 12<|Tk 13<|Tk 14<|Tk 15<|Tk 16<|Tk 17<|Tk 18<|Tk 19<|Tk 20<|Tk 21<|Tk 22<|Tk 23<|Tk 24<|Tk 25<|Al 26 .done) mixed (by kernel_rfl) <| pM t37 rfl rfl<|pT rfl rfl rfl TF_149_1 T1_3 H fun _ _ _ _ _ H=> pM t26 rfl rfl<|pT rfl rfl rfl TF_149_3 T1_147 H fun _ _ _ _ _ H=> pP rfl R_nil H fun _ H=> pL rfl T1_146 H fun _ _ _ H=> ?_⟩
         refine pM t26 rfl rfl<|pT rfl rfl rfl TF_149_3 T1_147 H fun _ _ _ _ _ H=> pP rfl R_nil H fun _ H=> pL rfl T1_146 H fun _ _ _ H=> pP rfl (R_len Tryz.underlying146) H fun _ H=> pP rfl R_sub H fun _ H=> pP rfl (R_idx TE_146) H fun _ H=> pL rfl T1_126 H fun _ _ _ H=> pT rfl rfl rfl TF_149_1 T1_3 H fun _ _ _ _ _ H=> pP rfl R_sub H fun _ H=> ?_; exact pB rfl rfl TF_149_1 H fun _ _ H=> aE rfl<|H_store1 TS_3 H fun h H=> ⟨(hskip rfl (hskip rfl (hskip rfl (hskip rfl (hskip rfl (hskip rfl (hskip rfl hnil))))))), vp_done <| resH_of rfl<|H⟩
       · exact WPc_skip <| resH_of rfl<|H
 refine sR <| nM a2 rfl<|nM a1 rfl<|nT TF_149_2 T1_29 H fun _ _ _ H=> nP (R_len Tryz.underlying29) H fun _ H=> nP R_eqI H fun _ H=> vl_e ?_; refine cI H (fun H=> ?_) fun H=> ?_
 · exact W_region (by kernel_rfl) <| nM a2 rfl<|nP R_sub H fun t16 H=> nS t16 rfl<|vl_e <| H
 · exact WPc_skip <| H
end Go.Proofs.YthpmeccnddchpaaGreat
end
section
namespace Go.Proofs.YthpmeccnddchpaaGreat.Ii
open Go.Hp
abbrev KT := Int
abbrev VT := Int
abbrev It := KT × VT
abbrev enc (p : It) : List Value := [.int .i64 p.2, .int .i64 p.1]
abbrev kv (k : KT) : Value := .int .i64 k
abbrev vv (v : VT) : Value := .int .i64 v
abbrev emp : It := (0, 0)
def lt (a b : It) : Bool := decide (a.1 < b.1)
abbrev hd0 (iso : Int) (ctr : Option Addr) : List Value := [.int .u64 iso, .pointer ctr]
abbrev hd4 (mn mx : Int) : List Value := enc emp ++ [.int .i64 mn, .int .i64 mx, .bool false, .bool false]
abbrev hdr (iso : Int) (ctr root : Option Addr) (cnt mn mx : Int) : List Value := [.int .u64 iso, .pointer ctr, .pointer root, .int .i64 cnt] ++ hd4 mn mx
theorem encl (p : It) : (enc p).length = 2 := rfl
theorem enc1 (p : It) : ∀ y ∈ enc p, one1 y = true := by simp [one1]
theorem swo : Swo lt where
 irr a := by simp [lt]
 tr a b c h1 h2 := by simp only [lt, decide_eq_true_eq] at *; exact Int.lt_trans h1 h2
 ntr a b c h1 h2 := by simp only [lt, decide_eq_false_iff_not, Int.not_lt] at *; exact Int.le_trans h2 h1
abbrev encA (p : It) : List Value := [kv p.1, vv p.2]
theorem encAl (p : It) : (encA p).length = 2 := rfl
theorem encA1 (p : It) : ∀ y ∈ encA p, one1 y = true := by simp [one1]
abbrev fk (k : KT) : List Value := [kv k]
theorem fkl (k : KT) : (fk k).length = 1 := rfl
theorem snoc_fk (l : List KT) (k : KT) : l.flatMap fk ++ [kv k] = (l ++ [k]).flatMap fk := by rw [List.flatMap_append, List.flatMap_singleton]
def setAll (l : List It) : List It := l.foldl (lput lt) []
theorem setAll_snoc (l : List It) (x : It) : setAll (l ++ [x]) = lput lt (setAll l) x := by unfold setAll; rw [List.foldl_append]; rfl
theorem setAll_len (l : List It) : (setAll l).length ≤ l.length := by
 unfold setAll
 have : ∀ (l a : List It), (l.foldl (lput lt) a).length ≤ a.length + l.length := fun l => by
  induction l with
  | nil => intro a; simp
  | cons x r ih =>
   intro a
   have h1 := ih (lput lt a x)
   have h2 : (lput lt a x).length = _ := lput_length
   simp only [List.foldl_cons, List.length_cons]
   split at h2 <;> omega
 have := this l []; simpa using this
def grown (m : Nat) (l : List It) : MT It := l.foldl (MT.set lt m) none
theorem grown_snoc (m : Nat) (l : List It) (x : It) : grown m (l ++ [x]) = (grown m l).set lt m x := by unfold grown; rw [List.foldl_append]; rfl
end Go.Proofs.YthpmeccnddchpaaGreat.Ii
end
section
namespace Go.Proofs.YthpmeccnddchpaaGreat.Ii
open Go.Hp Go.Proofs.YthpmeccnddchpaaGreat
variable {h0 h : Heap} {Z E : List Rg} {Q : Value → Heap → Prop}
theorem search_ok {h : Heap} {tr iv : Value} {n : Nat} {its : List It} {x : It} {Q : Value → Heap → Prop} (ha : Asc lt its) (hb : its.length ≤ 4611686018427387903)
  (hn : cl h n 2 = some iv) (hr : Rdl 2 h iv its.length (its.flatMap enc)) (H : Q (.tuple #[.int .i64 (pos lt its x), .bool (lget lt its x).isSome]) h) : z14_.call #[tr, ptr n 0, kv x.1] h Q := by
 obtain ⟨a, cap, rfl, hl, hx, _⟩ := hr
 obtain ⟨ib, io, hia⟩ : ∃ ib io, its.length ≠ 0 → a = some ⟨ib, io, none⟩ ∧ Rw h ib io (its.flatMap enc) := by
  by_cases e : its.length ≠ 0
  · obtain ⟨b, o, h1, h2⟩ := hx e; exact ⟨b, o, fun _ => ⟨h1, h2⟩⟩
  · exact ⟨0, 0, fun e' => absurd e' e⟩
 have hk : ∀ i (hi : i < its.length), cl h ib (io + i * 2 + 1) = some (kv its[i].1) := fun i hi => by
  have h2 := (hia (by omega)).2 (i * 2 + 1) (by rw [flat_len encl]; omega)
  rw [flat_get encl its i hi 1 (by decide)] at h2; rw [Nat.add_assoc]; exact h2
 have hs : ∀ i j (hi : i < its.length) (hj : j < its.length), i < j → lt its[i] its[j] = true := fun i j hi hj hij => List.pairwise_iff_getElem.1 ha i j hi hj hij
 have fin : ∀ lo, lo ≤ its.length → (∀ i (hi : i < its.length), i < lo → lt x its[i] = false) → (∀ i (hi : i < its.length), lo ≤ i → lt x its[i] = true) →
   (∀ hp : lo - 1 < its.length, 0 < lo → lt its[lo - 1] x = false → Q (.tuple #[.int .i64 (lo - 1 : Nat), .bool true]) h) ∧ ((∀ hp : lo - 1 < its.length, 0 < lo → lt its[lo - 1] x = true) → Q (.tuple #[.int .i64 lo, .bool false]) h) := by
  intro lo h1 h2 h3
  constructor
  · intro hp h0 hlt
    have e : pos lt its x = lo - 1 := pos_uni (by omega) (fun j hj hjl => swo.tr1 (hs j (lo - 1) hj hp hjl) (h2 (lo - 1) hp (by omega))) (fun _ => hlt)
    have e2 : lget lt its x = some its[lo - 1] := by
     unfold lget; rw [e, List.getElem?_eq_getElem hp, Option.bind_some, h2 (lo - 1) hp (by omega)]; rfl
    rw [e, e2] at H; exact H
  · intro hlt
    have e : pos lt its x = lo := by
     refine pos_uni h1 (fun j hj hjl => ?_) (fun hl => swo.asym (h3 lo hl (Nat.le_refl _)))
     rcases Nat.lt_or_ge j (lo - 1) with hl | hl
     · exact swo.tr _ _ _ (hs j (lo - 1) hj (by omega) hl) (hlt (by omega) (by omega))
     · have : j = lo - 1 := by omega
       subst this; exact hlt hj (by omega)
    have e2 : lget lt its x = none := by
     unfold lget; rw [e]
     rcases Nat.lt_or_ge lo its.length with hl | hl
     · rw [List.getElem?_eq_getElem hl, Option.bind_some, h3 lo hl (Nat.le_refl _)]; rfl
     · rw [List.getElem?_eq_none hl]; rfl
    rw [e, e2] at H; exact H
 refine z14_.body _ _ _ _ _ ?_; unfold z14_.sh
 simp only [w_load1, w_loadN, w_nil, w_fld, w_idx, w_len, w_lenStr, w_cap, w_arith, w_divi, w_remi, w_cmpI, w_cmpS, w_not, w_ext, w_eqNilP, w_neNilP, w_eqB, w_pick, w_max, w_ifV, w_br, w_store1, w_storeN, w_alloc, w_box, add_mk, Nat.zero_add, Nat.add_zero, Option.some.injEq, exists_eq_left', List.getElem?_cons_zero, List.getElem?_cons_succ, List.getD_cons_zero, List.getD_cons_succ, hn]
 refine loop_intro (fun s h' => h' = h ∧ ∃ lo hi : Nat, s = [.int .i64 lo, .int .i64 hi] ∧ lo ≤ hi ∧ hi ≤ its.length ∧ (∀ i (hi' : i < its.length), i < lo → lt x its[i] = false) ∧ (∀ i (hi' : i < its.length), hi ≤ i → lt x its[i] = true))
  (fun s _ => (iv (s.getD 1 undef) - iv (s.getD 0 undef)).toNat) ⟨rfl, 0, its.length, rfl, by omega, by omega, fun i hi hl => by omega, fun i h1 h2 => by omega⟩ ?_
 rintro s h' ⟨rfl, lo, hi, rfl, h1, h2, h3, h4⟩
 unfold z14_.l3.b
 simp only [w_load1, w_loadN, w_nil, w_fld, w_idx, w_len, w_lenStr, w_cap, w_arith, w_divi, w_remi, w_cmpI, w_cmpS, w_not, w_ext, w_eqNilP, w_neNilP, w_eqB, w_pick, w_max, w_ifV, w_br, w_store1, w_storeN, w_alloc, w_box, add_mk, Nat.zero_add, Nat.add_zero, Option.some.injEq, exists_eq_left', List.getElem?_cons_zero, List.getElem?_cons_succ, List.getD_cons_zero, List.getD_cons_succ]
 refine ⟨fun hlt => ?_, fun hge => ?_⟩
 · have hlt : lo < hi := by simpa using hlt
   unfold z14_.j4
   have hd : ((lo : Int) + hi).tdiv 2 = (((lo + hi) / 2 : Nat) : Int) := by
    rw [← Int.natCast_add]; exact (Int.ofNat_tdiv (lo + hi) 2).symm
   simp only [w_load1, w_loadN, w_nil, w_fld, w_idx, w_len, w_lenStr, w_cap, w_arith, w_divi, w_remi, w_cmpI, w_cmpS, w_not, w_ext, w_eqNilP, w_neNilP, w_eqB, w_pick, w_max, w_ifV, w_br, w_store1, w_storeN, w_alloc, w_box, add_mk, Nat.zero_add, Nat.add_zero, Option.some.injEq, exists_eq_left', List.getElem?_cons_zero, List.getElem?_cons_succ, List.getD_cons_zero, List.getD_cons_succ]
   rw [i64w (n := (lo : Int) + hi) (by omega) (by omega), hd, i64w (n := (((lo + hi) / 2 : Nat) : Int)) (by omega) (by omega)]; refine ⟨by decide, ?_⟩
   simp only [w_load1, w_loadN, w_nil, w_fld, w_idx, w_len, w_lenStr, w_cap, w_arith, w_divi, w_remi, w_cmpI, w_cmpS, w_not, w_ext, w_eqNilP, w_neNilP, w_eqB, w_pick, w_max, w_ifV, w_br, w_store1, w_storeN, w_alloc, w_box, add_mk, Nat.zero_add, Nat.add_zero, Option.some.injEq, exists_eq_left', List.getElem?_cons_zero, List.getElem?_cons_succ, List.getD_cons_zero, List.getD_cons_succ, hn, (hia (by omega)).1, Int.toNat_natCast]
   have hm : (lo + hi) / 2 < its.length := by omega
   refine ⟨by omega, by omega, ?_⟩
   simp only [w_load1, w_loadN, w_nil, w_fld, w_idx, w_len, w_lenStr, w_cap, w_arith, w_divi, w_remi, w_cmpI, w_cmpS, w_not, w_ext, w_eqNilP, w_neNilP, w_eqB, w_pick, w_max, w_ifV, w_br, w_store1, w_storeN, w_alloc, w_box, add_mk, Nat.zero_add, Nat.add_zero, Option.some.injEq, exists_eq_left', List.getElem?_cons_zero, List.getElem?_cons_succ, List.getD_cons_zero, List.getD_cons_succ, hk _ hm]
   refine ⟨fun hc => ?_, fun hc => ?_⟩
   · have hc : lt x its[(lo + hi) / 2] = false := by simpa [lt] using hc
     rw [i64w (by omega) (by omega)]; refine ⟨⟨trivial, (lo + hi) / 2 + 1, hi, by simp, by omega, h2, fun i hi' hl => ?_, h4⟩, by simp; omega⟩
     rcases Nat.lt_or_ge i ((lo + hi) / 2) with hl | hl
     · cases e : lt x its[i] with
       | false => rfl
       | true => have := swo.tr _ _ _ e (hs i _ hi' hm hl); rw [hc] at this; cases this
     · have : i = (lo + hi) / 2 := by omega
       subst this; exact hc
   · have hc : lt x its[(lo + hi) / 2] = true := by simpa [lt] using hc
     refine ⟨⟨trivial, lo, (lo + hi) / 2, rfl, by omega, by omega, h3, fun i hi1 hi2 => ?_⟩, by simp; omega⟩
     rcases Nat.lt_or_ge ((lo + hi) / 2) i with hl | hl
     · exact swo.tr _ _ _ hc (hs _ i hm hi1 hl)
     · have : i = (lo + hi) / 2 := by omega
       subst this; exact hc
 · have hge : lo = hi := by simp at hge; omega
   subst hge; obtain ⟨f1, f2⟩ := fin lo h2 h3 h4; unfold z14_.j1
   simp only [w_load1, w_loadN, w_nil, w_fld, w_idx, w_len, w_lenStr, w_cap, w_arith, w_divi, w_remi, w_cmpI, w_cmpS, w_not, w_ext, w_eqNilP, w_neNilP, w_eqB, w_pick, w_max, w_ifV, w_br, w_store1, w_storeN, w_alloc, w_box, add_mk, Nat.zero_add, Nat.add_zero, Option.some.injEq, exists_eq_left', List.getElem?_cons_zero, List.getElem?_cons_succ, List.getD_cons_zero, List.getD_cons_succ]
   refine ⟨fun hpos => ?_, fun hz => ?_⟩
   · have hpos : 0 < lo := by simpa using hpos
     rw [i64w (n := (lo : Int) - 1) (by omega) (by omega)]
     simp only [w_load1, w_loadN, w_nil, w_fld, w_idx, w_len, w_lenStr, w_cap, w_arith, w_divi, w_remi, w_cmpI, w_cmpS, w_not, w_ext, w_eqNilP, w_neNilP, w_eqB, w_pick, w_max, w_ifV, w_br, w_store1, w_storeN, w_alloc, w_box, add_mk, Nat.zero_add, Nat.add_zero, Option.some.injEq, exists_eq_left', List.getElem?_cons_zero, List.getElem?_cons_succ, List.getD_cons_zero, List.getD_cons_succ, hn, (hia (by omega)).1]
     refine ⟨by omega, by omega, ?_⟩
     rw [show ((lo : Int) - 1).toNat = lo - 1 by omega]
     have hm : lo - 1 < its.length := by omega
     simp only [w_load1, w_loadN, w_nil, w_fld, w_idx, w_len, w_lenStr, w_cap, w_arith, w_divi, w_remi, w_cmpI, w_cmpS, w_not, w_ext, w_eqNilP, w_neNilP, w_eqB, w_pick, w_max, w_ifV, w_br, w_store1, w_storeN, w_alloc, w_box, add_mk, Nat.zero_add, Nat.add_zero, Option.some.injEq, exists_eq_left', List.getElem?_cons_zero, List.getElem?_cons_succ, List.getD_cons_zero, List.getD_cons_succ, hk (lo - 1) hm]
     refine ⟨fun hc => ?_, fun hc => ?_⟩
     · have hc : lt its[lo - 1] x = false := by simpa [lt] using hc
       rw [show ((lo : Int) - 1) = ((lo - 1 : Nat) : Int) by omega]; exact f1 hm hpos hc
     · have hc : lt its[lo - 1] x = true := by simpa [lt] using hc
       unfold z14_.j2; exact f2 (fun _ _ => hc)
   · have hz : lo = 0 := by simp at hz; omega
     subst hz; unfold z14_.j2; exact f2 (fun _ e => absurd e (Nat.lt_irrefl _))
theorem leaf_ok {n : Nat} {a : Option Addr} (hn : cl h n 3 = some (.pointer a)) (H : Q (.bool a.isNone) h) : z0q_.call #[ptr n 0] h Q := by
 refine z0q_.body _ _ _ ?_; unfold z0q_.sh
 have s := St.start h
 refine r_nil (r_fld ?_)
 refine s.r_loadB hn ?_; refine r_eqNilP ?_; exact H
theorem isoLoad_ok {tb pb po n : Nat} {iso : Int} {m : Bool} (hi : cl h tb 0 = some (.int .u64 iso)) (hp : cl h pb po = some (ptr n 0)) (hn : m = true → cl h n 0 = some (.int .u64 iso)) (H : Q (ptr n 0) h) :
  z0t_.call #[ptr tb 0, ptr pb po, .bool m] h Q := by
 refine z0t_.body _ _ _ _ _ ?_; unfold z0t_.sh
 have hj : z0t_.j1 (ptr pb po) h Q := by
  unfold z0t_.j1; refine r_nil ?_; exact r_ld hp H
 refine r_br (fun hm => ?_) (fun _ => hj)
 refine r_nil ?_; refine r_ld hp ?_; refine r_nil (r_fld ?_)
 refine r_ld (hn hm) ?_; refine r_nil (r_fld ?_)
 refine r_ld hi ?_; refine r_cmpI ?_; refine r_if (fun e => absurd e (by simp)) (fun _ => hj)
theorem newNode_leaf {tb : Nat} {iso : Int} (hi : cl h tb 0 = some (.int .u64 iso)) (H : ∀ n h', St h [] [(n, 0, [.int .u64 iso, .int .i64 0, .slice none 0 0, .pointer none])] h' → Q (ptr n 0) h') : z0u_.call #[ptr tb 0, .bool true] h Q := by
 refine z0u_.body _ _ _ _ ?_; unfold z0u_.sh
 have s := St.start h
 refine s.r_alloc fun n h s => ?_; refine r_nil (r_fld ?_)
 refine s.r_loadB hi ?_; refine r_nil (r_fld ?_)
 refine St.r_store0 s 0 rfl (by simp) rfl ?_; intro h s
 try simp only [P2] at s
 refine r_not ?_; refine r_if (fun e => absurd e (by decide)) (fun _ => ?_)
 unfold z0u_.j1; exact H n h s
theorem newNode_inner {tb : Nat} {iso : Int} (hi : cl h tb 0 = some (.int .u64 iso)) (H : ∀ n kb h', St h [] [(n, 0, [.int .u64 iso, .int .i64 0, .slice none 0 0, ptr kb 0]), (kb, 0, [.slice none 0 0])] h' → Q (ptr n 0) h') : z0u_.call #[ptr tb 0, .bool false] h Q := by
 refine z0u_.body _ _ _ _ ?_; unfold z0u_.sh
 have s := St.start h
 refine s.r_alloc fun n h s => ?_; refine r_nil (r_fld ?_)
 refine s.r_loadB hi ?_; refine r_nil (r_fld ?_)
 refine St.r_store0 s 0 rfl (by simp) rfl ?_; intro h s
 try simp only [P2] at s
 refine r_not ?_; refine r_if (fun _ => ?_) (fun e => absurd e (by decide))
 refine s.r_alloc fun kb h s => ?_; refine r_nil (r_fld ?_)
 refine St.r_store0 s 1 rfl (by simp) rfl ?_; intro h s
 unfold z0u_.j1; exact H n kb h (s.perm (by ((apply perm_rg; intro f; simp only [PS]; ac_rfl))))
theorem updateCount_leaf {n b o len : Nat} {c1 c2 iv : Value} {xs sp : List Value} (s : St h0 Z ((n, 0, [c1, c2, iv, .pointer none]) :: E) h) (w : Own 2 iv len b o xs sp)
  (H : ∀ h', St h0 Z ((n, 0, [c1, .int .i64 len, iv, .pointer none]) :: E) h' → Q (.tuple #[]) h') : z01_.call #[ptr n 0] h Q := by
 refine z01_.body _ _ _ ?_; unfold z01_.sh; refine r_nil (r_fld (St.r_load0 s 0 rfl rfl ?_))
 refine w.lenV ?_; refine r_nil (r_fld ?_)
 refine St.r_store0 s 0 rfl (by simp) rfl ?_; intro h s
 try simp only [P2] at s
 refine leaf_ok (a := none) (s.get (k := 0) (j := 3) rfl (by simp)) ?_; refine r_not ?_; refine r_if (fun e => absurd e (by decide)) (fun _ => ?_)
 exact H _ s
theorem updateCount_inner {n kb b o rb ro len : Nat} {c1 c2 iv kv : Value} {xs sp ksp : List Value} {ids : List Nat} {c : Nat → Int} (s : St h0 Z ((n, 0, [c1, c2, iv, ptr kb 0]) :: (kb, 0, [kv]) :: (rb, ro, (ids.map fun m => ptr m 0) ++ ksp) :: E) h)
  (w : Own 2 iv len b o xs sp) (wkid : Own 1 kv ids.length rb ro (ids.map fun m => ptr m 0) ksp) (hids : ids.length ≤ 4294967296)
  (hc : ∀ j (hj : j < ids.length), ∃ a1 a2 a3, (ids[j], 0, [a1, .int .i64 (c j), a2, a3]) ∈ E ++ Z) (hb : ∀ j, j ≤ ids.length → 0 ≤ (len : Int) + ((List.range j).map c).sum ∧ (len : Int) + ((List.range j).map c).sum ≤ 9223372036854775807)
  (H : ∀ h', St h0 Z ((n, 0, [c1, .int .i64 ((len : Int) + ((List.range ids.length).map c).sum), iv, ptr kb 0]) :: (kb, 0, [kv]) :: (rb, ro, (ids.map fun m => ptr m 0) ++ ksp) :: E) h' → Q (.tuple #[]) h') : z01_.call #[ptr n 0] h Q := by
 refine z01_.body _ _ _ ?_; unfold z01_.sh; refine r_nil (r_fld (St.r_load0 s 0 rfl rfl ?_))
 refine w.lenV ?_; refine r_nil (r_fld ?_)
 refine St.r_store0 s 0 rfl (by simp) rfl ?_; intro h s
 try simp only [P2] at s
 refine leaf_ok (a := some ⟨kb, 0, none⟩) (s.get (k := 0) (j := 3) rfl (by simp)) ?_; refine r_not ?_; refine r_if (fun _ => ?_) (fun e => absurd e (by simp))
 refine loop_intro (fun t h => ∃ j : Nat, t = [.int .i64 j] ∧ j ≤ ids.length ∧ St h0 Z ((n, 0, [c1, .int .i64 ((len : Int) + ((List.range j).map c).sum), iv, ptr kb 0]) :: (kb, 0, [kv]) :: (rb, ro, (ids.map fun m => ptr m 0) ++ ksp) :: E) h)
  (fun t _ => ids.length - (Hp.iv (t.getD 0 undef)).toNat) ⟨0, rfl, by omega, by simpa using s⟩ ?_
 rintro t h ⟨j, rfl, hj, s⟩
 unfold z01_.l1.b; refine r_nil (r_fld (St.r_load0 s 0 rfl rfl (r_nil (St.r_load0 s 1 rfl rfl ?_))))
 refine wkid.lenV ?_; refine r_cmpI ?_; refine r_if (fun hlt => ?_) (fun hge => ?_)
 · have hlt : j < ids.length := by simpa using hlt
   unfold z01_.j2; refine r_nil (r_fld (St.r_load0 s 0 rfl rfl (r_nil (r_fld (St.r_load0 s 0 rfl rfl (r_nil ?_))))))
   refine St.r_load0 s 1 rfl rfl ?_; refine wkid.idx (n := j) rfl hlt ?_; refine s.r_load1 2 rfl (v := ptr ids[j] 0) (by rw [Nat.mul_one, List.getElem?_append_left (by simpa using hlt), List.getElem?_map, List.getElem?_eq_getElem hlt]; rfl) ?_; obtain ⟨a1, a2, a3, hm⟩ := hc j hlt; refine r_nil (r_fld ?_)
   refine s.r_loadM (xs := [a1, .int .i64 (c j), a2, a3]) (by simp only [List.cons_append, List.mem_cons]; exact .inr (.inr (.inr hm))) rfl ?_; refine r_add (z := (len : Int) + ((List.range (j + 1)).map c).sum) ?_ ?_
   · have := hb (j + 1) hlt
     rw [List.range_succ, List.map_append, List.sum_append] at this ⊢
     simp only [List.map_cons, List.map_nil, List.sum_cons, List.sum_nil] at this ⊢
     rw [i64w (by omega) (by omega)]; omega
   · refine r_nil (r_fld ?_)
     refine St.r_store0 s 0 rfl (by simp) rfl ?_; intro h s
     try simp only [P2] at s
     unfold z01_.j3; refine r_add (z := ((j + 1 : Nat) : Int)) (by rw [i64w (by omega) (by omega)]; omega) ?_; exact ⟨⟨j + 1, rfl, hlt, s⟩, by simp; omega⟩
 · have hge : j = ids.length := by simp at hge; omega
   subst hge; exact H h s
structure Gd (iso : Int) {k : Nat} (t : GT It k) : Prop where
 wf : t.Wf enc 2 iso
 cn : t.Cn
 mine : t.Mine
theorem Gd.kid {iso : Int} {k : Nat} {t : GT It (k + 1)} (g : Gd iso t) {c : GT It k} (hc : c ∈ t.2) : Gd iso c := ⟨(g.wf.2.2.2 c hc).1, g.cn.2 c hc, g.mine.2 c hc⟩
abbrev fp (m : Nat) : List Value := [ptr m 0]
theorem fpl (m : Nat) : (fp m).length = 1 := rfl
theorem mfp (l : List Nat) : (l.map fun m => ptr m 0) = l.flatMap fp := List.map_eq_flatMap
theorem GT.topA : ∀ {k : Nat} {t : GT It k}, ∃ a1 a2 a3, (t.id, 0, [a1, .int .i64 t.nd.cnt, a2, a3]) ∈ t.all enc
 | 0, d => ⟨_, _, _, List.mem_cons_self ..⟩
 | _ + 1, t => ⟨_, _, _, List.mem_append.2 (.inl (List.mem_cons_self ..))⟩
theorem r_div {k : IntKind} {x y z : Int} {K : Value → Prop} (hy : y ≠ 0) (hz : k.wrap (x.tdiv y) = z) (H : K (.int k z)) : divi (.int k x) (.int k y) K := ⟨k, x, y, rfl, rfl, hy, by rw [hz]; exact H⟩
theorem half {m : Nat} (hm : m ≤ 1048576) : IntKind.wrap .i64 ((m : Int).tdiv 2) = ((m / 2 : Nat) : Int) := by
 have : (m : Int).tdiv 2 = ((m / 2 : Nat) : Int) := (Int.ofNat_tdiv m 2).symm
 rw [this, i64w (by omega) (by omega)]
theorem updateCount_kids {k : Nat} {ts : List (GT It k)} {n kb b o rb ro len : Nat} {c1 c2 iv kv : Value} {xs sp ksp : List Value}
  (s : St h0 Z ((n, 0, [c1, c2, iv, ptr kb 0]) :: (kb, 0, [kv]) :: (rb, ro, (ts.map GT.id).flatMap fp ++ ksp) :: E) h)
  (w : Own 2 iv len b o xs sp) (wK : Own 1 kv (ts.map GT.id).length rb ro ((ts.map GT.id).flatMap fp) ksp) (hm : ∀ t ∈ ts, t.Cn) (hE : ∀ t ∈ ts, ∀ r ∈ t.all enc, r ∈ E)
  (hl : ts.length ≤ 1048576) (hsz : len + (ts.map fun t => t.pt.items.length).sum ≤ 4611686018427387904)
  (H : ∀ h', St h0 Z ((n, 0, [c1, .int .i64 ((len + (ts.map fun t => t.pt.items.length).sum : Nat) : Int), iv, ptr kb 0]) :: (kb, 0, [kv]) :: (rb, ro, (ts.map GT.id).flatMap fp ++ ksp) :: E) h' → Q (.tuple #[]) h') : z01_.call #[ptr n 0] h Q := by
 have hmm : (ts.map fun t => t.pt.items).map List.length = ts.map fun t => t.pt.items.length := by rw [List.map_map]; rfl
 have hsum : ∀ i, i ≤ ts.length → ((List.range i).map fun j => (ts.map fun t => t.nd.cnt)[j]?.getD 0).sum = (((ts.map fun t => t.pt.items.length).take i).sum : Nat) := fun i hi => by
  rw [sum_range _ i (by simpa using hi), ← List.map_take, GT.Cn.sum (fun t ht => hm t (List.mem_of_mem_take ht)), List.map_map, ← List.map_take]; rfl
 rw [← mfp] at s wK; refine updateCount_inner (c := fun j => (ts.map fun t => t.nd.cnt)[j]?.getD 0) s w wK (by simp; omega) (fun i hi => ?_) (fun i hi => ?_) fun h s => ?_
 · have hi' : i < ts.length := by simpa using hi
   obtain ⟨a1, a2, a3, hmem⟩ := GT.topA (t := ts[i]); refine ⟨a1, a2, a3, ?_⟩
   simp only [List.getElem_map, List.getElem?_map, List.getElem?_eq_getElem hi', Option.map_some, Option.getD_some]
   exact List.mem_append.2 (.inl (hE _ (List.getElem_mem hi') _ hmem))
 · rw [hsum i (by simpa using hi)]
   have := sum_take_le (ts.map fun t => t.pt.items.length) i
   omega
 · rw [show (ts.map GT.id).length = ts.length by simp, hsum _ (Nat.le_refl _), List.take_of_length_le (by simp)] at s
   rw [mfp] at s; exact H h (by rw [Int.natCast_add]; exact s)
theorem nodeSplit_ok : ∀ {k : Nat} (t : GT It k) {h : Heap} {E : List Rg} {tb m lo : Nat} {iso mn : Int} {ctr : Option Addr}, (tb, 0, hd0 iso ctr) ∈ Z → (tb, 4, hd4 mn m) ∈ Z → 0 < m → m ≤ 1024 → t.pt.Fl m lo → t.pt.its.length = m → t.pt.items.length ≤ 4611686018427387904 → Gd iso t →
  St h0 Z (t.all enc ++ E) h → (∀ (l r : GT It k) md h', t.pt.its[m / 2]? = some md → l.pt = t.pt.lo (m / 2) → r.pt = t.pt.hi (m / 2) → l.id = t.id → Gd iso l → Gd iso r → St h0 Z (l.all enc ++ (r.all enc ++ E)) h' → Q (.tuple #[ptr r.id 0, .agg (enc md).toArray]) h') →
  z0j_.call #[ptr tb 0, ptr t.id 0] h Q
 | 0, (d : Nd It), h, E, tb, m, lo, iso, mn, ctr, hT0, hT4, hm0, hm1, fl, hlen, hsz, g, s, H => by
  obtain ⟨own, n, is', cnt, its, iv, ib, io, isp, kb, kv, krb, kro, ksp⟩ := d
  have hi : ∀ {E h}, St h0 Z E h → cl h tb 0 = some (.int .u64 iso) := fun s => by have := s.getZ hT0 (j := 0) (by simp); simpa using this
  have hlen : its.length = m := hlen
  have w : Own 2 iv its.length ib io (its.flatMap enc) isp := g.wf.1
  have s : St h0 Z ((n, 0, [.int .u64 is', .int .i64 cnt, iv, .pointer none]) :: (ib, io, its.flatMap enc ++ isp) :: E) h := s
  have hiso : is' = iso := g.wf.2.1 g.mine
  subst hiso; obtain ⟨md, hmd⟩ : ∃ md, its[m / 2]? = some md := ⟨its[m / 2]'(by omega), List.getElem?_eq_getElem (by omega)⟩
  show z0j_.call #[ptr tb 0, ptr n 0] h Q
  refine z0j_.body _ _ _ _ ?_; unfold z0j_.sh; refine s.r_alloc fun t5 h s => ?_; refine r_nil (r_fld ?_)
  refine s.r_lz hT4 3 rfl rfl ?_; refine r_div (by decide) (half (by omega)) ?_; refine r_nil (r_fld (St.r_load0 s 1 rfl rfl ?_))
  refine w.idx (n := m / 2) rfl (by omega) ?_; refine s.r_loadF encl 2 rfl hmd ?_; refine St.r_storeN0 s 0 rfl rfl (by simp) (enc1 _) ?_; intro h s
  refine leaf_ok (a := none) (s.get (k := 1) (j := 3) rfl (by simp)) ?_; refine newNode_leaf (hi s) fun n' h s1 => ?_
  have s := s.join s1
  refine r_nil (r_fld (St.r_load0 s 2 rfl rfl ?_))
  refine r_add (z := ((m / 2 + 1 : Nat) : Int)) (by rw [i64w (by omega) (by omega)]; omega) ?_; refine w.slcLo encl (i := m / 2 + 1) rfl (by omega) fun vr wr => ?_; refine r_nil (r_fld ?_)
  refine St.r_store0 s 0 rfl (by simp) wr.one ?_; intro h s
  refine leaf_ok (a := none) (s.get (k := 2) (j := 3) rfl (by simp)) ?_; refine r_not ?_; refine r_if (fun e => absurd e (by decide)) (fun _ => ?_)
  unfold z0j_.j1; refine updateCount_leaf s wr fun h s => ?_; refine r_nil (r_fld (St.r_load0 s 2 rfl rfl (r_nil (r_fld ?_))))
  refine s.r_lzN hT4 0 rfl (by simp) ?_; refine w.idx (n := m / 2) rfl (by omega) ?_; refine s.r_storeF (x := emp) encl 3 rfl (by omega) (enc1 _) fun h s => ?_; refine r_nil (r_fld (St.r_load0 s 2 rfl rfl ?_))
  refine w.slc3 encl (i := m / 2) rfl rfl (by omega) fun vl wl => ?_; refine r_nil (r_fld ?_)
  refine St.r_store0 s 2 rfl (by simp) wl.one ?_; intro h s
  refine leaf_ok (a := none) (s.get (k := 2) (j := 3) rfl (by simp)) ?_; refine r_not ?_; refine r_if (fun e => absurd e (by decide)) (fun _ => ?_)
  unfold z0j_.j2; refine updateCount_leaf (s.front 2 rfl) wl fun h s => ?_; refine St.r_loadN0 s 2 rfl (by simp) ?_; refine St.r_storeN0 s 2 rfl rfl (by simp) (enc1 _) ?_; intro h s
  refine St.r_loadN0 s 2 rfl (by simp) ?_
  have s : St h0 Z ((n, 0, [.int .u64 is', .int .i64 (its.take (m / 2)).length, vl, .pointer none]) :: (n', 0, [.int .u64 is', .int .i64 (its.drop (m / 2 + 1)).length, vr, .pointer none]) :: (t5, 0, enc md) :: (ib, io, (its.set (m / 2) emp).flatMap enc ++ isp) :: E) h := s
  have s := St.cut3 encl (x := emp) (i := m / 2) (s.front 3 rfl) (by rw [List.getElem?_set_self (by omega)])
  rw [List.take_set_of_le (Nat.le_refl _), List.drop_set_of_lt (by omega)] at s
  have hl1 : (its.take (m / 2)).length = m / 2 := by rw [List.length_take]; omega
  refine H (⟨true, n, is', (its.take (m / 2)).length, its.take (m / 2), vl, ib, io, [], 0, .pointer none, 0, 0, []⟩ : Nd It) (⟨true, n', is', (its.drop (m / 2 + 1)).length, its.drop (m / 2 + 1), vr, ib, io + (m / 2 + 1) * 2, isp, 0, .pointer none, 0, 0, []⟩ : Nd It) md h hmd rfl rfl rfl ⟨⟨wl, by simp⟩, rfl, rfl⟩ ⟨⟨wr, by simp⟩, rfl, rfl⟩ ?_; exact (s.perm (E' := (ib, io + m / 2 * 2, enc emp) :: (t5, 0, enc md) :: (n, 0, [.int .u64 is', .int .i64 (its.take (m / 2)).length, vl, .pointer none]) :: (ib, io, (its.take (m / 2)).flatMap enc ++ []) :: (n', 0, [.int .u64 is', .int .i64 (its.drop (m / 2 + 1)).length, vr, .pointer none]) :: (ib, io + (m / 2 + 1) * 2, (its.drop (m / 2 + 1)).flatMap enc ++ isp) :: E) (by rw [List.append_nil]; ((apply perm_rg; intro f; simp only [PS]; ac_rfl)))).drop 2
 | k + 1, t, h, E, tb, m, lo, iso, mn, ctr, hT0, hT4, hm0, hm1, fl, hlen, hsz, g, s, H => by
  obtain ⟨d, ts⟩ := t; obtain ⟨own, n, is', cnt, its, iv, ib, io, isp, kb, kv, krb, kro, ksp⟩ := d
  have hi : ∀ {E h}, St h0 Z E h → cl h tb 0 = some (.int .u64 iso) := fun s => by have := s.getZ hT0 (j := 0) (by simp); simpa using this
  have hlen : its.length = m := hlen
  have w : Own 2 iv its.length ib io (its.flatMap enc) isp := g.wf.1.1
  have wK : Own 1 kv ts.length krb kro ((ts.map GT.id).map fun m => ptr m 0) ksp := g.wf.2.1
  have hkl : ts.length = its.length + 1 := g.wf.2.2.1
  have hidl : (ts.map GT.id).length = ts.length := List.length_map ..
  have hiso : is' = iso := g.wf.1.2.1 g.mine.1
  subst hiso; rw [← hidl, mfp] at wK
  have s : St h0 Z ((n, 0, [.int .u64 is', .int .i64 cnt, iv, ptr kb 0]) :: (ib, io, its.flatMap enc ++ isp) :: (kb, 0, [kv]) :: (krb, kro, ((ts.map GT.id).map fun m => ptr m 0) ++ ksp) :: (ts.flatMap (GT.all enc) ++ E)) h := s
  rw [mfp] at s
  have hmem : ∀ t ∈ ts, ∀ r ∈ t.all enc, r ∈ ts.flatMap (GT.all enc) ++ E := fun t ht r hr => List.mem_append.2 (.inl (List.mem_flatMap.2 ⟨t, ht, hr⟩))
  have hsz' : its.length + (ts.map fun t => t.pt.items.length).sum ≤ 4611686018427387904 := by
   have h1 : (inter its ((ts.map GT.pt).map PT.items)).length = _ := inter_length _ _
   rw [List.map_map, List.map_map] at h1
   have h2 : (inter its ((ts.map GT.pt).map PT.items)).length ≤ 4611686018427387904 := hsz
   rw [List.map_map] at h2; rw [h1] at h2; exact h2
  have hcn : ∀ t ∈ ts, t.Cn := fun t ht => g.cn.2 t ht
  have hsum : (ts.map fun t => t.pt.items.length).sum = ((ts.take (m / 2 + 1)).map fun t => t.pt.items.length).sum + ((ts.drop (m / 2 + 1)).map fun t => t.pt.items.length).sum := by
   rw [← List.sum_append, ← List.map_append, List.take_append_drop]
  obtain ⟨md, hmd⟩ : ∃ md, its[m / 2]? = some md := ⟨its[m / 2]'(by omega), List.getElem?_eq_getElem (by omega)⟩
  show z0j_.call #[ptr tb 0, ptr n 0] h Q
  refine z0j_.body _ _ _ _ ?_; unfold z0j_.sh; refine s.r_alloc fun t5 h s => ?_; refine r_nil (r_fld ?_)
  refine s.r_lz hT4 3 rfl rfl ?_; refine r_div (by decide) (half (by omega)) ?_; refine r_nil (r_fld (St.r_load0 s 1 rfl rfl ?_))
  refine w.idx (n := m / 2) rfl (by omega) ?_; refine s.r_loadF encl 2 rfl hmd ?_; refine St.r_storeN0 s 0 rfl rfl (by simp) (enc1 _) ?_; intro h s
  refine leaf_ok (a := some ⟨kb, 0, none⟩) (s.get (k := 1) (j := 3) rfl (by simp)) ?_; refine newNode_inner (hi s) fun n' kb' h s1 => ?_
  have s := s.join s1
  refine r_nil (r_fld (St.r_load0 s 3 rfl rfl ?_))
  refine r_add (z := ((m / 2 + 1 : Nat) : Int)) (by rw [i64w (by omega) (by omega)]; omega) ?_; refine w.slcLo encl (i := m / 2 + 1) rfl (by omega) fun vr wr => ?_; refine r_nil (r_fld ?_)
  refine St.r_store0 s 0 rfl (by simp) wr.one ?_; intro h s
  refine leaf_ok (a := some ⟨kb, 0, none⟩) (s.get (k := 3) (j := 3) rfl (by simp)) ?_; refine r_not ?_; refine r_if (fun _ => ?_) (fun e => absurd e (by simp))
  refine r_nil (r_fld (St.r_load0 s 0 rfl rfl (r_nil (r_fld (St.r_load0 s 3 rfl rfl (r_nil ?_))))))
  refine St.r_load0 s 5 rfl rfl ?_; refine r_add (z := ((m / 2 + 1 : Nat) : Int)) (by rw [i64w (by omega) (by omega)]; omega) ?_; refine wK.slcLo fpl (i := m / 2 + 1) rfl (by omega) fun vkr wkr => ?_; refine r_nil ?_; refine St.r_store0 s 1 rfl (by simp) wkr.one ?_; intro h s
  unfold z0j_.j1
  have ecut : (ts.map GT.id).flatMap fp ++ ksp = ((ts.take (m / 2 + 1)).map GT.id).flatMap fp ++ (((ts.drop (m / 2 + 1)).map GT.id).flatMap fp ++ ksp) := by
   rw [← List.append_assoc, ← List.flatMap_append, ← List.map_append, List.take_append_drop]
  have s := s.front 6 rfl
  rw [ecut] at s
  have s := s.cut
  rw [flat_len fpl, List.length_map, List.length_take, Nat.min_eq_left (show m / 2 + 1 ≤ ts.length by omega)] at s; rw [← List.map_drop] at wkr
  refine updateCount_kids (ts := ts.drop (m / 2 + 1)) (s.perm (E' := (n', 0, _) :: (kb', 0, _) :: (krb, kro + (m / 2 + 1) * 1, ((ts.drop (m / 2 + 1)).map GT.id).flatMap fp ++ ksp) :: (krb, kro, ((ts.take (m / 2 + 1)).map GT.id).flatMap fp) :: (t5, 0, enc md) :: (n, 0, [.int .u64 is', .int .i64 cnt, iv, ptr kb 0]) :: (ib, io, its.flatMap enc ++ isp) :: (kb, 0, [kv]) :: (ts.flatMap (GT.all enc) ++ E)) (by ((apply perm_rg; intro f; simp only [PS]; ac_rfl)))) wr wkr (fun t ht => hcn t (List.mem_of_mem_drop ht))
   (fun t ht r hr => by have := hmem t (List.mem_of_mem_drop ht) r hr; simp only [List.mem_cons]; exact .inr (.inr (.inr (.inr (.inr this))))) (by rw [List.length_drop]; omega) (by rw [List.length_drop]; omega) fun h s => ?_
  refine r_nil (r_fld (St.r_load0 s 5 rfl rfl (r_nil (r_fld ?_))))
  refine s.r_lzN hT4 0 rfl (by simp) ?_; refine w.idx (n := m / 2) rfl (by omega) ?_; refine s.r_storeF (x := emp) encl 6 rfl (by omega) (enc1 _) fun h s => ?_; refine r_nil (r_fld (St.r_load0 s 5 rfl rfl ?_))
  refine w.slc3 encl (i := m / 2) rfl rfl (by omega) fun vl wl => ?_; refine r_nil (r_fld ?_)
  refine St.r_store0 s 5 rfl (by simp) wl.one ?_; intro h s
  refine leaf_ok (a := some ⟨kb, 0, none⟩) (s.get (k := 5) (j := 3) rfl (by simp)) ?_; refine r_not ?_; refine r_if (fun _ => ?_) (fun e => absurd e (by simp))
  refine r_nil (r_fld (St.r_load0 s 5 rfl rfl (r_nil (r_fld (St.r_load0 s 5 rfl rfl (r_nil ?_))))))
  refine St.r_load0 s 7 rfl rfl ?_; refine r_add (z := ((m / 2 + 1 : Nat) : Int)) (by rw [i64w (by omega) (by omega)]; omega) ?_; refine r_add (z := ((m / 2 + 1 : Nat) : Int)) (by rw [i64w (by omega) (by omega)]; omega) ?_; refine wK.slc3 fpl (i := m / 2 + 1) rfl rfl (by omega) fun vkl wkl => ?_; refine r_nil ?_; refine St.r_store0 s 7 rfl (by simp) wkl.one ?_; intro h s
  unfold z0j_.j2; rw [← List.map_take] at wkl
  have s : St h0 Z ((n, 0, [.int .u64 is', .int .i64 cnt, vl, ptr kb 0]) :: (kb, 0, [vkl]) :: (krb, kro, ((ts.take (m / 2 + 1)).map GT.id).flatMap fp ++ []) :: (n', 0, [.int .u64 is', .int .i64 (((its.drop (m / 2 + 1)).length + ((ts.drop (m / 2 + 1)).map fun t => t.pt.items.length).sum : Nat) : Int), vr, ptr kb' 0]) :: (kb', 0, [vkr]) :: (krb, kro + (m / 2 + 1) * 1, ((ts.drop (m / 2 + 1)).map GT.id).flatMap fp ++ ksp) :: (t5, 0, enc md) :: (ib, io, (its.set (m / 2) emp).flatMap enc ++ isp) :: (ts.flatMap (GT.all enc) ++ E)) h := s.perm (by rw [List.append_nil]; ((apply perm_rg; intro f; simp only [PS]; ac_rfl)))
  refine updateCount_kids (ts := ts.take (m / 2 + 1)) s wl wkl (fun t ht => hcn t (List.mem_of_mem_take ht))
   (fun t ht r hr => by have := hmem t (List.mem_of_mem_take ht) r hr; simp only [List.mem_cons]; exact .inr (.inr (.inr (.inr (.inr this))))) (by rw [List.length_take]; omega) (by rw [List.length_take]; omega) fun h s => ?_
  refine St.r_loadN0 s 6 rfl (by simp) ?_; refine St.r_storeN0 s 6 rfl rfl (by simp) (enc1 _) ?_; intro h s
  refine St.r_loadN0 s 6 rfl (by simp) ?_
  have s := St.cut3 encl (x := emp) (i := m / 2) (s.front 7 rfl) (by rw [List.getElem?_set_self (by omega)])
  rw [List.take_set_of_le (Nat.le_refl _), List.drop_set_of_lt (by omega)] at s
  have cnt' : ∀ (a : List It) (b : List (GT It k)), (inter a ((b.map GT.pt).map PT.items)).length = a.length + (b.map fun t => t.pt.items.length).sum := fun a b => by
   rw [inter_length, List.map_map, List.map_map]; rfl
  refine H ((⟨true, n, is', (((its.take (m / 2)).length + ((ts.take (m / 2 + 1)).map fun t => t.pt.items.length).sum : Nat) : Int), its.take (m / 2), vl, ib, io, [], kb, vkl, krb, kro, []⟩ : Nd It), ts.take (m / 2 + 1)) ((⟨true, n', is', (((its.drop (m / 2 + 1)).length + ((ts.drop (m / 2 + 1)).map fun t => t.pt.items.length).sum : Nat) : Int), its.drop (m / 2 + 1), vr, ib, io + (m / 2 + 1) * 2, isp, kb', vkr, krb, kro + (m / 2 + 1) * 1, ksp⟩ : Nd It), ts.drop (m / 2 + 1)) md h hmd ?_ ?_ rfl ?_ ?_ ?_
  · show (its.take (m / 2), (ts.take (m / 2 + 1)).map GT.pt) = (its.take (m / 2), (ts.map GT.pt).take (m / 2 + 1)); rw [List.map_take]
  · show (its.drop (m / 2 + 1), (ts.drop (m / 2 + 1)).map GT.pt) = (its.drop (m / 2 + 1), (ts.map GT.pt).drop (m / 2 + 1)); rw [List.map_drop]
  · refine ⟨⟨⟨wl, by simp⟩, ?_, ?_, fun c hc => ⟨(g.wf.2.2.2 c (List.mem_of_mem_take hc)).1, fun e => by simp at e⟩⟩, ⟨?_, fun c hc => g.cn.2 c (List.mem_of_mem_take hc)⟩, ⟨rfl, fun c hc => g.mine.2 c (List.mem_of_mem_take hc)⟩⟩
    · rw [mfp]; rw [List.length_map] at wkl; exact wkl
    · show (ts.take (m / 2 + 1)).length = (its.take (m / 2)).length + 1; rw [List.length_take, List.length_take]; omega
    · exact congrArg Int.ofNat (cnt' _ _).symm
  · refine ⟨⟨⟨wr, by simp⟩, ?_, ?_, fun c hc => ⟨(g.wf.2.2.2 c (List.mem_of_mem_drop hc)).1, fun e => by simp at e⟩⟩, ⟨?_, fun c hc => g.cn.2 c (List.mem_of_mem_drop hc)⟩, ⟨rfl, fun c hc => g.mine.2 c (List.mem_of_mem_drop hc)⟩⟩
    · rw [mfp]; rw [List.length_map] at wkr; exact wkr
    · show (ts.drop (m / 2 + 1)).length = (its.drop (m / 2 + 1)).length + 1; rw [List.length_drop, List.length_drop]; omega
    · exact congrArg Int.ofNat (cnt' _ _).symm
  · have ef : ts.flatMap (GT.all enc) = (ts.take (m / 2 + 1)).flatMap (GT.all enc) ++ (ts.drop (m / 2 + 1)).flatMap (GT.all enc) := by rw [← List.flatMap_append, List.take_append_drop]
    have s := (s.perm (E' := (ib, io + m / 2 * 2, enc emp) :: (t5, 0, enc md) :: (((n, 0, [.int .u64 is', .int .i64 (((its.take (m / 2)).length + ((ts.take (m / 2 + 1)).map fun t => t.pt.items.length).sum : Nat) : Int), vl, ptr kb 0]) :: (ib, io, (its.take (m / 2)).flatMap enc ++ []) :: (kb, 0, [vkl]) :: (krb, kro, ((ts.take (m / 2 + 1)).map GT.id).flatMap fp ++ []) :: (ts.take (m / 2 + 1)).flatMap (GT.all enc)) ++
     (((n', 0, [.int .u64 is', .int .i64 (((its.drop (m / 2 + 1)).length + ((ts.drop (m / 2 + 1)).map fun t => t.pt.items.length).sum : Nat) : Int), vr, ptr kb' 0]) :: (ib, io + (m / 2 + 1) * 2, (its.drop (m / 2 + 1)).flatMap enc ++ isp) :: (kb', 0, [vkr]) :: (krb, kro + (m / 2 + 1) * 1, ((ts.drop (m / 2 + 1)).map GT.id).flatMap fp ++ ksp) :: (ts.drop (m / 2 + 1)).flatMap (GT.all enc)) ++ E))) (by rw [List.append_nil, List.append_nil, ef]; ((apply perm_rg; intro f; simp only [PS]; ac_rfl)))).drop 2
    rw [← mfp, ← mfp] at s; exact s
abbrev old (r : Option It) : Value := vv (r.getD emp).2
theorem snoc_enc (l : List It) (e : It) : l.flatMap enc ++ enc e = (l ++ [e]).flatMap enc := by rw [List.flatMap_append, List.flatMap_singleton]
theorem Gd.leaf {iso : Int} {d : Nd It} (w : Own 2 d.iv d.its.length d.ib d.io (d.its.flatMap enc) d.isp) (ho : d.own = true) (hi : d.iso = iso) (hc : d.cnt = d.its.length) : Gd iso (k := 0) d := ⟨⟨w, by simp [ho, hi]⟩, hc, ho⟩
theorem Gd.inner {iso : Int} {k : Nat} {d : Nd It} {ts : List (GT It k)} (w : Own 2 d.iv d.its.length d.ib d.io (d.its.flatMap enc) d.isp) (ho : d.own = true) (hi : d.iso = iso) (wK : Own 1 d.kv ts.length d.krb d.kro ((ts.map GT.id).flatMap fp) d.ksp)
  (hl : ts.length = d.its.length + 1) (hk : ∀ c ∈ ts, Gd iso c) (hc : d.cnt = (GT.pt (h := k + 1) (d, ts)).items.length) : Gd iso (k := k + 1) (d, ts) :=
 ⟨⟨⟨w, by simp [ho, hi]⟩, by rw [mfp]; exact wK, hl, fun c hc => ⟨(hk c hc).wf, fun e => by rw [ho] at e; cases e⟩⟩, ⟨hc, fun c hc => (hk c hc).cn⟩, ⟨ho, fun c hc => (hk c hc).mine⟩⟩
theorem set_head {n ib io pb po tb : Nat} {iso cnt : Int} {ctr : Option Addr} {iv kp : Value} {its : List It} {isp : List Value} {x : It} (hT0 : (tb, 0, hd0 iso ctr) ∈ Z) (ha : Asc lt its) (hb : its.length ≤ 1024)
  (w : Own 2 iv its.length ib io (its.flatMap enc) isp) (s : St h0 Z ((pb, po, [ptr n 0]) :: (n, 0, [.int .u64 iso, .int .i64 cnt, iv, kp]) :: (ib, io, its.flatMap enc ++ isp) :: E) h)
  (H1 : ∀ y h', lget lt its x = some y → St h0 Z ((pb, po, [ptr n 0]) :: (n, 0, [.int .u64 iso, .int .i64 cnt, iv, kp]) :: (ib, io, (lput lt its x).flatMap enc ++ isp) :: E) h' → Q (.tuple #[vv y.2, .bool true, .bool false]) h')
  (H2 : ∀ t5 t9 h', lget lt its x = none → St h0 Z ((t9, 0, [ptr n 0]) :: (t5, 0, enc x) :: (pb, po, [ptr n 0]) :: (n, 0, [.int .u64 iso, .int .i64 cnt, iv, kp]) :: (ib, io, its.flatMap enc ++ isp) :: E) h' → z0v_.j1 (ptr tb 0) (ptr t5 0) (ptr t9 0) (.int .i64 (pos lt its x)) h' Q) :
  z0v_.call #[ptr tb 0, ptr pb po, .agg (enc x).toArray] h Q := by
 refine z0v_.body _ _ _ _ _ ?_; unfold z0v_.sh; refine St.r_box (cs := enc x) s fun t5 h s => ?_; refine isoLoad_ok (n := n) (iso := iso) (by have := s.getZ hT0 (j := 0) (by simp); simpa using this) (by have := s.get (k := 1) (j := 0) rfl (by simp); simpa using this) (fun _ => by have := s.get (k := 2) (j := 0) rfl (by simp); simpa using this) ?_; refine s.r_alloc fun t9 h s => ?_; refine St.r_store0 s 0 rfl (by simp) rfl ?_; intro h s
 try simp only [P2] at s
 refine St.r_load0 s 0 rfl rfl (r_fld (St.r_load0 s 1 rfl rfl ?_))
 refine search_ok (x := x) ha (by omega) (by have := s.get (k := 3) (j := 2) rfl (by simp); simpa using this) (w.rdl s 4 rfl) ?_; refine r_ext rfl (r_ext rfl ?_)
 refine r_if (fun hf => ?_) (fun hn => ?_)
 · obtain ⟨y, hy⟩ := Option.isSome_iff_exists.1 hf
   obtain ⟨hp, hyy, _⟩ := lget_some hy
   have hy2 : its[pos lt its x]? = some y := by rw [List.getElem?_eq_getElem hp, hyy]
   refine St.r_load0 s 0 rfl rfl (r_nil (r_fld (St.r_load0 s 3 rfl rfl ?_)))
   refine w.idx (n := pos lt its x) rfl hp ?_; refine r_fld ?_; refine s.r_load1F encl (r := 0) 4 rfl hy2 rfl ?_; refine St.r_load0 s 0 rfl rfl (r_nil (r_fld (St.r_load0 s 3 rfl rfl ?_)))
   refine St.r_loadN0 s 1 rfl (by simp) ?_; refine w.idx (n := pos lt its x) rfl hp ?_; refine s.r_storeF (x := x) encl 4 rfl hp (enc1 _) fun h s => ?_; rw [← lput_found hy] at s; exact H1 y h hy (s.drop 2)
 · have hn : lget lt its x = none := by cases e : lget lt its x with
    | none => rfl
    | some y => rw [e] at hn; cases hn
   exact H2 t5 t9 h hn s
theorem set_leaf {n ib io i t5 t9 tb : Nat} {cnt mn mx : Int} {c1 iv kp : Value} {its : List It} {isp : List Value} {x : It} (htb : h0.size ≤ tb) (hT4 : (tb, 4, hd4 mn mx) ∈ Z) (hl : its.length ≤ 1024) (hi : i ≤ its.length) (hc0 : 0 ≤ cnt) (hc : cnt ≤ 4611686018427387904)
  (w : Own 2 iv its.length ib io (its.flatMap enc) isp) (s : St h0 Z ((t9, 0, [ptr n 0]) :: (t5, 0, enc x) :: (n, 0, [c1, .int .i64 cnt, iv, kp]) :: (ib, io, its.flatMap enc ++ isp) :: E) h)
  (H : ∀ iv' ib' io' isp' h', Own 2 iv' (ins its i x).length ib' io' ((ins its i x).flatMap enc) isp' → St h0 Z ((n, 0, [c1, .int .i64 (cnt + 1), iv', kp]) :: (ib', io', (ins its i x).flatMap enc ++ isp') :: E) h' → Q (.tuple #[vv emp.2, .bool false, .bool false]) h') :
  z0v_.j6 (ptr tb 0) (ptr t5 0) (ptr t9 0) (.int .i64 i) h Q := by
 unfold z0v_.j6; refine St.r_load0 s 0 rfl rfl (St.r_load0 s 0 rfl rfl (r_nil (r_fld (St.r_load0 s 2 rfl rfl (r_nil (r_fld ?_))))))
 refine s.r_lzE hT4 0 (enc emp) rfl (by simp) rfl ?_; refine St.r_mkSl (sz := 2) (cs := enc emp) s (by ((simp only [fillV, fill1, Value.cells, Nat.reduceAdd, Nat.reduceMul, Nat.reduceLeDiff, Nat.reduceEqDiff, reduceIte, PF] <;> rfl))) rfl fun q h s w1 => ?_; refine And.intro (by exact St.r_still0 s 1 rfl rfl) ?_; refine And.intro (by exact St.r_still0 s 1 rfl rfl) ?_; refine And.intro (by exact St.r_still0 s 3 rfl rfl) ?_; refine St.r_app s 4 (sz := 2) (n := 1) (new := enc emp) rfl w rfl (w1.rdl s 0 rfl) (enc1 _) (by omega) (by omega) fun v' b' o' sp' h s w' => ?_; rw [snoc_enc] at s w'
 have w' : Own 2 v' (its ++ [emp]).length b' o' ((its ++ [emp]).flatMap enc) sp' := by rw [List.length_append]; exact w'
 refine And.intro (by exact St.r_still0 s 1 rfl rfl) ?_; refine r_nil (r_fld ?_)
 refine St.r_store0 s 3 rfl (by simp) w'.one ?_; intro h s
 refine St.r_load0 s 1 rfl rfl (r_nil (r_fld (St.r_load0 s 3 rfl rfl ?_)))
 refine r_add (z := ((i + 1 : Nat) : Int)) (by rw [i64w (by omega) (by omega)]; omega) ?_; refine w'.slcLo encl (i := i + 1) rfl (by simp; omega) fun d wd => ?_; refine St.r_load0 s 1 rfl rfl (r_nil (r_fld (St.r_load0 s 3 rfl rfl ?_)))
 refine (w'.rdl s 4 rfl).slcLo encl (i := i) rfl (by simp; omega) fun src rs => ?_; refine s.r_cpyF encl 4 (L := its ++ [emp]) (M := (its ++ [emp]).drop i) rfl wd (by simp; omega) rs rfl (fun y _ => enc1 y) fun h s => ?_; refine St.r_load0 s 1 rfl rfl (r_nil (r_fld (St.r_load0 s 3 rfl rfl ?_)))
 refine St.r_loadN0 s 2 rfl (by simp) ?_; refine w'.idx (n := i) rfl (by simp; omega) ?_; refine s.r_storeF (x := x) encl 4 rfl (by simp; omega) (enc1 _) fun h s => ?_; rw [List.set_set, ins_steps its emp x hi] at s; refine St.r_load0 s 1 rfl rfl (r_nil (r_fld (St.r_load0 s 3 rfl rfl ?_)))
 refine r_add (z := cnt + 1) (by rw [i64w (by omega) (by omega)]) ?_; refine r_nil (r_fld ?_)
 refine St.r_store0 s 3 rfl (by simp) rfl ?_; intro h s
 refine r_nil (r_fld (r_fld ?_))
 refine s.r_lz hT4 0 rfl rfl ?_; refine H v' b' o' sp' h ?_ (s.drop 3)
 have e := ins_length (x := x) hi
 rw [show (ins its i x).length = (its ++ [emp]).length by rw [e]; simp]; exact w'.cong (by rw [flat_len encl, flat_len encl, e]; simp)
def SetOk (h0 : Heap) (Z : List Rg) (tb m : Nat) (iso : Int) (x : It) (k : Nat) : Prop :=
 ∀ (t : GT It k) {h : Heap} {E : List Rg} {Q : Value → Heap → Prop} {pb po lo : Nat}, t.pt.Fl m lo → Asc lt t.pt.items → t.pt.items.length ≤ 4611686018427387903 → Gd iso t → St h0 Z ((pb, po, [ptr t.id 0]) :: (t.all enc ++ E)) h →
  (∀ (t' : GT It k) h', t'.pt = (if t.pt.splits lt m x then t.pt else t.pt.set lt m x) → t'.id = t.id → Gd iso t' → St h0 Z ((pb, po, [ptr t.id 0]) :: (t'.all enc ++ E)) h' →
   Q (.tuple #[old (t.pt.get lt x), .bool (t.pt.get lt x).isSome, .bool (t.pt.splits lt m x)]) h') → z0v_.call #[ptr tb 0, ptr pb po, .agg (enc x).toArray] h Q
theorem SetOk.zero {tb m : Nat} {iso mn : Int} {ctr : Option Addr} {x : It} (htb : h0.size ≤ tb) (hT0 : (tb, 0, hd0 iso ctr) ∈ Z) (hT4 : (tb, 4, hd4 mn m) ∈ Z) (hm1 : m ≤ 1024) : SetOk h0 Z tb m iso x 0 := by
 intro d h E Q pb po lo fl ha hsz g s H; obtain ⟨own, n, is', cnt, its, iv, ib, io, isp, kb, kv, krb, kro, ksp⟩ := d
 have w : Own 2 iv its.length ib io (its.flatMap enc) isp := g.wf.1
 have hlen : its.length ≤ m := fl.2
 have hcn : cnt = its.length := g.cn
 have ho : own = true := g.mine
 have hiso : is' = iso := g.wf.2.1 ho
 subst hiso; subst ho
 have s : St h0 Z ((pb, po, [ptr n 0]) :: (n, 0, [.int .u64 is', .int .i64 cnt, iv, .pointer none]) :: (ib, io, its.flatMap enc ++ isp) :: E) h := s
 have ha : Asc lt its := ha
 refine set_head hT0 ha (by omega) w s (fun y h' hy s => ?_) fun t5 t9 h' hn s => ?_
 · have hns : PT.splits lt m (h := 0) its x = false := by rw [PT.splits_leaf, hy]; rfl
   have hg : PT.get lt (h := 0) its x = some y := hy
   have hln : (lput lt its x).length = its.length := by rw [lput_length, hy]; rfl
   have := H (⟨true, n, is', cnt, lput lt its x, iv, ib, io, isp, kb, kv, krb, kro, ksp⟩ : Nd It) h' (by show _ = if PT.splits lt m (h := 0) its x = true then _ else _; rw [hns]; rfl) rfl
    (Gd.leaf (by show Own 2 iv (lput lt its x).length ib io ((lput lt its x).flatMap enc) isp; rw [hln]; exact w.cong (by rw [flat_len encl, flat_len encl, hln])) rfl rfl (by show cnt = (lput lt its x).length; rw [hln]; exact hcn)) s
   change Q (.tuple #[old (PT.get lt (h := 0) its x), .bool (PT.get lt (h := 0) its x).isSome, .bool (PT.splits lt m (h := 0) its x)]) h' at this
   rw [hns, hg] at this; exact this
 · unfold z0v_.j1
   have hg : PT.get lt (h := 0) its x = none := hn
   refine St.r_load0 s 0 rfl rfl ?_; refine leaf_ok (a := none) (s.get (k := 3) (j := 3) rfl (by simp)) ?_; refine r_if (fun _ => ?_) (fun e => absurd e (by simp))
   refine St.r_load0 s 0 rfl rfl (r_nil (r_fld (St.r_load0 s 3 rfl rfl ?_)))
   refine w.lenV ?_; refine r_nil (r_fld ?_)
   refine s.r_lz hT4 3 rfl rfl ?_; refine r_cmpI ?_; refine r_if (fun hfull => ?_) (fun hroom => ?_)
   · have hfull : its.length = m := Int.ofNat_inj.1 (by simpa using hfull)
     have hsp : PT.splits lt m (h := 0) its x = true := by rw [PT.splits_leaf, hn]; simpa using hfull
     refine r_nil (r_fld (r_fld ?_))
     refine s.r_lz hT4 0 rfl rfl ?_
     have := H (⟨true, n, is', cnt, its, iv, ib, io, isp, kb, kv, krb, kro, ksp⟩ : Nd It) h' (by show _ = if PT.splits lt m (h := 0) its x = true then _ else _; rw [hsp]; rfl) rfl g (s.drop 2)
     change Q (.tuple #[old (PT.get lt (h := 0) its x), .bool (PT.get lt (h := 0) its x).isSome, .bool (PT.splits lt m (h := 0) its x)]) h' at this
     rw [hsp, hg] at this; exact this
   · have hroom : its.length ≠ m := fun e => by rw [e] at hroom; simp at hroom
     have hsp : PT.splits lt m (h := 0) its x = false := by rw [PT.splits_leaf, hn]; simpa using hroom
     have hp := pos_le (lt := lt) its x
     refine set_leaf (n := n)  (t5 := t5) (t9 := t9) (x := x) (c1 := .int .u64 is') (kp := .pointer none) (cnt := cnt) (its := its) (E := (pb, po, [ptr n 0]) :: E) htb hT4 (by omega) hp (by omega) (by omega) w (s.perm (by ((apply perm_rg; intro f; simp only [PS]; ac_rfl)))) fun iv' ib' io' isp' h' w' s => ?_; rw [← lput_ins hn] at w' s
     have hln : (lput lt its x).length = its.length + 1 := by rw [lput_length, hn]; rfl
     have := H (⟨true, n, is', cnt + 1, lput lt its x, iv', ib', io', isp', kb, kv, krb, kro, ksp⟩ : Nd It) h' (by show _ = if PT.splits lt m (h := 0) its x = true then _ else _; rw [hsp]; rfl) rfl
      (Gd.leaf w' rfl rfl (by show cnt + 1 = (lput lt its x).length; omega)) (s.front 2 rfl)
     change Q (.tuple #[old (PT.get lt (h := 0) its x), .bool (PT.get lt (h := 0) its x).isSome, .bool (PT.splits lt m (h := 0) its x)]) h' at this
     rw [hsp, hg] at this; exact this
theorem flat_at3 {β : Type} (f : β → List Rg) {ts : List β} {i : Nat} {c : β} (hc : ts[i]? = some c) : ts.flatMap f = (ts.take i).flatMap f ++ (f c ++ (ts.drop (i + 1)).flatMap f) := by
 conv => lhs; rw [take_at hc, List.flatMap_append, List.flatMap_cons]
theorem set_ids {k : Nat} {ts : List (GT It k)} {i : Nat} {c c' : GT It k} (hc : ts[i]? = some c) (he : c'.id = c.id) : (ts.set i c').map GT.id = ts.map GT.id := by
 obtain ⟨hi, rfl⟩ := List.getElem?_eq_some_iff.1 hc; rw [List.map_set, he]
 apply List.ext_getElem?
 intro j; rw [List.getElem?_set]
 split
 · rename_i e; subst e
   simp [hi]
 · rfl
theorem lend_kid {k : Nat} {ts : List (GT It k)} {i kb krb kro : Nat} {kv : Value} {ksp : List Value} {A : List Rg} {c : GT It k} (hc : ts[i]? = some c)
  (s : St h0 Z (A ++ ((krb, kro, (ts.map GT.id).flatMap fp ++ ksp) :: (ts.flatMap (GT.all enc) ++ E))) h) :
  ∃ E', St h0 Z ((krb, kro + i * 1, [ptr c.id 0]) :: (c.all enc ++ E')) h ∧ ∀ (c' : GT It k) h', c'.id = c.id → St h0 Z ((krb, kro + i * 1, [ptr c.id 0]) :: (c'.all enc ++ E')) h' →
   St h0 Z (A ++ ((krb, kro, ((ts.set i c').map GT.id).flatMap fp ++ ksp) :: ((ts.set i c').flatMap (GT.all enc) ++ E))) h' := by
 have hid : (ts.map GT.id)[i]? = some c.id := by rw [List.getElem?_map, hc]; rfl
 have s1 : St h0 Z ((krb, kro, (ts.map GT.id).flatMap fp ++ ksp) :: (A ++ (ts.flatMap (GT.all enc) ++ E))) h := s.perm (by ((apply perm_rg; intro f; simp only [PS]; ac_rfl)))
 have s2 := St.cut3 fpl s1 hid
 refine ⟨(krb, kro, ((ts.map GT.id).take i).flatMap fp) :: (krb, kro + (i + 1) * 1, ((ts.map GT.id).drop (i + 1)).flatMap fp ++ ksp) :: (A ++ ((ts.take i).flatMap (GT.all enc) ++ ((ts.drop (i + 1)).flatMap (GT.all enc) ++ E))), s2.perm ?_, fun c' h' he s' => ?_⟩
 · rw [flat_at3 (GT.all enc) hc]; ((apply perm_rg; intro f; simp only [PS]; ac_rfl))
 · have hi := (List.getElem?_eq_some_iff.1 hc).1
   have hc' : (ts.set i c')[i]? = some c' := by rw [List.getElem?_set_self hi]
   rw [set_ids hc he, flat_at3 (GT.all enc) hc', List.take_set_of_le (Nat.le_refl _), List.drop_set_of_lt (by omega)]
   have s3 : St h0 Z ((krb, kro, ((ts.map GT.id).take i).flatMap fp) :: (krb, kro + (i + 1) * 1, ((ts.map GT.id).drop (i + 1)).flatMap fp ++ ksp) :: (krb, kro + i * 1, fp c.id) :: (A ++ ((ts.take i).flatMap (GT.all enc) ++ (c'.all enc ++ ((ts.drop (i + 1)).flatMap (GT.all enc) ++ E))))) h' := s'.perm (by ((apply perm_rg; intro f; simp only [PS]; ac_rfl)))
   have s4 := St.glue3 fpl hid s3
   exact s4.perm (by ((apply perm_rg; intro f; simp only [PS]; ac_rfl)))
theorem r_loadM1 {k : Nat} {ts : List (GT It k)} {K : Value → Prop} (s : St h0 Z E h) (j : Nat) {b o i : Nat} {sp : List Value} {c : GT It k} (hk : E[j]? = some (b, o, (ts.map GT.id).flatMap fp ++ sp)) (hc : ts[i]? = some c) (H : K (ptr c.id 0)) : load1 (ptr b (o + i * 1)) h K := by
 have := s.r_load1F (K := K) (r := 0) fpl j hk (show (ts.map GT.id)[i]? = some c.id by rw [List.getElem?_map, hc]; rfl) (v := ptr c.id 0) rfl H
 exact this
theorem Gd.setKid {iso : Int} {k : Nat} {d : Nd It} {ts : List (GT It k)} (g : Gd iso (k := k + 1) (d, ts)) {i : Nat} {c c' : GT It k} (hc : ts[i]? = some c) (he : c'.id = c.id) (g' : Gd iso c') {cnt : Int}
  (hcnt : cnt = (GT.pt (h := k + 1) (d, ts.set i c')).items.length) : Gd iso (k := k + 1) ({ d with cnt := cnt }, ts.set i c') := by
 have wK := g.wf.2.1
 refine Gd.inner g.wf.1.1 g.mine.1 (g.wf.1.2.1 g.mine.1) ?_ (by rw [List.length_set]; exact g.wf.2.2.1) (fun q hq => ?_) hcnt
 · rw [set_ids hc he, List.length_set, ← mfp]; exact wK
 · rcases List.mem_or_eq_of_mem_set hq with e | e
   · exact g.kid e
   · rw [e]; exact g'
theorem set_noSplit {tb m : Nat} {iso mn : Int} {ctr : Option Addr} {x : It} (htb : h0.size ≤ tb) (hT0 : (tb, 0, hd0 iso ctr) ∈ Z) (hT4 : (tb, 4, hd4 mn m) ∈ Z) (hm1 : m ≤ 1024) (ho : m % 2 = 1) {k : Nat} (ih : SetOk h0 Z tb m iso x k)
  (t : GT It (k + 1)) {pb po lo : Nat} (fl : t.pt.Fl m lo) (ha : Asc lt t.pt.items) (hsz : t.pt.items.length ≤ 4611686018427387903) (g : Gd iso t) (s : St h0 Z ((pb, po, [ptr t.id 0]) :: (t.all enc ++ E)) h)
  (hns : ∀ c, t.pt.2[pos lt t.pt.1 x]? = some c → lget lt t.pt.1 x = none → c.splits lt m x = false)
  (H : ∀ (t' : GT It (k + 1)) h', t'.pt = t.pt.set lt m x → t'.id = t.id → Gd iso t' → St h0 Z ((pb, po, [ptr t.id 0]) :: (t'.all enc ++ E)) h' → Q (.tuple #[old (t.pt.get lt x), .bool (t.pt.get lt x).isSome, .bool false]) h') :
  z0v_.call #[ptr tb 0, ptr pb po, .agg (enc x).toArray] h Q := by
 have hsp : t.pt.splits lt m x = false := by
  cases e : t.pt.splits lt m x with
  | false => rfl
  | true =>
   obtain ⟨_, e2⟩ := PT.splits_len e
   have e2 : lget lt t.pt.1 x = none := e2
   obtain ⟨c, hc, _⟩ := PT.step swo fl ha e2; rw [PT.splits_kid e2 hc, hns c hc e2] at e
   simp at e
 have hset := PT.set_items swo ho fl ha hsp
 have hgi := PT.get_items swo fl ha (x := x)
 obtain ⟨d, ts⟩ := t; obtain ⟨own, n, is', cnt, its, iv, ib, io, isp, kb, kv, krb, kro, ksp⟩ := d
 have w : Own 2 iv its.length ib io (its.flatMap enc) isp := g.wf.1.1
 have wK : Own 1 kv ts.length krb kro ((ts.map GT.id).map fun m => ptr m 0) ksp := g.wf.2.1
 have hkl : ts.length = its.length + 1 := g.wf.2.2.1
 have hidl : (ts.map GT.id).length = ts.length := List.length_map ..
 have hom : own = true := g.mine.1
 have hiso : is' = iso := g.wf.1.2.1 hom
 subst hiso; subst hom
 have hlen : its.length ≤ m := fl.2.1
 have ha1 : Asc lt its := asc_of_sub ha (PT.its_sub1 (its, ts.map GT.pt))
 rw [← hidl, mfp] at wK
 have hcn : cnt = (PT.items (h := k + 1) (its, ts.map GT.pt)).length := g.cn.1
 have s : St h0 Z ((pb, po, [ptr n 0]) :: (n, 0, [.int .u64 is', .int .i64 cnt, iv, ptr kb 0]) :: (ib, io, its.flatMap enc ++ isp) :: (kb, 0, [kv]) :: (krb, kro, ((ts.map GT.id).map fun m => ptr m 0) ++ ksp) :: (ts.flatMap (GT.all enc) ++ E)) h := s
 rw [mfp] at s; refine set_head hT0 ha1 (by omega) w s (fun y h' hy s => ?_) fun t5 t9 h' hn s => ?_
 · have hln : (lput lt its x).length = its.length := by rw [lput_length, hy]; rfl
   have e1 : PT.set lt m (h := k + 1) (its, ts.map GT.pt) x = (lput lt its x, ts.map GT.pt) := PT.set_found (t := (its, ts.map GT.pt)) hy
   have e2 : PT.get lt (h := k + 1) (its, ts.map GT.pt) x = some y := PT.get_found (t := (its, ts.map GT.pt)) hy
   have e3 : (PT.items (h := k + 1) (lput lt its x, ts.map GT.pt)).length = (PT.items (h := k + 1) (its, ts.map GT.pt)).length := by
    have h1 : (PT.set lt m (h := k + 1) (its, ts.map GT.pt) x).items = lput lt (PT.items (h := k + 1) (its, ts.map GT.pt)) x := hset.1
    have h2 : PT.get lt (h := k + 1) (its, ts.map GT.pt) x = lget lt (PT.items (h := k + 1) (its, ts.map GT.pt)) x := hgi
    rw [e1] at h1; rw [h1, lput_length, ← h2, e2]; rfl
   have := H ((⟨true, n, is', cnt, lput lt its x, iv, ib, io, isp, kb, kv, krb, kro, ksp⟩ : Nd It), ts) h' e1.symm rfl
    (Gd.inner (by show Own 2 iv (lput lt its x).length ib io ((lput lt its x).flatMap enc) isp; rw [hln]; exact w.cong (by rw [flat_len encl, flat_len encl, hln])) rfl rfl (by rw [← hidl]; exact wK) (by show ts.length = (lput lt its x).length + 1; rw [hln]; exact hkl) (fun c hc => g.kid hc) (by
     show cnt = ((PT.items (h := k + 1) (lput lt its x, ts.map GT.pt)).length : Int); rw [e3]; exact hcn)) (by rw [← mfp] at s; exact s)
   change Q (.tuple #[old (PT.get lt (h := k + 1) (its, ts.map GT.pt) x), .bool (PT.get lt (h := k + 1) (its, ts.map GT.pt) x).isSome, .bool false]) h' at this
   rw [e2] at this; exact this
 · have hp := pos_le (lt := lt) its x
   obtain ⟨c, hc⟩ : ∃ c, ts[pos lt its x]? = some c := ⟨ts[pos lt its x]'(by omega), List.getElem?_eq_getElem (by omega)⟩
   have hcp : (ts.map GT.pt)[pos lt its x]? = some c.pt := by rw [List.getElem?_map, hc]; rfl
   have hcs : c.pt.splits lt m x = false := hns c.pt hcp hn
   obtain ⟨c0, hc0, hcm, hac, hg0, _⟩ := PT.step (h := k) (t := (its, ts.map GT.pt)) swo fl ha hn
   have : c0 = c.pt := Option.some.inj (hc0.symm.trans hcp)
   subst this
   have hcmem := List.mem_of_getElem? hc
   have e1 : PT.set lt m (h := k + 1) (its, ts.map GT.pt) x = (its, (ts.map GT.pt).set (pos lt its x) (c.pt.set lt m x)) := PT.set_kid (t := (its, ts.map GT.pt)) hn hcp hcs
   have e2 : PT.get lt (h := k + 1) (its, ts.map GT.pt) x = c.pt.get lt x := PT.get_kid (t := (its, ts.map GT.pt)) hn hcp
   have hcsz : c.pt.items.length ≤ 4611686018427387903 := by
    have h1 : (inter its ((ts.map GT.pt).map PT.items)).length = _ := inter_length _ _
    have h2 : (inter its ((ts.map GT.pt).map PT.items)).length ≤ 4611686018427387903 := hsz
    have h3 : c.pt.items.length ≤ (((ts.map GT.pt).map PT.items).map List.length).sum := mem_le_sum (by
     rw [List.map_map, List.map_map]; exact List.mem_map.2 ⟨c, hcmem, rfl⟩)
    omega
   unfold z0v_.j1; refine St.r_load0 s 0 rfl rfl ?_; refine leaf_ok (a := some ⟨kb, 0, none⟩) (s.get (k := 3) (j := 3) rfl (by simp)) ?_; refine r_if (fun e => absurd e (by simp)) (fun _ => ?_)
   unfold z0v_.j2; refine St.r_load0 s 0 rfl rfl (r_nil (r_fld (St.r_load0 s 3 rfl rfl (r_nil (St.r_load0 s 5 rfl rfl ?_)))))
   refine wK.idx (n := pos lt its x) rfl (by omega) ?_; refine St.r_loadN0 s 1 rfl (by simp) ?_; obtain ⟨E', sk, back⟩ := lend_kid (A := (t9, 0, [ptr n 0]) :: (t5, 0, enc x) :: (pb, po, [ptr n 0]) :: (n, 0, [.int .u64 is', .int .i64 cnt, iv, ptr kb 0]) :: (ib, io, its.flatMap enc ++ isp) :: (kb, 0, [kv]) :: []) (E := E) (kb := kb) (kv := kv) hc s; refine ih c (fl.2.2.2 _ hcm) hac hcsz (g.kid hcmem) sk fun c' h' hc1 hc2 hc3 s => ?_; rw [hcs] at hc1 ⊢
   simp only [Bool.false_eq_true, ↓reduceIte] at hc1
   have s := back c' h' hc2 s
   have s : St h0 Z ((t9, 0, [ptr n 0]) :: (t5, 0, enc x) :: (pb, po, [ptr n 0]) :: (n, 0, [.int .u64 is', .int .i64 cnt, iv, ptr kb 0]) :: (ib, io, its.flatMap enc ++ isp) :: (kb, 0, [kv]) :: (krb, kro, ((ts.set (pos lt its x) c').map GT.id).flatMap fp ++ ksp) :: ((ts.set (pos lt its x) c').flatMap (GT.all enc) ++ E)) h' := s
   have ept : (ts.set (pos lt its x) c').map GT.pt = (ts.map GT.pt).set (pos lt its x) (c.pt.set lt m x) := by rw [List.map_set, hc1]
   have hlenI : (PT.items (h := k + 1) (its, (ts.set (pos lt its x) c').map GT.pt)).length = (PT.items (h := k + 1) (its, ts.map GT.pt)).length + if (c.pt.get lt x).isSome then 0 else 1 := by
    have h1 : (PT.set lt m (h := k + 1) (its, ts.map GT.pt) x).items = lput lt (PT.items (h := k + 1) (its, ts.map GT.pt)) x := hset.1
    have h2 : PT.get lt (h := k + 1) (its, ts.map GT.pt) x = lget lt (PT.items (h := k + 1) (its, ts.map GT.pt)) x := hgi
    rw [e1, ← ept] at h1; rw [h1, lput_length, ← h2, e2]
   have fin : ∀ cnt' h', cnt' = (((PT.items (h := k + 1) (its, (ts.set (pos lt its x) c').map GT.pt)).length : Nat) : Int) →
     St h0 Z ((t9, 0, [ptr n 0]) :: (t5, 0, enc x) :: (pb, po, [ptr n 0]) :: (n, 0, [.int .u64 is', .int .i64 cnt', iv, ptr kb 0]) :: (ib, io, its.flatMap enc ++ isp) :: (kb, 0, [kv]) :: (krb, kro, ((ts.set (pos lt its x) c').map GT.id).flatMap fp ++ ksp) :: ((ts.set (pos lt its x) c').flatMap (GT.all enc) ++ E)) h' →
     Q (.tuple #[old (c.pt.get lt x), .bool (c.pt.get lt x).isSome, .bool false]) h' := by
    intro cnt' h' hcnt' s
    have := H ((⟨true, n, is', cnt', its, iv, ib, io, isp, kb, kv, krb, kro, ksp⟩ : Nd It), ts.set (pos lt its x) c') h' (by show (its, (ts.set (pos lt its x) c').map GT.pt) = _; rw [ept]; exact e1.symm) rfl
     (Gd.setKid (d := ⟨true, n, is', cnt, its, iv, ib, io, isp, kb, kv, krb, kro, ksp⟩) g hc hc2 hc3 hcnt') (by rw [← mfp] at s; exact s.drop 2)
    change Q (.tuple #[old (PT.get lt (h := k + 1) (its, ts.map GT.pt) x), .bool (PT.get lt (h := k + 1) (its, ts.map GT.pt) x).isSome, .bool false]) h' at this
    rw [e2] at this; exact this
   refine r_ext rfl (r_ext rfl (r_ext rfl ?_))
   refine r_if (fun e => absurd e (by simp)) (fun _ => ?_)
   unfold z0v_.j3; refine r_not ?_; refine r_if (fun hr => ?_) (fun hr => ?_)
   · have hr : (c.pt.get lt x).isSome = false := by simpa using hr
     rw [hr] at hlenI; refine St.r_load0 s 0 rfl rfl (r_nil (r_fld (St.r_load0 s 3 rfl rfl ?_)))
     refine r_add (z := cnt + 1) (by have : (PT.items (h := k + 1) (its, ts.map GT.pt)).length ≤ 4611686018427387903 := hsz; rw [i64w (by omega) (by omega)]) ?_; refine r_nil (r_fld ?_)
     refine St.r_store0 s 3 rfl (by simp) rfl ?_; intro h s
     unfold z0v_.j4; exact fin (cnt + 1) h (by rw [hlenI, hcn]; simp) s
   · have hr : (c.pt.get lt x).isSome = true := by simpa using hr
     rw [hr] at hlenI; unfold z0v_.j4; exact fin cnt h' (by rw [hlenI, hcn]; simp) s
abbrev pp (m : Nat) : Value := ptr m 0
theorem fpv (l : List Nat) : l.flatMap fp = (l.map pp).flatMap fv := by rw [flat_fv]; exact List.map_eq_flatMap.symm
theorem SetOk.succ {tb m : Nat} {iso mn : Int} {ctr : Option Addr} {x : It} (htb : h0.size ≤ tb) (hT0 : (tb, 0, hd0 iso ctr) ∈ Z) (hT4 : (tb, 4, hd4 mn m) ∈ Z) (hm1 : m ≤ 1024) (ho : m % 2 = 1) {k : Nat} (ih : SetOk h0 Z tb m iso x k) : SetOk h0 Z tb m iso x (k + 1) := by
 intro t h E Q pb po lo fl ha hsz g s H
 by_cases hns : ∀ c, t.pt.2[pos lt t.pt.1 x]? = some c → lget lt t.pt.1 x = none → c.splits lt m x = false
 · have hsp : t.pt.splits lt m x = false := by
    cases e : t.pt.splits lt m x with
    | false => rfl
    | true =>
     obtain ⟨_, e2⟩ := PT.splits_len e
     have e2 : lget lt t.pt.1 x = none := e2
     obtain ⟨c, hc, _⟩ := PT.step swo fl ha e2; rw [PT.splits_kid e2 hc, hns c hc e2] at e
     simp at e
   refine set_noSplit htb hT0 hT4 hm1 ho ih t fl ha hsz g s hns fun t' h' h1 h2 h3 s => ?_
   have := H t' h' (by rw [hsp]; exact h1) h2 h3 s
   rw [hsp] at this; exact this
 have hex : ∃ cp, t.pt.2[pos lt t.pt.1 x]? = some cp ∧ lget lt t.pt.1 x = none ∧ cp.splits lt m x = true := by
  apply Classical.byContradiction
  intro hno; refine hns fun c h1 h2 => ?_
  cases e : c.splits lt m x with
  | false => rfl
  | true => exact absurd ⟨c, h1, h2, e⟩ hno
 clear hns; obtain ⟨cp, hcp, hn, hcs⟩ := hex; obtain ⟨c0, hc0, hcm, hac, hg0, _⟩ := PT.step swo fl ha hn
 have : c0 = cp := Option.some.inj (hc0.symm.trans hcp)
 subst this
 have hgn := PT.splits_get swo (fl.2.2.2 _ hcm) hac hcs
 have hgt : t.pt.get lt x = none := by rw [PT.get_items swo fl ha, hg0, hgn]
 have hgc : c0.get lt x = none := by rw [PT.get_items swo (fl.2.2.2 _ hcm) hac, hgn]
 obtain ⟨md, hmd, _⟩ := PT.halves swo ho (fl.2.2.2 _ hcm) hac hcs; obtain ⟨d, ts⟩ := t; obtain ⟨own, n, is', cnt, its, iv, ib, io, isp, kb, kv, krb, kro, ksp⟩ := d
 have w : Own 2 iv its.length ib io (its.flatMap enc) isp := g.wf.1.1
 have wK : Own 1 kv ts.length krb kro ((ts.map GT.id).map fun m => ptr m 0) ksp := g.wf.2.1
 have hkl : ts.length = its.length + 1 := g.wf.2.2.1
 have hidl : (ts.map GT.id).length = ts.length := List.length_map ..
 have hom : own = true := g.mine.1
 have hiso : is' = iso := g.wf.1.2.1 hom
 subst hiso; subst hom
 have hlen : its.length ≤ m := fl.2.1
 have hn : lget lt its x = none := hn
 have hcp : (ts.map GT.pt)[pos lt its x]? = some c0 := hcp
 have ha1 : Asc lt its := asc_of_sub ha (PT.its_sub1 (its, ts.map GT.pt))
 rw [← hidl, mfp] at wK
 have hcn : cnt = (PT.items (h := k + 1) (its, ts.map GT.pt)).length := g.cn.1
 have s : St h0 Z ((pb, po, [ptr n 0]) :: (n, 0, [.int .u64 is', .int .i64 cnt, iv, ptr kb 0]) :: (ib, io, its.flatMap enc ++ isp) :: (kb, 0, [kv]) :: (krb, kro, ((ts.map GT.id).map fun m => ptr m 0) ++ ksp) :: (ts.flatMap (GT.all enc) ++ E)) h := s
 rw [mfp] at s; refine set_head hT0 ha1 (by omega) w s (fun y h' hy s => by rw [hn] at hy; cases hy) fun t5 t9 h' _ s => ?_
 have hp := pos_le (lt := lt) its x
 obtain ⟨c, hc⟩ : ∃ c, ts[pos lt its x]? = some c := ⟨ts[pos lt its x]'(by omega), List.getElem?_eq_getElem (by omega)⟩
 have : c0 = c.pt := by
  rw [List.getElem?_map, hc] at hcp; exact (Option.some.inj hcp).symm
 subst this
 have hcmem := List.mem_of_getElem? hc
 have hcsz : c.pt.items.length ≤ 4611686018427387903 := by
  have h1 : (inter its ((ts.map GT.pt).map PT.items)).length = _ := inter_length _ _
  have h2 : (inter its ((ts.map GT.pt).map PT.items)).length ≤ 4611686018427387903 := hsz
  have h3 : c.pt.items.length ≤ (((ts.map GT.pt).map PT.items).map List.length).sum := mem_le_sum (by
   rw [List.map_map, List.map_map]; exact List.mem_map.2 ⟨c, hcmem, rfl⟩)
  omega
 unfold z0v_.j1; refine St.r_load0 s 0 rfl rfl ?_; refine leaf_ok (a := some ⟨kb, 0, none⟩) (s.get (k := 3) (j := 3) rfl (by simp)) ?_; refine r_if (fun e => absurd e (by simp)) (fun _ => ?_)
 unfold z0v_.j2; refine St.r_load0 s 0 rfl rfl (r_nil (r_fld (St.r_load0 s 3 rfl rfl (r_nil (St.r_load0 s 5 rfl rfl ?_)))))
 refine wK.idx (n := pos lt its x) rfl (by omega) ?_; refine St.r_loadN0 s 1 rfl (by simp) ?_; obtain ⟨E', sk, back⟩ := lend_kid (A := (t9, 0, [ptr n 0]) :: (t5, 0, enc x) :: (pb, po, [ptr n 0]) :: (n, 0, [.int .u64 is', .int .i64 cnt, iv, ptr kb 0]) :: (ib, io, its.flatMap enc ++ isp) :: (kb, 0, [kv]) :: []) (E := E) (kb := kb) (kv := kv) hc s; refine ih c (fl.2.2.2 _ hcm) hac hcsz (g.kid hcmem) sk fun c' h' hc1 hc2 hc3 s => ?_; rw [hcs, hgc]; rw [hcs] at hc1
 simp only [↓reduceIte] at hc1
 have s := back c' h' hc2 s
 have s : St h0 Z ((t9, 0, [ptr n 0]) :: (t5, 0, enc x) :: (pb, po, [ptr n 0]) :: (n, 0, [.int .u64 is', .int .i64 cnt, iv, ptr kb 0]) :: (ib, io, its.flatMap enc ++ isp) :: (kb, 0, [kv]) :: (krb, kro, ((ts.set (pos lt its x) c').map GT.id).flatMap fp ++ ksp) :: ((ts.set (pos lt its x) c').flatMap (GT.all enc) ++ E)) h' := s
 have hi := (List.getElem?_eq_some_iff.1 hc).1
 have hc' : (ts.set (pos lt its x) c')[pos lt its x]? = some c' := List.getElem?_set_self hi
 have ept : (ts.set (pos lt its x) c').map GT.pt = ts.map GT.pt := by
  apply List.ext_getElem?
  intro j; rw [List.map_set, List.getElem?_set]
  split
  · rename_i e; subst e
    simp only [List.length_map, hi, if_true]
    rw [hc1]; exact hcp.symm
  · rfl
 have g1 : Gd is' (k := k + 1) ((⟨true, n, is', cnt, its, iv, ib, io, isp, kb, kv, krb, kro, ksp⟩ : Nd It), ts.set (pos lt its x) c') :=
  Gd.setKid g hc hc2 hc3 (by show cnt = ((PT.items (h := k + 1) (its, (ts.set (pos lt its x) c').map GT.pt)).length : Int); rw [ept]; exact hcn)
 refine r_ext rfl (r_ext rfl (r_ext rfl ?_))
 refine r_if (fun _ => ?_) (fun e => absurd e (by simp))
 refine St.r_load0 s 0 rfl rfl (r_nil (r_fld (St.r_load0 s 3 rfl rfl ?_)))
 refine w.lenV ?_; refine r_nil (r_fld ?_)
 refine s.r_lz hT4 3 rfl rfl ?_; refine r_cmpI ?_; refine r_if (fun hfull => ?_) (fun hroom => ?_)
 · have hfull : its.length = m := Int.ofNat_inj.1 (by simpa using hfull)
   have hsp : PT.splits lt m (h := k + 1) (its, ts.map GT.pt) x = true := by rw [PT.splits_kid (t := (its, ts.map GT.pt)) hn hcp, hcs]; simpa using hfull
   refine r_nil (r_fld (r_fld ?_))
   refine s.r_lz hT4 0 rfl rfl ?_
   have := H ((⟨true, n, is', cnt, its, iv, ib, io, isp, kb, kv, krb, kro, ksp⟩ : Nd It), ts.set (pos lt its x) c') h' (by
    show (its, (ts.set (pos lt its x) c').map GT.pt) = if PT.splits lt m (h := k + 1) (its, ts.map GT.pt) x = true then _ else _
    rw [hsp, ept]; rfl) rfl g1 (by rw [← mfp] at s; exact s.drop 2)
   change Q (.tuple #[old (PT.get lt (h := k + 1) (its, ts.map GT.pt) x), .bool (PT.get lt (h := k + 1) (its, ts.map GT.pt) x).isSome, .bool (PT.splits lt m (h := k + 1) (its, ts.map GT.pt) x)]) h' at this
   have hgt : PT.get lt (h := k + 1) (its, ts.map GT.pt) x = none := hgt
   rw [hsp, hgt] at this; exact this
 · have hroom : its.length ≠ m := fun e => by rw [e] at hroom; simp at hroom
   have hsp : PT.splits lt m (h := k + 1) (its, ts.map GT.pt) x = false := by rw [PT.splits_kid (t := (its, ts.map GT.pt)) hn hcp]; simp [hroom]
   obtain ⟨q1, q2, q3, q4, q5⟩ := PT.set_split (t := (its, ts.map GT.pt)) swo ho fl ha hn hcp hcs hmd hroom; unfold z0v_.j5; refine St.r_load0 s 0 rfl rfl (r_nil (r_fld (St.r_load0 s 3 rfl rfl (r_nil (St.r_load0 s 5 rfl rfl ?_)))))
   have wk1 : Own 1 kv ((ts.set (pos lt its x) c').map GT.id).length krb kro (((ts.set (pos lt its x) c').map GT.id).flatMap fp) ksp := by rw [set_ids hc hc2]; exact wK
   refine wk1.idx (n := pos lt its x) rfl (by rw [List.length_map, List.length_set]; omega) ?_; refine r_loadM1 s 6 rfl hc' ?_
   have hcl : c'.pt.its.length = m := by rw [hc1]; exact (PT.splits_len hcs).1
   have etake : (ts.set (pos lt its x) c').take (pos lt its x) = ts.take (pos lt its x) := List.take_set_of_le (Nat.le_refl _)
   have edrop : (ts.set (pos lt its x) c').drop (pos lt its x + 1) = ts.drop (pos lt its x + 1) := List.drop_set_of_lt (by omega)
   refine nodeSplit_ok c' (m := m) (E := (t9, 0, [ptr n 0]) :: (t5, 0, enc x) :: (pb, po, [ptr n 0]) :: (n, 0, [.int .u64 is', .int .i64 cnt, iv, ptr kb 0]) :: (ib, io, its.flatMap enc ++ isp) :: (kb, 0, [kv]) :: (krb, kro, (ts.map GT.id).flatMap fp ++ ksp) :: ((ts.take (pos lt its x)).flatMap (GT.all enc) ++ ((ts.drop (pos lt its x + 1)).flatMap (GT.all enc) ++ E)))
    hT0 hT4 (by omega) (by omega) (by rw [hc1]; exact fl.2.2.2 _ hcm) hcl (by rw [hc1]; omega) hc3 (s.perm ?_) fun l r md' h hmd' hl hr hlid gl gr s => ?_
   · rw [set_ids hc hc2, flat_at3 (GT.all enc) hc', etake, edrop]; ((apply perm_rg; intro f; simp only [PS]; ac_rfl))
   have : md' = md := by rw [hc1] at hmd'; exact Option.some.inj (hmd'.symm.trans hmd)
   subst this; rw [hc1] at hl hr
   have s : St h0 Z ((t9, 0, [ptr n 0]) :: (t5, 0, enc x) :: (pb, po, [ptr n 0]) :: (n, 0, [.int .u64 is', .int .i64 cnt, iv, ptr kb 0]) :: (ib, io, its.flatMap enc ++ isp) :: (kb, 0, [kv]) :: (krb, kro, ((ts.map GT.id).map pp).flatMap fv ++ ksp) :: ((ts.take (pos lt its x) ++ l :: r :: ts.drop (pos lt its x + 1)).flatMap (GT.all enc) ++ E)) h :=
    s.perm (by rw [← fpv, List.flatMap_append, List.flatMap_cons, List.flatMap_cons]; ((apply perm_rg; intro f; simp only [PS]; ac_rfl)))
   rw [fpv] at wK
   have hpl : ((ts.map GT.id).map pp).length = ts.length := by rw [List.length_map, List.length_map]
   have elp : (ts.map GT.id).length = ((ts.map GT.id).map pp).length := List.length_map .. |>.symm
   rw [elp] at wK
   generalize hL : (ts.map GT.id).map pp = L at s wK hpl
   refine r_ext rfl (r_ext rfl ?_)
   refine s.r_alloc fun t13 h s => ?_; refine St.r_storeN0 s 0 rfl rfl (by simp) (enc1 _) ?_; intro h s
   refine St.r_load0 s 1 rfl rfl (r_nil (r_fld (St.r_load0 s 4 rfl rfl (St.r_load0 s 1 rfl rfl (r_nil (r_fld ?_))))))
   refine St.r_load0 s 4 rfl rfl (r_nil (St.r_load0 s 6 rfl rfl ?_))
   refine St.r_mkSl (sz := 1) (cs := [.pointer none]) s (by ((simp only [fillV, fill1, Value.cells, Nat.reduceAdd, Nat.reduceMul, Nat.reduceLeDiff, Nat.reduceEqDiff, reduceIte, PF] <;> rfl))) rfl fun q h s w1 => ?_; refine And.intro (by exact St.r_still0 s 2 rfl rfl) ?_; refine And.intro (by exact St.r_still0 s 5 rfl rfl) ?_; refine And.intro (by exact St.r_still0 s 2 rfl rfl) ?_; refine And.intro (by exact St.r_still0 s 5 rfl rfl) ?_; refine ⟨by refine St.r_still0 s 7 rfl rfl, ?_⟩
   refine St.r_app s 8 (sz := 1) (n := 1) (new := [.pointer none]) rfl wK rfl (w1.rdl s 0 rfl) (by simp [one1]) (by omega) (by omega) fun kv' krb' kro' ksp' h s wk' => ?_; rw [snoc_fv] at s wk'
   have wk' : Own 1 kv' (L ++ [Value.pointer none]).length krb' kro' ((L ++ [Value.pointer none]).flatMap fv) ksp' := by rw [List.length_append]; exact wk'
   refine And.intro (by exact St.r_still0 s 2 rfl rfl) ?_; refine And.intro (by exact St.r_still0 s 5 rfl rfl) ?_; refine r_nil ?_; refine St.r_store0 s 7 rfl (by simp) wk'.one ?_; intro h s
   refine St.r_load0 s 2 rfl rfl (r_nil (r_fld (St.r_load0 s 5 rfl rfl (r_nil (St.r_load0 s 7 rfl rfl ?_)))))
   refine r_add (z := ((pos lt its x + 1 : Nat) : Int)) (by rw [i64w (by omega) (by omega)]; omega) ?_; refine wk'.slcLo fvl (i := pos lt its x + 1) rfl (by simp; omega) fun dd wd => ?_; refine St.r_load0 s 2 rfl rfl (r_nil (r_fld (St.r_load0 s 5 rfl rfl (r_nil (St.r_load0 s 7 rfl rfl ?_)))))
   refine (wk'.rdl s 8 rfl).slcLo fvl (i := pos lt its x) rfl (by simp; omega) fun src rs => ?_; refine s.r_cpyF fvl 8 (L := L ++ [Value.pointer none]) (M := (L ++ [Value.pointer none]).drop (pos lt its x)) rfl wd (by simp; omega) rs rfl (fun y hy => ?_) fun h s => ?_
   · have hy := List.mem_of_mem_drop hy
     intro z hz; rw [List.mem_singleton.1 hz]
     rcases List.mem_append.1 hy with e | e
     · rw [← hL] at e; obtain ⟨a, _, rfl⟩ := List.mem_map.1 e; rfl
     · rw [List.mem_singleton.1 e]; rfl
   refine St.r_load0 s 2 rfl rfl (r_nil (r_fld (St.r_load0 s 5 rfl rfl (r_nil (St.r_load0 s 7 rfl rfl ?_)))))
   refine r_add (z := ((pos lt its x + 1 : Nat) : Int)) (by rw [i64w (by omega) (by omega)]; omega) ?_; refine wk'.idx (n := pos lt its x + 1) rfl (by simp; omega) ?_; refine s.r_storeV (v := ptr r.id 0) 8 rfl (by simp; omega) rfl fun h s => ?_; rw [List.set_set, ins_steps2 L (.pointer none) (ptr r.id 0) (by omega)] at s; refine St.r_load0 s 2 rfl rfl (St.r_load0 s 2 rfl rfl (r_nil (r_fld (St.r_load0 s 5 rfl rfl (r_nil (r_fld ?_))))))
   refine s.r_lzE hT4 0 (enc emp) rfl (by simp) rfl ?_; refine St.r_mkSl (sz := 2) (cs := enc emp) s (by ((simp only [fillV, fill1, Value.cells, Nat.reduceAdd, Nat.reduceMul, Nat.reduceLeDiff, Nat.reduceEqDiff, reduceIte, PF] <;> rfl))) rfl fun qq h s w2 => ?_; refine And.intro (by exact St.r_still0 s 3 rfl rfl) ?_; refine And.intro (by exact St.r_still0 s 3 rfl rfl) ?_; refine And.intro (by exact St.r_still0 s 6 rfl rfl) ?_; refine St.r_app s 7 (sz := 2) (n := 1) (new := enc emp) rfl w rfl (w2.rdl s 0 rfl) (enc1 _) (by omega) (by omega) fun iv' ib' io' isp' h s w' => ?_; rw [snoc_enc] at s w'
   have w' : Own 2 iv' (its ++ [emp]).length ib' io' ((its ++ [emp]).flatMap enc) isp' := by rw [List.length_append]; exact w'
   refine And.intro (by exact St.r_still0 s 3 rfl rfl) ?_; refine r_nil (r_fld ?_)
   refine St.r_store0 s 6 rfl (by simp) w'.one ?_; intro h s
   refine St.r_load0 s 3 rfl rfl (r_nil (r_fld (St.r_load0 s 6 rfl rfl ?_)))
   refine r_add (z := ((pos lt its x + 1 : Nat) : Int)) (by rw [i64w (by omega) (by omega)]; omega) ?_; refine w'.slcLo encl (i := pos lt its x + 1) rfl (by simp; omega) fun dd2 wd2 => ?_; refine St.r_load0 s 3 rfl rfl (r_nil (r_fld (St.r_load0 s 6 rfl rfl ?_)))
   refine (w'.rdl s 7 rfl).slcLo encl (i := pos lt its x) rfl (by simp; omega) fun src2 rs2 => ?_; refine s.r_cpyF encl 7 (L := its ++ [emp]) (M := (its ++ [emp]).drop (pos lt its x)) rfl wd2 (by simp; omega) rs2 rfl (fun y _ => enc1 y) fun h s => ?_; refine St.r_load0 s 3 rfl rfl (r_nil (r_fld (St.r_load0 s 6 rfl rfl ?_)))
   refine St.r_loadN0 s 2 rfl (by simp) ?_; refine w'.idx (n := pos lt its x) rfl (by simp; omega) ?_; refine s.r_storeF (x := md') encl 7 rfl (by simp; omega) (enc1 _) fun h s => ?_; rw [List.set_set, ins_steps its emp md' hp] at s; refine St.r_loadN0 s 4 rfl (by simp) ?_
   have hil := ins_length (x := md') hp
   have e8 : ins L (pos lt its x + 1) (ptr r.id 0) = ((ts.take (pos lt its x) ++ l :: r :: ts.drop (pos lt its x + 1)).map GT.id).map pp := by
    have e9 : ts.take (pos lt its x + 1) = ts.take (pos lt its x) ++ [c] := by rw [List.take_add_one, hc]; rfl
    unfold ins; rw [← hL, ← List.map_take, ← List.map_take, ← List.map_drop, ← List.map_drop, e9]
    simp only [map_append, map_cons, map_nil, append_assoc, cons_append, nil_append, hlid, hc2]
   rw [e8, ← fpv] at s
   have hl2 : ((ts.take (pos lt its x) ++ l :: r :: ts.drop (pos lt its x + 1)).map GT.id).length = (L ++ [Value.pointer none]).length := by simp; omega
   have wk2 : Own 1 kv' (ts.take (pos lt its x) ++ l :: r :: ts.drop (pos lt its x + 1)).length krb' kro' (((ts.take (pos lt its x) ++ l :: r :: ts.drop (pos lt its x + 1)).map GT.id).flatMap fp) ksp' := by
    rw [← hl2, List.length_map] at wk'; exact wk'.cong (by rw [flat_len fpl, flat_len fvl, hl2])
   have w2' : Own 2 iv' (ins its (pos lt its x) md').length ib' io' ((ins its (pos lt its x) md').flatMap enc) isp' := by
    rw [show (ins its (pos lt its x) md').length = (its ++ [emp]).length by rw [hil]; simp]; exact w'.cong (by rw [flat_len encl, flat_len encl, hil]; simp)
   have ept2 : (ts.take (pos lt its x) ++ l :: r :: ts.drop (pos lt its x + 1)).map GT.pt = (ts.map GT.pt).take (pos lt its x) ++ c.pt.lo (m / 2) :: c.pt.hi (m / 2) :: (ts.map GT.pt).drop (pos lt its x + 1) := by
    rw [List.map_append, List.map_cons, List.map_cons, List.map_take, List.map_drop, hl, hr]
   have g2 : Gd is' (k := k + 1) ((⟨true, n, is', cnt, ins its (pos lt its x) md', iv', ib', io', isp', kb, kv', krb', kro', ksp'⟩ : Nd It), ts.take (pos lt its x) ++ l :: r :: ts.drop (pos lt its x + 1)) := by
    refine Gd.inner w2' rfl rfl wk2 (by show _ = (ins its (pos lt its x) md').length + 1; rw [hil]; simp; omega) (fun q hq => ?_) ?_
    · rcases List.mem_append.1 hq with e | e
      · exact g.kid (List.mem_of_mem_take e)
      · rcases List.mem_cons.1 e with e | e
        · rw [e]; exact gl
        · rcases List.mem_cons.1 e with e | e
          · rw [e]; exact gr
          · exact g.kid (List.mem_of_mem_drop e)
    · show cnt = ((PT.items (h := k + 1) (ins its (pos lt its x) md', (ts.take (pos lt its x) ++ l :: r :: ts.drop (pos lt its x + 1)).map GT.pt)).length : Int)
      rw [ept2, q1]; exact hcn
   have hpt2 : GT.pt (h := k + 1) ((⟨true, n, is', cnt, ins its (pos lt its x) md', iv', ib', io', isp', kb, kv', krb', kro', ksp'⟩ : Nd It), ts.take (pos lt its x) ++ l :: r :: ts.drop (pos lt its x + 1)) = (ins its (pos lt its x) md', (ts.map GT.pt).take (pos lt its x) ++ c.pt.lo (m / 2) :: c.pt.hi (m / 2) :: (ts.map GT.pt).drop (pos lt its x + 1)) := by
    show (_, _) = _; rw [ept2]
   have s : St h0 Z ((t9, 0, [ptr n 0]) :: ((GT.all enc (h := k + 1) ((⟨true, n, is', cnt, ins its (pos lt its x) md', iv', ib', io', isp', kb, kv', krb', kro', ksp'⟩ : Nd It), ts.take (pos lt its x) ++ l :: r :: ts.drop (pos lt its x + 1))) ++ ((pb, po, [ptr n 0]) :: E))) h := by
    have s1 : St h0 Z ((t9, 0, [ptr n 0]) :: (n, 0, [.int .u64 is', .int .i64 cnt, iv', ptr kb 0]) :: (ib', io', (ins its (pos lt its x) md').flatMap enc ++ isp') :: (kb, 0, [kv']) :: (krb', kro', ((ts.take (pos lt its x) ++ l :: r :: ts.drop (pos lt its x + 1)).map GT.id).flatMap fp ++ ksp') :: ((ts.take (pos lt its x) ++ l :: r :: ts.drop (pos lt its x + 1)).flatMap (GT.all enc) ++ ((pb, po, [ptr n 0]) :: E))) h :=
     (s.perm (E' := (qq, 0, _) :: (q, 0, _) :: (t13, 0, _) :: (t5, 0, _) :: _) (by ((apply perm_rg; intro f; simp only [PS]; ac_rfl)))).drop 4
    rw [← mfp] at s1; exact s1
   refine set_noSplit htb hT0 hT4 hm1 ho ih _ (by rw [hpt2]; exact q2) (by rw [hpt2, q1]; exact ha) (by rw [hpt2, q1]; exact hsz) g2 s (fun c2 h1 h2 => ?_) fun t' h' h1 h2 h3 s => ?_
   · rw [hpt2] at h1
     obtain ⟨c3, h3, h4⟩ := q4
     have : c2 = c3 := Option.some.inj (h1.symm.trans h3)
     rw [this]; exact h4
   · have hgt2 : PT.get lt (GT.pt (h := k + 1) ((⟨true, n, is', cnt, ins its (pos lt its x) md', iv', ib', io', isp', kb, kv', krb', kro', ksp'⟩ : Nd It), ts.take (pos lt its x) ++ l :: r :: ts.drop (pos lt its x + 1))) x = none := by
      rw [hpt2, PT.get_items swo q2 (by rw [q1]; exact ha), q1, ← PT.get_items (h := k + 1) (t := (its, ts.map GT.pt)) swo fl ha]; exact hgt
     rw [hgt2]; refine r_ext rfl (r_ext rfl (r_ext rfl ?_))
     have := H t' h' (by
      show _ = if PT.splits lt m (h := k + 1) (its, ts.map GT.pt) x = true then _ else _
      rw [hsp, h1, hpt2, q5]; rfl) h2 h3 ((s.drop 1).perm List.perm_middle.symm)
     change Q (.tuple #[old (PT.get lt (h := k + 1) (its, ts.map GT.pt) x), .bool (PT.get lt (h := k + 1) (its, ts.map GT.pt) x).isSome, .bool (PT.splits lt m (h := k + 1) (its, ts.map GT.pt) x)]) h' at this
     have hgt : PT.get lt (h := k + 1) (its, ts.map GT.pt) x = none := hgt
     rw [hsp, hgt] at this; exact this
theorem SetOk.all {tb m : Nat} {iso mn : Int} {ctr : Option Addr} {x : It} (htb : h0.size ≤ tb) (hT0 : (tb, 0, hd0 iso ctr) ∈ Z) (hT4 : (tb, 4, hd4 mn m) ∈ Z) (hm1 : m ≤ 1024) (ho : m % 2 = 1) : ∀ k, SetOk h0 Z tb m iso x k
 | 0 => SetOk.zero htb hT0 hT4 hm1
 | k + 1 => SetOk.succ htb hT0 hT4 hm1 ho (SetOk.all htb hT0 hT4 hm1 ho k)
abbrev Rt := Option ((k : Nat) × GT It k)
def rA : Rt → Option Addr
 | none => none
 | some t => some ⟨t.2.id, 0, none⟩
def rAll : Rt → List Rg
 | none => []
 | some t => t.2.all enc
def rPt : Rt → MT It
 | none => none
 | some t => some ⟨t.1, t.2.pt⟩
def rGd (iso : Int) : Rt → Prop
 | none => True
 | some t => Gd iso t.2
theorem Set_noSplit {tb m : Nat} {iso mn cnt : Int} {ctr : Option Addr} {x : It} (htb : h0.size ≤ tb) (hT0 : (tb, 0, hd0 iso ctr) ∈ Z) (hT4 : (tb, 4, hd4 mn m) ∈ Z) (hm1 : m ≤ 1024) (ho : m % 2 = 1) {k : Nat} (t : GT It k)
  (fl : t.pt.Fl m 1) (ha : Asc lt t.pt.items) (hsz : t.pt.items.length ≤ 4611686018427387903) (g : Gd iso t) (hcnt : cnt = t.pt.items.length) (hsp : t.pt.splits lt m x = false)
  (s : St h0 Z ((tb, 2, [ptr t.id 0]) :: (tb, 3, [.int .i64 cnt]) :: (t.all enc ++ E)) h)
  (H : ∀ (t' : GT It k) h', t'.pt = t.pt.set lt m x → Gd iso t' → St h0 Z ((tb, 2, [ptr t'.id 0]) :: (tb, 3, [.int .i64 t'.pt.items.length]) :: (t'.all enc ++ E)) h' → Q (.tuple #[old (lget lt t.pt.items x), .bool (lget lt t.pt.items x).isSome]) h') :
  z1l_.call #[ptr tb 0, kv x.1, vv x.2] h Q := by
 refine z1l_.body _ _ _ _ _ ?_; unfold z1l_.sh
 have hset := (PT.set_items swo ho fl ha hsp).1
 have hgi := PT.get_items swo fl ha (x := x)
 (apply r_build; (simp only [fillV, fill1, Value.cells, Nat.reduceAdd, Nat.reduceMul, Nat.reduceLeDiff, Nat.reduceEqDiff, reduceIte, PF] <;> rfl))
 refine s.r_alloc fun t8 h s => ?_; refine St.r_storeN0 s 0 rfl rfl (by simp) (enc1 x) ?_; intro h s
 refine r_nil (r_fld ?_)
 refine s.r_load1 1 (o := 2) (j := 0) rfl rfl ?_; refine r_eqNilP ?_; refine r_if (fun e => absurd e (by simp)) (fun _ => ?_)
 unfold z1l_.j1; refine r_nil (r_fld ?_)
 refine St.r_loadN0 s 0 rfl (by simp) ?_; refine SetOk.all htb hT0 hT4 hm1 ho k t (E := (t8, 0, enc x) :: (tb, 3, [.int .i64 cnt]) :: E) (pb := tb) (po := 2) fl ha hsz g (s.perm (by ((apply perm_rg; intro f; simp only [PS]; ac_rfl)))) fun t' h' h1 h2 h3 s => ?_; rw [hsp] at h1 ⊢
 simp only [Bool.false_eq_true, ↓reduceIte] at h1
 rw [hgi]; refine r_ext rfl (r_ext rfl (r_ext rfl ?_))
 refine r_if (fun e => absurd e (by simp)) (fun _ => ?_)
 unfold z1l_.j2
 have hl : t'.pt.items.length = t.pt.items.length + if (lget lt t.pt.items x).isSome then 0 else 1 := by rw [h1, hset, lput_length]
 refine r_if (fun hr => ?_) (fun hr => ?_)
 · rw [hr] at hl
   have s : St h0 Z ((tb, 2, [ptr t'.id 0]) :: (tb, 3, [.int .i64 t'.pt.items.length]) :: (t'.all enc ++ E)) h' := by
    have e : ((t.pt.items.length + if true = true then 0 else 1 : Nat) : Int) = cnt := by rw [hcnt]; simp
    rw [h2, hl, e]; exact (s.perm (E' := (t8, 0, enc x) :: (tb, 2, [ptr t.id 0]) :: (tb, 3, [.int .i64 cnt]) :: (t'.all enc ++ E)) (by ((apply perm_rg; intro f; simp only [PS]; ac_rfl)))).drop 1
   have := H t' h' h1 h3 s
   rw [hr] at this; exact this
 · rw [hr] at hl
   have hn : lget lt t.pt.items x = none := by cases e : lget lt t.pt.items x with
    | none => rfl
    | some y => rw [e] at hr; cases hr
   unfold z1l_.j3
   have s : St h0 Z ((tb, 3, [.int .i64 cnt]) :: (tb, 2, [ptr t.id 0]) :: (t8, 0, enc x) :: (t'.all enc ++ E)) h' := s.perm (by ((apply perm_rg; intro f; simp only [PS]; ac_rfl)))
   refine r_nil (r_fld ?_)
   refine s.r_load1 0 (o := 3) (j := 0) rfl rfl ?_; refine r_add (z := cnt + 1) (by rw [i64w (by omega) (by omega)]) ?_; refine r_nil (r_fld ?_)
   refine St.r_store1 s 0 (o := 3) (j := 0) rfl (by simp) rfl ?_; intro h s
   refine r_nil (r_fld (r_fld ?_))
   refine s.r_lz hT4 0 rfl rfl ?_
   have := H t' h h1 h3 (by
    rw [h2, hl]
    have e : ((t.pt.items.length + if false = true then 0 else 1 : Nat) : Int) = cnt + 1 := by rw [hcnt]; simp
    rw [e]; exact (s.perm (E' := (t8, 0, enc x) :: (tb, 2, [ptr t.id 0]) :: (tb, 3, [.int .i64 (cnt + 1)]) :: (t'.all enc ++ E)) (by ((apply perm_rg; intro f; simp only [PS]; ac_rfl)))).drop 1)
   rw [hn] at this; exact this
theorem Set_cut {tb m : Nat} {iso mn cnt : Int} {ctr : Option Addr} {x : It} (htb : h0.size ≤ tb) (hT0 : (tb, 0, hd0 iso ctr) ∈ Z) (hT4 : (tb, 4, hd4 mn m) ∈ Z) (hm1 : m ≤ 1024) (hm3 : 3 ≤ m) (ho : m % 2 = 1) {k : Nat} (t : GT It k)
  (fl : t.pt.Fl m 1) (ha : Asc lt t.pt.items) (hsz : t.pt.items.length ≤ 4611686018427387903) (g : Gd iso t) (hcnt : cnt = t.pt.items.length)
  (s : St h0 Z ((tb, 2, [ptr t.id 0]) :: (tb, 3, [.int .i64 cnt]) :: (t.all enc ++ E)) h)
  (H : ∀ (g' : (j : Nat) × GT It j) h', rPt (some g') = MT.set lt m (some ⟨k, t.pt⟩) x → Gd iso g'.2 → St h0 Z ((tb, 2, [ptr g'.2.id 0]) :: (tb, 3, [.int .i64 g'.2.pt.items.length]) :: (g'.2.all enc ++ E)) h' → Q (.tuple #[old (lget lt t.pt.items x), .bool (lget lt t.pt.items x).isSome]) h') :
  z1l_.call #[ptr tb 0, kv x.1, vv x.2] h Q := by
 have hi : ∀ {E h}, St h0 Z E h → cl h tb 0 = some (.int .u64 iso) := fun s => by have := s.getZ hT0 (j := 0) (by simp); simpa using this
 cases hsp : t.pt.splits lt m x with
 | false =>
  refine Set_noSplit htb hT0 hT4 hm1 ho t fl ha hsz g hcnt hsp s fun t' h' h1 h3 s => H ⟨k, t'⟩ h' ?_ h3 s
  show some (⟨k, t'.pt⟩ : (j : Nat) × PT It j) = _
  unfold MT.set
  simp only [hsp, Bool.false_eq_true, ↓reduceIte, h1]
 | true =>
  obtain ⟨md, hmd, _, fll', fh, _, _, _, _, _⟩ := PT.halves swo ho fl ha hsp; obtain ⟨g1, g2, g3, g4⟩ := PT.grow_ok swo ho hm3 fl ha hsp
  have hgn : lget lt t.pt.items x = none := PT.splits_get swo fl ha hsp
  have egrow : t.pt.grow m = (([md], [t.pt.lo (m / 2), t.pt.hi (m / 2)]) : List It × List (PT It k)) := by unfold PT.grow; rw [hmd]; rfl
  refine z1l_.body _ _ _ _ _ ?_; unfold z1l_.sh
  (apply r_build; (simp only [fillV, fill1, Value.cells, Nat.reduceAdd, Nat.reduceMul, Nat.reduceLeDiff, Nat.reduceEqDiff, reduceIte, PF] <;> rfl))
  refine s.r_alloc fun t8 h s => ?_; refine St.r_storeN0 s 0 rfl rfl (by simp) (enc1 x) ?_; intro h s
  refine r_nil (r_fld ?_)
  refine s.r_load1 1 (o := 2) (j := 0) rfl rfl ?_; refine r_eqNilP ?_; refine r_if (fun e => absurd e (by simp)) (fun _ => ?_)
  unfold z1l_.j1; refine r_nil (r_fld ?_)
  refine St.r_loadN0 s 0 rfl (by simp) ?_; refine SetOk.all htb hT0 hT4 hm1 ho k t (E := (t8, 0, enc x) :: (tb, 3, [.int .i64 cnt]) :: E) (pb := tb) (po := 2) fl ha hsz g (s.perm (by ((apply perm_rg; intro f; simp only [PS]; ac_rfl)))) fun t' h' h1 h2 h3 s => ?_; rw [hsp] at h1 ⊢
  simp only [↓reduceIte] at h1
  refine r_ext rfl (r_ext rfl (r_ext rfl ?_))
  refine r_if (fun _ => ?_) (fun e => absurd e (by simp))
  refine r_nil (r_fld ?_)
  refine s.r_load1 0 (o := 2) (j := 0) rfl rfl ?_; rw [← h2]; refine nodeSplit_ok t' (m := m) (E := (tb, 2, [ptr t.id 0]) :: (t8, 0, enc x) :: (tb, 3, [.int .i64 cnt]) :: E) hT0 hT4 (by omega) (by omega) (by rw [h1]; exact fl) (by rw [h1]; exact (PT.splits_len hsp).1) (by rw [h1]; omega) h3 (s.perm (by ((apply perm_rg; intro f; simp only [PS]; ac_rfl)))) fun l r md' h hmd' hl hr hlid gl gr s => ?_
  have : md' = md := by rw [h1] at hmd'; exact Option.some.inj (hmd'.symm.trans hmd)
  subst this; rw [h1] at hl hr
  have s : St h0 Z ((tb, 2, [ptr t.id 0]) :: (t8, 0, enc x) :: (tb, 3, [.int .i64 cnt]) :: (l.all enc ++ (r.all enc ++ E))) h := s.perm (by ((apply perm_rg; intro f; simp only [PS]; ac_rfl)))
  refine r_ext rfl (r_ext rfl ?_)
  refine s.r_alloc fun t14 h s => ?_; refine St.r_storeN0 s 0 rfl rfl (by simp) (enc1 _) ?_; intro h s
  refine newNode_inner (hi s) fun n' kb' h s1 => ?_
  have s := s.join s1
  have s : St h0 Z ((n', 0, [.int .u64 iso, .int .i64 0, .slice none 0 0, ptr kb' 0]) :: (kb', 0, [.slice none 0 0]) :: (t14, 0, enc md') :: (tb, 2, [ptr t.id 0]) :: (t8, 0, enc x) :: (tb, 3, [.int .i64 cnt]) :: (l.all enc ++ (r.all enc ++ E))) h := s
  refine r_nil (r_fld ?_)
  refine St.r_store1 s 3 (o := 2) (j := 0) rfl (by simp) rfl ?_; intro h s
  refine r_nil (r_fld ?_)
  refine s.r_load1 3 (o := 2) (j := 0) rfl rfl ?_; refine r_nil (r_fld (St.r_load0 s 0 rfl rfl (r_nil (r_fld ?_))))
  refine s.r_lz hT4 3 rfl rfl ?_; refine r_add (z := ((m + 1 : Nat) : Int)) (by rw [i64w (by omega) (by omega)]; omega) ?_; refine s.r_mks (n := 0) rfl (by omega) (by omega) (by omega) fun v b h s w0 => ?_; refine ⟨s.r_still1 4 (o := 2) (j := 0) rfl rfl, by (first | exact St.r_still0 s 0 rfl rfl | exact St.r_still0 s 1 rfl rfl | exact St.r_still0 s 2 rfl rfl | exact St.r_still0 s 3 rfl rfl | exact St.r_still0 s 4 rfl rfl | exact St.r_still0 s 5 rfl rfl | exact St.r_still0 s 6 rfl rfl), ?_⟩
  refine r_nil ?_; refine St.r_store0 s 2 rfl (by simp) w0.one ?_; intro h s
  refine r_nil (r_fld ?_)
  refine s.r_load1 4 (o := 2) (j := 0) rfl rfl ?_; refine r_nil (r_fld (St.r_load0 s 1 rfl rfl ?_))
  have s : St h0 Z ((n', 0, [.int .u64 iso, .int .i64 0, .slice none 0 0, ptr kb' 0]) :: (kb', 0, [v]) :: (t14, 0, enc md') :: (tb, 2, [ptr n' 0]) :: (t8, 0, enc x) :: (tb, 3, [.int .i64 cnt]) :: (l.all enc ++ (r.all enc ++ E))) h := s.drop 1
  -- what follows the items
  have fin : ∀ {iv kv : Value} {ib io rb ro : Nat} {isp ksp : List Value} {h : Heap}, Own 2 iv 1 ib io (enc md') isp → Own 1 kv 2 rb ro (fp l.id ++ fp r.id) ksp →
    St h0 Z ((n', 0, [.int .u64 iso, .int .i64 0, iv, ptr kb' 0]) :: (ib, io, enc md' ++ isp) :: (kb', 0, [kv]) :: (rb, ro, (fp l.id ++ fp r.id) ++ ksp) :: (tb, 2, [ptr n' 0]) :: (t8, 0, enc x) :: (tb, 3, [.int .i64 cnt]) :: (l.all enc ++ (r.all enc ++ E))) h →
    (nilck (ptr tb 0) fun t118 => fld 2 t118 fun t119 => load1 t119 h fun t120 => z01_.call #[t120] h fun t121 h => fld 1 (ptr t8 0) fun t123 => load1 t123 h fun t124 =>
     fld 0 (ptr t8 0) fun t125 => load1 t125 h fun t126 => z1l_.call #[ptr tb 0, t124, t126] h fun t127 h => extr 0 t127 fun t128 => extr 1 t127 fun t129 => Q (.tuple #[t128, t129]) h) := by
   intro iv kv ib io rb ro isp ksp h wi wkk s
   have s : St h0 Z ((n', 0, [.int .u64 iso, .int .i64 0, iv, ptr kb' 0]) :: (kb', 0, [kv]) :: (rb, ro, ([l, r].map GT.id).flatMap fp ++ ksp) :: (tb, 2, [ptr n' 0]) :: (ib, io, enc md' ++ isp) :: (t8, 0, enc x) :: (tb, 3, [.int .i64 cnt]) :: (l.all enc ++ (r.all enc ++ E))) h := s.perm (by
    show ((n', 0, [.int .u64 iso, .int .i64 0, iv, ptr kb' 0]) :: (kb', 0, [kv]) :: (rb, ro, (fp l.id ++ fp r.id) ++ ksp) :: _ :: _ :: _ :: _ :: _).Perm _
    ((apply perm_rg; intro f; simp only [PS]; ac_rfl)))
   have wkk : Own 1 kv ([l, r].map GT.id).length rb ro (([l, r].map GT.id).flatMap fp) ksp := wkk
   refine r_nil (r_fld ?_)
   refine s.r_load1 3 (o := 2) (j := 0) rfl rfl ?_
   have hlr : l.pt.items.length + r.pt.items.length + 1 = t.pt.items.length := by
    rw [hl, hr, PT.cut_items fl hmd, List.length_append, List.length_cons]; omega
   refine updateCount_kids (ts := [l, r]) (len := 1) s wi wkk (fun q hq => ?_) (fun q hq z hz => ?_) (by simp) (by simp; omega) fun h s => ?_
   · simp at hq; rcases hq with e | e <;> subst e
     · exact gl.cn
     · exact gr.cn
   · simp at hq
     simp only [List.mem_cons, List.mem_append]
     rcases hq with e | e <;> subst e
     · exact .inr (.inr (.inr (.inr (.inl hz))))
     · exact .inr (.inr (.inr (.inr (.inr (.inl hz)))))
   · have hcc : 1 + ([l, r].map fun t => t.pt.items.length).sum = t.pt.items.length := by simp; omega
     rw [hcc] at s; refine r_fld (St.r_load0 s 5 rfl rfl (r_fld (St.r_load0 s 5 rfl rfl ?_)))
     let tn : GT It (k + 1) := ((⟨true, n', iso, (t.pt.items.length : Int), [md'], iv, ib, io, isp, kb', kv, rb, ro, ksp⟩ : Nd It), [l, r])
     have hpn : tn.pt = t.pt.grow m := by
      rw [egrow]
      show ([md'], [l, r].map GT.pt) = _
      rw [List.map_cons, List.map_cons, List.map_nil, hl, hr]
     have gn : Gd iso tn := Gd.inner (by show Own 2 iv [md'].length ib io ([md'].flatMap enc) isp; simpa using wi) rfl rfl (by simpa using wkk) rfl (fun c hc => by
      have hc : c ∈ [l, r] := hc
      simp at hc; rcases hc with e | e <;> subst e
      · exact gl
      · exact gr) (by show (t.pt.items.length : Int) = (tn.pt.items.length : Int); rw [hpn, g1])
     have s : St h0 Z ((tb, 2, [ptr tn.id 0]) :: (tb, 3, [.int .i64 cnt]) :: (tn.all enc ++ ((t8, 0, enc x) :: E))) h := by
      have s1 : St h0 Z ((tb, 2, [ptr n' 0]) :: (tb, 3, [.int .i64 cnt]) :: (n', 0, [.int .u64 iso, .int .i64 t.pt.items.length, iv, ptr kb' 0]) :: (ib, io, [md'].flatMap enc ++ isp) :: (kb', 0, [kv]) :: (rb, ro, (([l, r].map GT.id).map fun m => ptr m 0) ++ ksp) :: ([l, r].flatMap (GT.all enc) ++ ((t8, 0, enc x) :: E))) h := by
       rw [mfp]
       exact s.perm (by
        rw [List.flatMap_singleton, List.flatMap_cons, List.flatMap_cons, List.flatMap_nil, List.append_nil]; ((apply perm_rg; intro f; simp only [PS]; ac_rfl)))
      exact s1
     refine Set_noSplit htb hT0 hT4 hm1 ho tn (by rw [hpn]; exact g2) (by rw [hpn, g1]; exact ha) (by rw [hpn, g1]; exact hsz) gn (by rw [hpn, g1]; exact hcnt) (by rw [hpn]; exact g3) s fun t2 h' e1 e2 s => ?_; rw [hpn, g1, hgn]; refine r_ext rfl (r_ext rfl ?_)
     have := H ⟨k + 1, t2⟩ h' (by
      show some (⟨k + 1, t2.pt⟩ : (j : Nat) × PT It j) = _
      unfold MT.set
      simp only [hsp, ↓reduceIte, e1, hpn]) e2 ((s.perm (E' := (t8, 0, enc x) :: (tb, 2, [ptr t2.id 0]) :: (tb, 3, [.int .i64 t2.pt.items.length]) :: (t2.all enc ++ E)) (by ((apply perm_rg; intro f; simp only [PS]; ac_rfl)))).drop 1)
     rw [hgn] at this; exact this
  -- what follows the children
  have tail : ∀ {kv : Value} {rb ro : Nat} {ksp : List Value} {h : Heap}, Own 1 kv 2 rb ro (fp l.id ++ fp r.id) ksp →
    St h0 Z ((n', 0, [.int .u64 iso, .int .i64 0, .slice none 0 0, ptr kb' 0]) :: (kb', 0, [kv]) :: (rb, ro, (fp l.id ++ fp r.id) ++ ksp) :: (t14, 0, enc md') :: (tb, 2, [ptr n' 0]) :: (t8, 0, enc x) :: (tb, 3, [.int .i64 cnt]) :: (l.all enc ++ (r.all enc ++ E))) h →
    (nilck (ptr tb 0) fun t108 => fld 2 t108 fun t109 => load1 t109 h fun t110 => loadN 2 (ptr t14 0) h fun t112 =>
     (mkSl (if 0 * 2 = 0 then [] else zeros (enc emp) 0) 0 [] 82 h fun t111 h => still1 t109 t110 h ∧ stillN 2 (ptr t14 0) t112 h ∧ mkSl (if 1 * 2 = 0 then [] else zeros (enc emp) 1) 1 [(0 * 2, 2, t112)] 82 h fun t113 h =>
      still1 t109 t110 h ∧ app 82 2 16 (enc emp) t111 t113 h fun t114 h => still1 t109 t110 h ∧ nilck t110 fun t115 => fld 2 t115 fun t116 => store1 t116 t114 h fun h =>
      nilck (ptr tb 0) fun t118 => fld 2 t118 fun t119 => load1 t119 h fun t120 => z01_.call #[t120] h fun t121 h => fld 1 (ptr t8 0) fun t123 => load1 t123 h fun t124 =>
      fld 0 (ptr t8 0) fun t125 => load1 t125 h fun t126 => z1l_.call #[ptr tb 0, t124, t126] h fun t127 h => extr 0 t127 fun t128 => extr 1 t127 fun t129 => Q (.tuple #[t128, t129]) h) ∧
     (mkSl (if 1 * 2 = 0 then [] else zeros (enc emp) 1) 1 [(0 * 2, 2, t112)] 82 h fun t113 h => still1 t109 t110 h ∧ mkSl (if 0 * 2 = 0 then [] else zeros (enc emp) 0) 0 [] 82 h fun t111 h =>
      still1 t109 t110 h ∧ app 82 2 16 (enc emp) t111 t113 h fun t114 h => still1 t109 t110 h ∧ nilck t110 fun t115 => fld 2 t115 fun t116 => store1 t116 t114 h fun h =>
      nilck (ptr tb 0) fun t118 => fld 2 t118 fun t119 => load1 t119 h fun t120 => z01_.call #[t120] h fun t121 h => fld 1 (ptr t8 0) fun t123 => load1 t123 h fun t124 =>
      fld 0 (ptr t8 0) fun t125 => load1 t125 h fun t126 => z1l_.call #[ptr tb 0, t124, t126] h fun t127 h => extr 0 t127 fun t128 => extr 1 t127 fun t129 => Q (.tuple #[t128, t129]) h)) := by
   intro kv rb ro ksp h wkk s; refine r_nil (r_fld ?_)
   refine s.r_load1 4 (o := 2) (j := 0) rfl rfl ?_; refine St.r_loadN0 s 3 rfl (by simp) ?_
   constructor
   · refine St.r_mkSl (sz := 2) (cs := []) s (by ((simp only [fillV, fill1, Value.cells, Nat.reduceAdd, Nat.reduceMul, Nat.reduceLeDiff, Nat.reduceEqDiff, reduceIte, PF] <;> rfl))) rfl fun q1 h s w1 => ?_
     refine ⟨s.r_still1 5 (o := 2) (j := 0) rfl rfl, St.r_stillN0 s 4 rfl (by simp) rfl, ?_⟩
     refine St.r_mkSl (sz := 2) (cs := enc md') s (by ((simp only [fillV, fill1, Value.cells, Nat.reduceAdd, Nat.reduceMul, Nat.reduceLeDiff, Nat.reduceEqDiff, reduceIte, PF] <;> rfl))) rfl fun q2 h s w2 => ?_; refine ⟨s.r_still1 6 (o := 2) (j := 0) rfl rfl, ?_⟩
     refine St.r_app s 1 (sz := 2) (n := 1) (new := enc md') rfl w1 rfl (w2.rdl s 0 rfl) (enc1 _) (by omega) (by omega) fun iv ib io isp h s wi => ?_; refine ⟨s.r_still1 6 (o := 2) (j := 0) rfl rfl, ?_⟩
     refine r_nil (r_fld ?_)
     refine St.r_store0 s 2 rfl (by simp) wi.one ?_; intro h s
     exact fin wi wkk ((s.perm (E' := (q2, 0, enc md' ++ []) :: (t14, 0, enc md') :: _) (by simp; ((apply perm_rg; intro f; simp only [PS]; ac_rfl)))).drop 2)
   · refine St.r_mkSl (sz := 2) (cs := enc md') s (by ((simp only [fillV, fill1, Value.cells, Nat.reduceAdd, Nat.reduceMul, Nat.reduceLeDiff, Nat.reduceEqDiff, reduceIte, PF] <;> rfl))) rfl fun q2 h s w2 => ?_
     refine ⟨s.r_still1 5 (o := 2) (j := 0) rfl rfl, ?_⟩
     refine St.r_mkSl (sz := 2) (cs := []) s (by ((simp only [fillV, fill1, Value.cells, Nat.reduceAdd, Nat.reduceMul, Nat.reduceLeDiff, Nat.reduceEqDiff, reduceIte, PF] <;> rfl))) rfl fun q1 h s w1 => ?_; refine ⟨s.r_still1 6 (o := 2) (j := 0) rfl rfl, ?_⟩
     refine St.r_app s 0 (sz := 2) (n := 1) (new := enc md') rfl w1 rfl (w2.rdl s 1 rfl) (enc1 _) (by omega) (by omega) fun iv ib io isp h s wi => ?_; refine ⟨s.r_still1 6 (o := 2) (j := 0) rfl rfl, ?_⟩
     refine r_nil (r_fld ?_)
     refine St.r_store0 s 2 rfl (by simp) wi.one ?_; intro h s
     exact fin wi wkk ((s.perm (E' := (q2, 0, enc md' ++ []) :: (t14, 0, enc md') :: _) (by simp; ((apply perm_rg; intro f; simp only [PS]; ac_rfl)))).drop 2)
  constructor
  · refine St.r_mkSl (sz := 1) (cs := []) s (by ((simp only [fillV, fill1, Value.cells, Nat.reduceAdd, Nat.reduceMul, Nat.reduceLeDiff, Nat.reduceEqDiff, reduceIte, PF] <;> rfl))) rfl fun q1 h s w1 => ?_
    refine ⟨s.r_still1 4 (o := 2) (j := 0) rfl rfl, by (first | exact St.r_still0 s 0 rfl rfl | exact St.r_still0 s 1 rfl rfl | exact St.r_still0 s 2 rfl rfl | exact St.r_still0 s 3 rfl rfl | exact St.r_still0 s 4 rfl rfl | exact St.r_still0 s 5 rfl rfl | exact St.r_still0 s 6 rfl rfl), ?_⟩
    refine St.r_mkSl (sz := 1) (cs := fp l.id ++ fp r.id) s (by rw [hlid]; ((simp only [fillV, fill1, Value.cells, Nat.reduceAdd, Nat.reduceMul, Nat.reduceLeDiff, Nat.reduceEqDiff, reduceIte, PF] <;> rfl))) rfl fun q2 h s w2 => ?_; refine ⟨s.r_still1 5 (o := 2) (j := 0) rfl rfl, by (first | exact St.r_still0 s 0 rfl rfl | exact St.r_still0 s 1 rfl rfl | exact St.r_still0 s 2 rfl rfl | exact St.r_still0 s 3 rfl rfl | exact St.r_still0 s 4 rfl rfl | exact St.r_still0 s 5 rfl rfl | exact St.r_still0 s 6 rfl rfl), ?_⟩
    refine St.r_app s 1 (sz := 1) (n := 2) (new := fp l.id ++ fp r.id) rfl w1 rfl (w2.rdl s 0 rfl) (by simp [one1]) (by omega) (by omega) fun kv rb ro ksp h s wkk => ?_; refine ⟨s.r_still1 5 (o := 2) (j := 0) rfl rfl, by (first | exact St.r_still0 s 0 rfl rfl | exact St.r_still0 s 1 rfl rfl | exact St.r_still0 s 2 rfl rfl | exact St.r_still0 s 3 rfl rfl | exact St.r_still0 s 4 rfl rfl | exact St.r_still0 s 5 rfl rfl | exact St.r_still0 s 6 rfl rfl), ?_⟩
    refine r_nil ?_; refine St.r_store0 s 3 rfl (by simp) wkk.one ?_; intro h s
    exact tail wkk ((s.perm (E' := (q2, 0, fp l.id ++ fp r.id ++ []) :: _) (by simp; ((apply perm_rg; intro f; simp only [PS]; ac_rfl)))).drop 1)
  · refine St.r_mkSl (sz := 1) (cs := fp l.id ++ fp r.id) s (by rw [hlid]; ((simp only [fillV, fill1, Value.cells, Nat.reduceAdd, Nat.reduceMul, Nat.reduceLeDiff, Nat.reduceEqDiff, reduceIte, PF] <;> rfl))) rfl fun q2 h s w2 => ?_
    refine ⟨s.r_still1 4 (o := 2) (j := 0) rfl rfl, by (first | exact St.r_still0 s 0 rfl rfl | exact St.r_still0 s 1 rfl rfl | exact St.r_still0 s 2 rfl rfl | exact St.r_still0 s 3 rfl rfl | exact St.r_still0 s 4 rfl rfl | exact St.r_still0 s 5 rfl rfl | exact St.r_still0 s 6 rfl rfl), ?_⟩
    refine St.r_mkSl (sz := 1) (cs := []) s (by ((simp only [fillV, fill1, Value.cells, Nat.reduceAdd, Nat.reduceMul, Nat.reduceLeDiff, Nat.reduceEqDiff, reduceIte, PF] <;> rfl))) rfl fun q1 h s w1 => ?_; refine ⟨s.r_still1 5 (o := 2) (j := 0) rfl rfl, by (first | exact St.r_still0 s 0 rfl rfl | exact St.r_still0 s 1 rfl rfl | exact St.r_still0 s 2 rfl rfl | exact St.r_still0 s 3 rfl rfl | exact St.r_still0 s 4 rfl rfl | exact St.r_still0 s 5 rfl rfl | exact St.r_still0 s 6 rfl rfl), ?_⟩
    refine St.r_app s 0 (sz := 1) (n := 2) (new := fp l.id ++ fp r.id) rfl w1 rfl (w2.rdl s 1 rfl) (by simp [one1]) (by omega) (by omega) fun kv rb ro ksp h s wkk => ?_; refine ⟨s.r_still1 5 (o := 2) (j := 0) rfl rfl, by (first | exact St.r_still0 s 0 rfl rfl | exact St.r_still0 s 1 rfl rfl | exact St.r_still0 s 2 rfl rfl | exact St.r_still0 s 3 rfl rfl | exact St.r_still0 s 4 rfl rfl | exact St.r_still0 s 5 rfl rfl | exact St.r_still0 s 6 rfl rfl), ?_⟩
    refine r_nil ?_; refine St.r_store0 s 3 rfl (by simp) wkk.one ?_; intro h s
    exact tail wkk ((s.perm (E' := (q2, 0, fp l.id ++ fp r.id ++ []) :: _) (by simp; ((apply perm_rg; intro f; simp only [PS]; ac_rfl)))).drop 1)
def GT.kp : {k : Nat} → GT It k → Value
 | 0, _ => .pointer none
 | _ + 1, t => ptr t.1.kb 0
def GT.rest : {k : Nat} → GT It k → List Rg
 | 0, _ => []
 | _ + 1, t => (t.1.kb, 0, [t.1.kv]) :: (t.1.krb, t.1.kro, ((t.2.map GT.id).map pp).flatMap fv ++ t.1.ksp) :: t.2.flatMap (GT.all enc)
theorem all_eq : ∀ {k : Nat} (t : GT It k), t.all enc = (t.id, 0, [.int .u64 t.nd.iso, .int .i64 t.nd.cnt, t.nd.iv, GT.kp t]) :: (t.nd.ib, t.nd.io, t.nd.its.flatMap enc ++ t.nd.isp) :: GT.rest t
 | 0, _ => rfl
 | _ + 1, t => by
  have e : GT.rest (k := _ + 1) t = (t.1.kb, 0, [t.1.kv]) :: (t.1.krb, t.1.kro, ((t.2.map GT.id).map pp).flatMap fv ++ t.1.ksp) :: t.2.flatMap (GT.all enc) := rfl
  rw [e, flat_fv]; rfl
theorem Gd.own {iso : Int} : ∀ {k : Nat} {t : GT It k}, Gd iso t → Own 2 t.nd.iv t.nd.its.length t.nd.ib t.nd.io (t.nd.its.flatMap enc) t.nd.isp
 | 0, _, g => g.wf.1
 | _ + 1, _, g => g.wf.1.1
theorem Gd.iso {iso : Int} : ∀ {k : Nat} {t : GT It k}, Gd iso t → t.nd.iso = iso
 | 0, _, g => g.wf.2.1 g.mine
 | _ + 1, _, g => g.wf.1.2.1 g.mine.1
theorem Gd.ownK {iso : Int} {k : Nat} {t : GT It (k + 1)} (g : Gd iso t) : Own 1 t.1.kv ((t.2.map GT.id).map pp).length t.1.krb t.1.kro (((t.2.map GT.id).map pp).flatMap fv) t.1.ksp := by
 have := g.wf.2.1
 rw [flat_fv, List.length_map, List.length_map]; exact this
theorem Gd.cntEq {iso : Int} {k : Nat} {t : GT It k} (g : Gd iso t) : t.nd.cnt = t.pt.items.length := g.cn.cnt
theorem fl_its {m lo : Nat} : ∀ {k : Nat} {t : GT It k}, t.pt.Fl m lo → lo ≤ t.nd.its.length ∧ t.nd.its.length ≤ m
 | 0, _, f => f
 | _ + 1, _, f => ⟨f.1, f.2.1⟩
theorem mk_inner {iso : Int} {k n ib io kb krb kro : Nat} {its : List It} {iv kv : Value} {isp ksp : List Value} {ts : List (GT It k)} (w : Own 2 iv its.length ib io (its.flatMap enc) isp) (wK : Own 1 kv ((ts.map GT.id).map pp).length krb kro (((ts.map GT.id).map pp).flatMap fv) ksp)
  (hl : ts.length = its.length + 1) (hk : ∀ c ∈ ts, Gd iso c) : ∃ t : GT It (k + 1), t.id = n ∧ Gd iso t ∧ t.pt = (its, ts.map GT.pt) ∧ t.nd.its = its ∧
   t.all enc = (n, 0, [.int .u64 iso, .int .i64 (PT.items (h := k + 1) (its, ts.map GT.pt)).length, iv, ptr kb 0]) :: (ib, io, its.flatMap enc ++ isp) :: (kb, 0, [kv]) :: (krb, kro, ((ts.map GT.id).map pp).flatMap fv ++ ksp) :: ts.flatMap (GT.all enc) := by
 refine ⟨((⟨true, n, iso, (PT.items (h := k + 1) (its, ts.map GT.pt)).length, its, iv, ib, io, isp, kb, kv, krb, kro, ksp⟩ : Nd It), ts), rfl, Gd.inner w rfl rfl ?_ hl hk rfl, rfl, rfl, ?_⟩
 · rw [flat_fv, List.length_map, List.length_map] at wK
   rw [← mfp]; exact wK
 · show Nd.inner enc _ (ts.map GT.id) ++ ts.flatMap (GT.all enc) = _
   unfold Nd.inner; rw [flat_fv]; rfl
theorem mk_leaf {iso : Int} {n ib io : Nat} {its : List It} {iv : Value} {isp : List Value} (w : Own 2 iv its.length ib io (its.flatMap enc) isp) : ∃ t : GT It 0, t.id = n ∧ Gd iso t ∧ t.pt = its ∧ t.nd.its = its ∧
      t.all enc = [(n, 0, [.int .u64 iso, .int .i64 its.length, iv, .pointer none]), (ib, io, its.flatMap enc ++ isp)] :=
 ⟨(⟨true, n, iso, its.length, its, iv, ib, io, isp, 0, .pointer none, 0, 0, []⟩ : Nd It), rfl, Gd.leaf w rfl rfl rfl, rfl, rfl, rfl⟩
theorem ids_pp {k : Nat} (A B : List (GT It k)) (l r : GT It k) : (((A ++ l :: r :: B).map GT.id).map pp) = (A.map GT.id).map pp ++ pp l.id :: pp r.id :: (B.map GT.id).map pp := by simp
theorem ids_one {k : Nat} (A B : List (GT It k)) (l : GT It k) : (((A ++ l :: B).map GT.id).map pp) = (A.map GT.id).map pp ++ pp l.id :: (B.map GT.id).map pp := by simp
theorem two_of {β : Type} {ts : List β} {j : Nat} (h : j + 1 < ts.length) : ∃ A l r B, ts = A ++ l :: r :: B ∧ A.length = j :=
 ⟨ts.take j, ts[j], ts[j + 1], ts.drop (j + 2), by
  rw [← List.drop_eq_getElem_cons h, ← List.drop_eq_getElem_cons (by omega), List.take_append_drop], by rw [List.length_take]; omega⟩
theorem one_of {β : Type} {ts : List β} {j : Nat} (h : j < ts.length) : ∃ A l B, ts = A ++ l :: B ∧ A.length = j :=
 ⟨ts.take j, ts[j], ts.drop (j + 1), by rw [← List.drop_eq_getElem_cons h, List.take_append_drop], by rw [List.length_take]; omega⟩
def Mended (iso : Int) (m j : Nat) {k : Nat} (t t' : GT It (k + 1)) : Prop := t'.id = t.id ∧ t'.pt.items = t.pt.items ∧ t'.pt.Fl m (t.pt.1.length - 1) ∧ Gd iso t' ∧ t'.pt = PT.mendAt m t.pt j
theorem mended_two {iso : Int} {m j k : Nat} {A B : List (GT It k)} {l r l' r' : GT It k} {P S : List It} {y z : It} {t t' : GT It (k + 1)} (e : t.pt = (P ++ y :: S, (A ++ l :: r :: B).map GT.pt)) (e' : t'.pt = (P ++ z :: S, (A ++ l' :: r' :: B).map GT.pt)) (hA : A.length = P.length) (hB : B.length = S.length)
  (hi : t'.id = t.id) (g' : Gd iso t') (hab : ∀ c ∈ A ++ B, PT.Fl m (m / 2) c.pt) (hlm : t.pt.1.length ≤ m) (fl : l'.pt.Fl m (m / 2)) (fr : r'.pt.Fl m (m / 2)) (hx : l.pt.items ++ y :: r.pt.items = l'.pt.items ++ z :: r'.pt.items) (hPj : P.length = j)
  (hs : ¬ l.nd.its.length + r.nd.its.length < m ∧ ((r.nd.its.length < l.nd.its.length ∧ PT.shR y l.pt r.pt = (l'.pt, z, r'.pt)) ∨ (¬ r.nd.its.length < l.nd.its.length ∧ PT.shL y l.pt r.pt = (l'.pt, z, r'.pt)))) : Mended iso m j t t' := by
 refine ⟨hi, ?_, ?_, g', ?_⟩
 rotate_right
 · have e1 : t.pt = (P ++ y :: S, A.map GT.pt ++ l.pt :: r.pt :: B.map GT.pt) := e.trans (congrArg (Prod.mk (P ++ y :: S)) (by rw [List.map_append, List.map_cons, List.map_cons]))
   have e2 : t'.pt = (P ++ z :: S, A.map GT.pt ++ l'.pt :: r'.pt :: B.map GT.pt) := e'.trans (congrArg (Prod.mk (P ++ z :: S)) (by rw [List.map_append, List.map_cons, List.map_cons]))
   have key := PT.mendAt_eq (m := m) (S := S) (A := A.map GT.pt) (B := B.map GT.pt) (y := y) (l := l.pt) (r := r.pt) hPj (by rw [List.length_map]; omega)
   rw [GT.pt_its, GT.pt_its, if_neg hs.1] at key; rw [e1, e2]; refine Eq.trans ?_ key.symm
   rcases hs.2 with ⟨h1, h2⟩ | ⟨h1, h2⟩
   · (rw [if_pos h1, h2]) <;> rfl
   · (rw [if_neg h1, h2]) <;> rfl
 · have e1 : t.pt = (P ++ y :: S, A.map GT.pt ++ l.pt :: r.pt :: B.map GT.pt) := e.trans (congrArg (Prod.mk (P ++ y :: S)) (by rw [List.map_append, List.map_cons, List.map_cons]))
   have e2 : t'.pt = (P ++ z :: S, A.map GT.pt ++ l'.pt :: r'.pt :: B.map GT.pt) := e'.trans (congrArg (Prod.mk (P ++ z :: S)) (by rw [List.map_append, List.map_cons, List.map_cons]))
   rw [e1, e2, PT.items_two _ _ _ _ _ _ _ (by rw [List.length_map]; exact hA) (by rw [List.length_map]; exact hB), PT.items_two _ _ _ _ _ _ _ (by rw [List.length_map]; exact hA) (by rw [List.length_map]; exact hB)]
   have h2 := congrArg (fun q => lz P ((A.map GT.pt).map PT.items) ++ (q ++ rz S ((B.map GT.pt).map PT.items))) hx
   simp only [List.append_assoc, List.cons_append] at h2 ⊢
   exact h2.symm
 · rw [e] at hlm ⊢
   rw [e']
   have hl : (P ++ y :: S).length ≤ m := hlm
   simp only [List.length_append, List.length_cons] at hl
   refine ⟨by show (P ++ y :: S).length - 1 ≤ (P ++ z :: S).length; simp, by show (P ++ z :: S).length ≤ m; simp; omega, by show ((A ++ l' :: r' :: B).map GT.pt).length = (P ++ z :: S).length + 1; simp; omega, fun c hc => ?_⟩
   obtain ⟨q, hq, rfl⟩ := List.mem_map.1 hc
   rcases List.mem_append.1 hq with h | h
   · exact hab q (List.mem_append.2 (.inl h))
   · rcases List.mem_cons.1 h with h | h
     · subst h; exact fl
     · rcases List.mem_cons.1 h with h | h
       · subst h; exact fr
       · exact hab q (List.mem_append.2 (.inr h))
theorem mended_one {iso : Int} {m j k : Nat} {A B : List (GT It k)} {l r l' : GT It k} {P S : List It} {y : It} {t t' : GT It (k + 1)} (e : t.pt = (P ++ y :: S, (A ++ l :: r :: B).map GT.pt)) (e' : t'.pt = (P ++ S, (A ++ l' :: B).map GT.pt)) (hA : A.length = P.length) (hB : B.length = S.length)
  (hi : t'.id = t.id) (g' : Gd iso t') (hab : ∀ c ∈ A ++ B, PT.Fl m (m / 2) c.pt) (hlm : t.pt.1.length ≤ m) (fl : l'.pt.Fl m (m / 2)) (hx : l.pt.items ++ y :: r.pt.items = l'.pt.items) (hPj : P.length = j) (hs : l.nd.its.length + r.nd.its.length < m ∧ PT.join2 y l.pt r.pt = l'.pt) : Mended iso m j t t' := by
 refine ⟨hi, ?_, ?_, g', ?_⟩
 rotate_right
 · have e1 : t.pt = (P ++ y :: S, A.map GT.pt ++ l.pt :: r.pt :: B.map GT.pt) := e.trans (congrArg (Prod.mk (P ++ y :: S)) (by rw [List.map_append, List.map_cons, List.map_cons]))
   have e2 : t'.pt = (P ++ S, A.map GT.pt ++ l'.pt :: B.map GT.pt) := e'.trans (congrArg (Prod.mk (P ++ S)) (by rw [List.map_append, List.map_cons]))
   have key := PT.mendAt_eq (m := m) (S := S) (A := A.map GT.pt) (B := B.map GT.pt) (y := y) (l := l.pt) (r := r.pt) hPj (by rw [List.length_map]; omega)
   rw [GT.pt_its, GT.pt_its, if_pos hs.1, hs.2] at key; rw [e1, e2]; exact key.symm
 · have e1 : t.pt = (P ++ y :: S, A.map GT.pt ++ l.pt :: r.pt :: B.map GT.pt) := e.trans (congrArg (Prod.mk (P ++ y :: S)) (by rw [List.map_append, List.map_cons, List.map_cons]))
   have e2 : t'.pt = (P ++ S, A.map GT.pt ++ l'.pt :: B.map GT.pt) := e'.trans (congrArg (Prod.mk (P ++ S)) (by rw [List.map_append, List.map_cons]))
   rw [e1, e2, PT.items_two _ _ _ _ _ _ _ (by rw [List.length_map]; exact hA) (by rw [List.length_map]; exact hB), PT.items_one _ _ _ _ _ (by rw [List.length_map]; exact hA) (by rw [List.length_map]; exact hB), ← hx]
   simp only [List.append_assoc, List.cons_append]
 · rw [e] at hlm ⊢
   rw [e']
   have hl : (P ++ y :: S).length ≤ m := hlm
   simp only [List.length_append, List.length_cons] at hl
   refine ⟨by show (P ++ y :: S).length - 1 ≤ (P ++ S).length; simp, by show (P ++ S).length ≤ m; simp; omega, by show ((A ++ l' :: B).map GT.pt).length = (P ++ S).length + 1; simp; omega, fun c hc => ?_⟩
   obtain ⟨q, hq, rfl⟩ := List.mem_map.1 hc
   rcases List.mem_append.1 hq with h | h
   · exact hab q (List.mem_append.2 (.inl h))
   · rcases List.mem_cons.1 h with h | h
     · subst h; exact fl
     · exact hab q (List.mem_append.2 (.inr h))
end Go.Proofs.YthpmeccnddchpaaGreat.Ii
end
section
namespace Go.Proofs.YthpmeccnddchpaaGreat.Ii
open Go.Hp Go.Proofs.YthpmeccnddchpaaGreat
variable {h0 h : Heap} {Z E : List Rg} {Q : Value → Heap → Prop}
attribute [local irreducible] load1 loadN store1 storeN fld nilck lenV idx arith cmpI notV extr mkSl app cpy slc ifV
theorem rebalance_j {tb m j : Nat} {iso mn : Int} {ctr : Option Addr} (hT0 : (tb, 0, hd0 iso ctr) ∈ Z) (hT4 : (tb, 4, hd4 mn m) ∈ Z) (hm3 : 3 ≤ m) (hm1 : m ≤ 1024) (ho : m % 2 = 1) {k : Nat} (t : GT It (k + 1))
  (hlm : t.pt.1.length ≤ m) (hj : j < t.pt.1.length) (hfx : ∀ c ∈ t.pt.2, PT.Fl m (m / 2 - 1) c) (hd : ∀ c c', t.pt.2[j]? = some c → t.pt.2[j + 1]? = some c' → (c.its.length + 1 = m / 2 ∧ PT.Fl m (m / 2) c') ∨ (PT.Fl m (m / 2) c ∧ c'.its.length + 1 = m / 2)) (hfy : ∀ i c, t.pt.2[i]? = some c → i ≠ j → i ≠ j + 1 → PT.Fl m (m / 2) c)
  (hsz : t.pt.items.length ≤ 4611686018427387903) (g : Gd iso t) (s : St h0 Z (t.all enc ++ E) h)
  (H : ∀ (t' : GT It (k + 1)) h', Mended iso m j t t' → St h0 Z (t'.all enc ++ E) h' → Q (.tuple #[]) h') : z02_.j1 (ptr tb 0) (ptr t.id 0) (.int .i64 j) h Q := by
 obtain ⟨d, ts⟩ := t; obtain ⟨own, n, is', cnt, its, iv, ib, io, isp, kb, kv, krb, kro, ksp⟩ := d
 have hj : j < its.length := hj
 have hlm : its.length ≤ m := hlm
 have w : Own 2 iv its.length ib io (its.flatMap enc) isp := g.own
 have wK : Own 1 kv ((ts.map GT.id).map pp).length krb kro (((ts.map GT.id).map pp).flatMap fv) ksp := g.ownK
 have hkl : ts.length = its.length + 1 := g.wf.2.2.1
 have hiso : is' = iso := g.iso
 have hcn : cnt = (PT.items (h := k + 1) (its, ts.map GT.pt)).length := g.cn.1
 subst hiso
 have s : St h0 Z (((n, 0, [.int .u64 is', .int .i64 cnt, iv, ptr kb 0]) :: (ib, io, its.flatMap enc ++ isp) :: (kb, 0, [kv]) :: (krb, kro, ((ts.map GT.id).map pp).flatMap fv ++ ksp) :: ts.flatMap (GT.all enc)) ++ E) h := by
  have e := all_eq (k := k + 1) ((⟨own, n, is', cnt, its, iv, ib, io, isp, kb, kv, krb, kro, ksp⟩ : Nd It), ts)
  rw [e] at s; exact s
 obtain ⟨A, l, r, B, ets, hA⟩ := two_of (ts := ts) (j := j) (by omega); obtain ⟨P, y, S, eits, hP⟩ := one_of (ts := its) (j := j) hj
 have hB : B.length = S.length := by rw [ets, eits] at hkl; simp at hkl; omega
 subst ets; subst eits
 have gl : Gd is' l := g.kid (by simp)
 have gr : Gd is' r := g.kid (by simp)
 have fl0 : l.pt.Fl m (m / 2 - 1) := hfx _ (List.mem_map.2 ⟨l, by simp, rfl⟩)
 have fr0 : r.pt.Fl m (m / 2 - 1) := hfx _ (List.mem_map.2 ⟨r, by simp, rfl⟩)
 have flr : (l.pt.its.length + 1 = m / 2 ∧ r.pt.Fl m (m / 2)) ∨ (l.pt.Fl m (m / 2) ∧ r.pt.its.length + 1 = m / 2) := by
  have h1 : ((A ++ l :: r :: B).map GT.pt)[j]? = some l.pt := by rw [List.map_append, List.map_cons]; exact getAt (by simpa using hA)
  have h2 : ((A ++ l :: r :: B).map GT.pt)[j + 1]? = some r.pt := by
   rw [show A ++ l :: r :: B = (A ++ [l]) ++ r :: B by simp, List.map_append, List.map_cons]; exact getAt (by simp [hA])
  exact hd _ _ h1 h2
 have hab : ∀ c ∈ A ++ B, PT.Fl m (m / 2) c.pt := fun c hc => by
  obtain ⟨i, hi, e⟩ := List.getElem_of_mem hc
  rcases Nat.lt_or_ge i A.length with hl | hl
  · rw [List.getElem_append_left hl] at e
    refine hfy i c.pt ?_ (by omega) (by omega)
    show ((A ++ l :: r :: B).map GT.pt)[i]? = some c.pt
    rw [List.getElem?_map, List.getElem?_append_left hl, List.getElem?_eq_getElem hl, e]; rfl
  · rw [List.getElem_append_right hl] at e
    rw [List.length_append] at hi; refine hfy (i + 2) c.pt ?_ (by omega) (by omega)
    show ((A ++ l :: r :: B).map GT.pt)[i + 2]? = some c.pt
    rw [List.getElem?_map, List.getElem?_append_right (by omega), show i + 2 - A.length = (i - A.length) + 2 by omega, List.getElem?_cons_succ, List.getElem?_cons_succ, List.getElem?_eq_getElem (by omega), e]; rfl
 have ll := fl_its fl0
 have lr := fl_its fr0
 have hlr : (l.nd.its.length + 1 = m / 2 ∧ m / 2 ≤ r.nd.its.length) ∨ (m / 2 ≤ l.nd.its.length ∧ r.nd.its.length + 1 = m / 2) := by
  rw [GT.pt_its, GT.pt_its] at flr; exact flr.imp (fun f => ⟨f.1, (fl_its f.2).1⟩) (fun f => ⟨(fl_its f.1).1, f.2⟩)
 have wl := gl.own
 have wr := gr.own
 have cl0 := gl.cntEq
 have cr0 := gr.cntEq
 have il := gl.iso
 have ir := gr.iso
 rw [ids_pp] at s wK
 have hKl : ((A.map GT.id).map pp ++ pp l.id :: pp r.id :: (B.map GT.id).map pp).length = P.length + S.length + 2 := by simp; omega
 have hil : (P ++ y :: S).length = P.length + S.length + 1 := by simp; omega
 have s : St h0 Z ((l.id, 0, [.int .u64 l.nd.iso, .int .i64 l.nd.cnt, l.nd.iv, GT.kp l]) :: (l.nd.ib, l.nd.io, l.nd.its.flatMap enc ++ l.nd.isp) :: (r.id, 0, [.int .u64 r.nd.iso, .int .i64 r.nd.cnt, r.nd.iv, GT.kp r]) :: (r.nd.ib, r.nd.io, r.nd.its.flatMap enc ++ r.nd.isp) ::
   (n, 0, [.int .u64 is', .int .i64 cnt, iv, ptr kb 0]) :: (ib, io, (P ++ y :: S).flatMap enc ++ isp) :: (kb, 0, [kv]) :: (krb, kro, ((A.map GT.id).map pp ++ pp l.id :: pp r.id :: (B.map GT.id).map pp).flatMap fv ++ ksp) :: (GT.rest l ++ (GT.rest r ++ (A.flatMap (GT.all enc) ++ (B.flatMap (GT.all enc) ++ E))))) h := by
  have e : (A ++ l :: r :: B).flatMap (GT.all enc) = A.flatMap (GT.all enc) ++ (l.all enc ++ (r.all enc ++ B.flatMap (GT.all enc))) := by rw [List.flatMap_append, List.flatMap_cons, List.flatMap_cons]
  refine s.perm ?_; rw [e, all_eq l, all_eq r]
  ((apply perm_rg; intro f; simp only [PS]; ac_rfl))
 rw [il, ir, cl0, cr0] at s
 have hr1 : r.nd.its.length ≤ r.pt.items.length := by have := (PT.its_sub r.pt).length_le; rwa [GT.pt_its] at this
 have hl1 : l.nd.its.length ≤ l.pt.items.length := by have := (PT.its_sub l.pt).length_le; rwa [GT.pt_its] at this
 have hsz2 : (lz P (A.map fun c => c.pt.items)).length + l.pt.items.length + 1 + r.pt.items.length + (rz S (B.map fun c => c.pt.items)).length ≤ 4611686018427387903 := by
  have e := PT.items_two P S y (A.map GT.pt) (B.map GT.pt) l.pt r.pt (by rw [List.length_map]; omega) (by rw [List.length_map]; omega)
  have h2 : (PT.items (h := k + 1) (P ++ y :: S, (A ++ l :: r :: B).map GT.pt)).length ≤ 4611686018427387903 := hsz
  rw [List.map_append, List.map_cons, List.map_cons, e] at h2
  simp only [List.length_append, List.length_cons, List.map_map, Function.comp_def] at h2
  omega
 have gA : ∀ c ∈ A, Gd is' c := fun c hc => g.kid (by simp [hc])
 have gB : ∀ c ∈ B, Gd is' c := fun c hc => g.kid (by simp [hc])
 have hi : ∀ {E h}, St h0 Z E h → cl h tb 0 = some (.int .u64 is') := fun s => by have := s.getZ hT0 (j := 0) (by simp); simpa using this
 have kj : ((A.map GT.id).map pp ++ pp l.id :: pp r.id :: (B.map GT.id).map pp)[j]? = some (ptr l.id 0) := getAt (by simp [hA])
 have kj1 : ((A.map GT.id).map pp ++ pp l.id :: pp r.id :: (B.map GT.id).map pp)[j + 1]? = some (ptr r.id 0) := by
  have : (A.map GT.id).map pp ++ pp l.id :: pp r.id :: (B.map GT.id).map pp = ((A.map GT.id).map pp ++ [pp l.id]) ++ pp r.id :: (B.map GT.id).map pp := by simp
  rw [this]; exact getAt (by simp [hA])
 have pj : (P ++ y :: S)[j]? = some y := getAt hP
 show z02_.j1 (ptr tb 0) (ptr n 0) (.int .i64 j) h Q
 unfold z02_.j1; refine r_nil (r_fld (St.r_load0 s 4 rfl rfl (r_nil (St.r_load0 s 6 rfl rfl ?_))))
 (refine Own.idx (by assumption) rfl (by first | omega | (simp; done) | (simp; omega)) ?_)
 refine isoLoad_ok (hi s) (s.clV 7 rfl kj) (fun _ => s.cl0 0 rfl rfl) ?_; refine r_nil (r_fld (St.r_load0 s 4 rfl rfl (r_nil (St.r_load0 s 6 rfl rfl ?_))))
 refine r_add1 (by omega) ?_
 (refine Own.idx (by assumption) rfl (by first | omega | (simp; done) | (simp; omega)) ?_)
 refine isoLoad_ok (hi s) (s.clV 7 rfl kj1) (fun _ => s.cl0 2 rfl rfl) ?_; refine r_nil (r_fld (St.r_load0 s 0 rfl rfl ?_))
 refine Own.lenV (by assumption) ?_; refine r_nil (r_fld (St.r_load0 s 2 rfl rfl ?_))
 refine Own.lenV (by assumption) ?_; refine r_addN (by omega) ?_; refine r_nil (r_fld ?_)
 refine s.r_lz hT4 3 rfl rfl ?_; refine r_cmpI ?_; refine r_if (fun hlt => ?_) (fun hge => ?_)
 · have hlt : l.nd.its.length + r.nd.its.length < m := by have := of_decide_eq_true hlt; omega
   refine r_nil (r_fld (St.r_load0 s 0 rfl rfl (r_nil (r_fld (St.r_load0 s 4 rfl rfl ?_)))))
   (refine Own.idx (by assumption) rfl (by first | omega | (simp; done) | (simp; omega)) ?_)
   refine s.r_loadF encl 5 rfl (by assumption) ?_; refine St.r_mkSl (sz := 2) (cs := enc y) s (by ((simp only [fillV, fill1, Value.cells, Nat.reduceAdd, Nat.reduceMul, Nat.reduceLeDiff, Nat.reduceEqDiff, reduceIte, PF] <;> rfl))) rfl fun q h s w1 => ?_; refine And.intro (by exact St.r_still0 s 1 rfl rfl) ?_; refine s.r_appL (M := [y]) 2 rfl wl rfl (by have := w1.rdl s 0 rfl; simpa using this) (fun _ _ => enc1 _) (by simp; omega) (by simp; omega) fun liv1 lib1 lio1 lisp1 h s wl1 => ?_
   have s := s.tail rfl
   refine r_nil (r_fld ?_)
   (refine St.r_store0 s 0 rfl (by simp) (Own.one (by assumption)) ?_; intro h s; try simp only [P2] at s)
   refine r_nil (r_fld (St.r_load0 s 0 rfl rfl (r_nil (r_fld (St.r_load0 s 2 rfl rfl ?_)))))
   refine s.r_appL (M := r.nd.its) 1 rfl wl1 rfl (wr.rdl s 3 rfl) (fun _ _ => enc1 _) (by simp; omega) (by simp; omega) fun liv2 lib2 lio2 lisp2 h s wl2 => ?_; refine r_nil (r_fld ?_)
   (refine St.r_store0 s 0 rfl (by simp) (Own.one (by assumption)) ?_; intro h s; try simp only [P2] at s)
   -- the node itself
   have tail : ∀ {X : List Rg} {kp : Value} {h : Heap}, St h0 Z ((l.id, 0, [.int .u64 is', .int .i64 l.pt.items.length, liv2, kp]) :: (lib2, lio2, (l.nd.its ++ [y] ++ r.nd.its).flatMap enc ++ lisp2) :: (r.id, 0, [.int .u64 is', .int .i64 r.pt.items.length, r.nd.iv, GT.kp r]) :: (r.nd.ib, r.nd.io, r.nd.its.flatMap enc ++ r.nd.isp) ::
     (n, 0, [.int .u64 is', .int .i64 cnt, iv, ptr kb 0]) :: (ib, io, (P ++ y :: S).flatMap enc ++ isp) :: (kb, 0, [kv]) :: (krb, kro, ((A.map GT.id).map pp ++ pp l.id :: pp r.id :: (B.map GT.id).map pp).flatMap fv ++ ksp) :: X) h →
     (∀ iv2 isp2 kv2 ksp2 h, Own 2 iv2 (P ++ S).length ib io ((P ++ S).flatMap enc) isp2 → Own 1 kv2 ((A.map GT.id).map pp ++ pp l.id :: (B.map GT.id).map pp).length krb kro (((A.map GT.id).map pp ++ pp l.id :: (B.map GT.id).map pp).flatMap fv) ksp2 →
      St h0 Z ((l.id, 0, [.int .u64 is', .int .i64 ((l.pt.items.length + (r.pt.items.length + 1) : Nat) : Int), liv2, kp]) :: (lib2, lio2, (l.nd.its ++ [y] ++ r.nd.its).flatMap enc ++ lisp2) :: (r.id, 0, [.int .u64 is', .int .i64 r.pt.items.length, r.nd.iv, GT.kp r]) :: (r.nd.ib, r.nd.io, r.nd.its.flatMap enc ++ r.nd.isp) ::
       (n, 0, [.int .u64 is', .int .i64 cnt, iv2, ptr kb 0]) :: (ib, io, (P ++ S).flatMap enc ++ isp2) :: (kb, 0, [kv2]) :: (krb, kro, ((A.map GT.id).map pp ++ pp l.id :: (B.map GT.id).map pp).flatMap fv ++ ksp2) :: X) h → Q (.tuple #[]) h) →
     z02_.j2 (ptr tb 0) (ptr n 0) (.int .i64 j) (ptr l.id 0) (ptr r.id 0) h Q := by
    intro X kp h s K; unfold z02_.j2; refine r_nil (r_fld (St.r_load0 s 0 rfl rfl (r_nil (r_fld (St.r_load0 s 2 rfl rfl ?_)))))
    refine r_add1 (by omega) ?_; refine r_addN (by omega) ?_; refine r_nil (r_fld ?_)
    (refine St.r_store0 s 0 rfl (by simp) rfl ?_; intro h s; try simp only [P2] at s)
    refine r_nil (r_fld (St.r_load0 s 4 rfl rfl ?_))
    refine w.slcLo encl (i := j) rfl (by omega) fun dd wd => ?_; refine r_nil (r_fld (St.r_load0 s 4 rfl rfl ?_))
    refine r_add1 (by omega) ?_; refine (w.rdl s 5 rfl).slcLo encl (i := j + 1) rfl (by omega) fun src rs => ?_; refine s.r_cpyF encl 5 (L := P ++ y :: S) (M := (P ++ y :: S).drop (j + 1)) rfl wd (by simp; omega) rs rfl (fun y _ => enc1 y) fun h s => ?_; refine r_nil (r_fld (St.r_load0 s 4 rfl rfl (r_nil (r_fld (St.r_load0 s 4 rfl rfl ?_)))))
    refine Own.lenV (by assumption) ?_; refine r_sub1 (by omega) (by omega) ?_; refine r_nil (r_fld ?_)
    refine s.r_lzE hT4 0 (enc emp) rfl (by simp) rfl ?_
    (refine Own.idx (by assumption) rfl (by first | omega | (simp; done) | (simp; omega)) ?_)
    (refine s.r_storeF encl 5 rfl (by first | omega | (simp; done) | (simp; omega)) (enc1 _) ?_; intro h s; try simp only [P2] at s)
    refine r_nil (r_fld (St.r_load0 s 4 rfl rfl (r_nil (r_fld (St.r_load0 s 4 rfl rfl ?_)))))
    refine Own.lenV (by assumption) ?_; refine r_sub1 (by omega) (by omega) ?_
    have hj2 : j < (P ++ y :: S).length := by omega
    have hpe : (P ++ y :: S).eraseIdx j = P ++ S := eraseIdx_at hP
    refine (w.list encl (del_len (P ++ y :: S) emp hj2)).slcHi encl rfl (by rw [del_len _ _ hj2]; omega) fun iv2 w2 => ?_
    have s := s.del (f := enc) 5 rfl _ (del_erase (P ++ y :: S) emp hj2)
    rw [del_erase (P ++ y :: S) emp hj2, hpe] at w2; rw [hpe] at s; refine r_nil (r_fld ?_)
    (refine St.r_store0 s 4 rfl (by simp) (Own.one (by assumption)) ?_; intro h s; try simp only [P2] at s)
    refine r_nil (r_fld (St.r_load0 s 4 rfl rfl (r_nil (St.r_load0 s 6 rfl rfl ?_))))
    refine r_add1 (by omega) ?_
    generalize hKK : (A.map GT.id).map pp ++ pp l.id :: pp r.id :: (B.map GT.id).map pp = KK at *
    have hK1 : KK.eraseIdx (j + 1) = (A.map GT.id).map pp ++ pp l.id :: (B.map GT.id).map pp := by
     rw [← hKK, show (A.map GT.id).map pp ++ pp l.id :: pp r.id :: (B.map GT.id).map pp = ((A.map GT.id).map pp ++ [pp l.id]) ++ pp r.id :: (B.map GT.id).map pp by simp, eraseIdx_at (by simp [hA])]
     simp
    have hKo : ∀ x ∈ KK, one1 x = true := fun x hx => by
     rw [← hKK] at hx
     rcases List.mem_append.1 hx with h | h
     · obtain ⟨a, _, rfl⟩ := List.mem_map.1 h; rfl
     · rcases List.mem_cons.1 h with h | h
       · rw [h]; rfl
       · rcases List.mem_cons.1 h with h | h
         · rw [h]; rfl
         · obtain ⟨a, _, rfl⟩ := List.mem_map.1 h; rfl
    refine wK.slcLo fvl (i := j + 1) rfl (by omega) fun dk wdk => ?_; refine r_nil (r_fld (St.r_load0 s 4 rfl rfl (r_nil (St.r_load0 s 6 rfl rfl ?_))))
    refine r_add2 (by omega) ?_; refine (wK.rdl s 7 rfl).slcLo fvl (i := j + 1 + 1) rfl (by omega) fun sk rsk => ?_; refine s.r_cpyF fvl 7 (L := KK) (M := KK.drop (j + 1 + 1)) rfl wdk (by simp; omega) rsk rfl (fun x hx => by intro c hc; rw [List.mem_singleton.1 hc]; exact hKo x (List.mem_of_mem_drop hx)) fun h s => ?_; refine r_nil (r_fld (St.r_load0 s 4 rfl rfl (r_nil (St.r_load0 s 6 rfl rfl (r_nil (r_fld ?_))))))
    refine St.r_load0 s 4 rfl rfl (r_nil (St.r_load0 s 6 rfl rfl ?_))
    refine Own.lenV (by assumption) ?_; refine r_sub1 (by omega) (by omega) ?_
    (refine Own.idx (by assumption) rfl (by first | omega | (simp; done) | (simp; omega)) ?_)
    (refine s.r_storeV 7 rfl (by first | omega | (simp; done) | (simp; omega)) rfl ?_; intro h s; try simp only [P2] at s)
    refine r_nil (r_fld (St.r_load0 s 4 rfl rfl (r_nil (r_fld (St.r_load0 s 4 rfl rfl (r_nil ?_))))))
    refine St.r_load0 s 6 rfl rfl (r_nil (r_fld (St.r_load0 s 4 rfl rfl (r_nil (St.r_load0 s 6 rfl rfl ?_)))))
    refine Own.lenV (by assumption) ?_; refine r_sub1 (by omega) (by omega) ?_
    have hj3 : j + 1 < KK.length := by omega
    refine (wK.list fvl (del_len KK (.pointer none) hj3)).slcHi fvl rfl (by rw [del_len _ _ hj3]; omega) fun kv2 wk2 => ?_
    have s := s.del (f := fv) 7 rfl _ (del_erase KK (.pointer none) hj3)
    rw [del_erase KK (.pointer none) hj3, hK1] at wk2; rw [hK1] at s; refine r_nil ?_
    (refine St.r_store0 s 6 rfl (by simp) (Own.one (by assumption)) ?_; intro h s; try simp only [P2] at s)
    exact K _ _ _ _ _ w2 wk2 s
   cases k with
   | zero =>
    refine leaf_ok (a := none) (s.cl0 0 rfl rfl) ?_; refine r_not ?_; refine r_if (fun e => absurd e (by simp)) (fun _ => ?_)
    have s := St.kids0 s
    refine tail s fun iv2 isp2 kv2 ksp2 h w2 wk2 s => ?_; obtain ⟨l', hl1', gl', hl2', hl3', hl4'⟩ := mk_leaf (iso := is') (n := l.id) wl2
    have wK2 : Own 1 kv2 (((A ++ l' :: B).map GT.id).map pp).length krb kro ((((A ++ l' :: B).map GT.id).map pp).flatMap fv) ksp2 := by rw [ids_one, hl1']; exact wk2
    obtain ⟨t', ht1, gt, ht2, ht3, ht4⟩ := mk_inner (n := n) (kb := kb) (iso := is') w2 wK2 (by simp; omega) (fun c hc => by
     rcases List.mem_append.1 hc with h | h
     · exact gA c h
     · rcases List.mem_cons.1 h with h | h
       · subst h; exact gl'
       · exact gB c h)
    have hfl' : l'.pt.Fl m (m / 2) := by rw [hl2']; exact fl_leaf (by simp; omega) (by simp; omega)
    refine (fun M => H t' h M ((s.perm (E' := (r.id, 0, [.int .u64 is', .int .i64 r.pt.items.length, r.nd.iv, GT.kp r]) :: (r.nd.ib, r.nd.io, r.nd.its.flatMap enc ++ r.nd.isp) :: (t'.all enc ++ E)) ?_).drop 2)) ?_
    rotate_left
    · refine mended_one rfl ht2 (by omega) (by omega) ht1 gt hab hlm hfl' ?_ hP ⟨hlt, ?_⟩
      · rw [hl2']
        show l.nd.its ++ y :: r.nd.its = l.nd.its ++ [y] ++ r.nd.its
        simp
      · rw [hl2']
        show l.nd.its ++ y :: r.nd.its = l.nd.its ++ [y] ++ r.nd.its
        simp
    have e1 := M.2.1
    rw [ht2] at e1
    have e1 : ((PT.items (h := 1) (P ++ S, (A ++ l' :: B).map GT.pt)).length : Int) = cnt := by rw [hcn, e1]; rfl
    have e2 : (A ++ l' :: B).flatMap (GT.all enc) = A.flatMap (GT.all enc) ++ (l'.all enc ++ B.flatMap (GT.all enc)) := by rw [List.flatMap_append, List.flatMap_cons]
    have e3 : l.pt.items.length + (r.pt.items.length + 1) = (l.nd.its ++ [y] ++ r.nd.its).length := by
     show l.nd.its.length + (r.nd.its.length + 1) = _
     simp <;> omega
    rw [ht4, e1, e2, hl4', ids_one, hl1', e3]
    ((apply perm_rg; intro f; simp only [PS]; ac_rfl))
   | succ k =>
    obtain ⟨dl, lk⟩ := l; obtain ⟨dr, rk⟩ := r; refine leaf_ok (a := some ⟨dl.kb, 0, none⟩) (s.cl0 0 rfl rfl) ?_; refine r_not ?_; refine r_if (fun _ => ?_) (fun e => absurd e (by simp))
    have s := St.kids8 s
    have s : St h0 Z ((dl.n, 0, [_, _, _, ptr dl.kb 0]) :: _ :: (dr.n, 0, [_, _, _, ptr dr.kb 0]) :: _ :: _ :: _ :: _ :: _ :: (dl.kb, 0, [dl.kv]) :: (dl.krb, dl.kro, ((lk.map GT.id).map pp).flatMap fv ++ dl.ksp) :: (dr.kb, 0, [dr.kv]) :: (dr.krb, dr.kro, ((rk.map GT.id).map pp).flatMap fv ++ dr.ksp) ::
     (lk.flatMap (GT.all enc) ++ (rk.flatMap (GT.all enc) ++ (A.flatMap (GT.all enc) ++ (B.flatMap (GT.all enc) ++ E))))) h := s
    have wLK : Own 1 dl.kv ((lk.map GT.id).map pp).length dl.krb dl.kro (((lk.map GT.id).map pp).flatMap fv) dl.ksp := gl.ownK
    have wRK : Own 1 dr.kv ((rk.map GT.id).map pp).length dr.krb dr.kro (((rk.map GT.id).map pp).flatMap fv) dr.ksp := gr.ownK
    have hlk : lk.length = dl.its.length + 1 := gl.wf.2.2.1
    have hrk : rk.length = dr.its.length + 1 := gr.wf.2.2.1
    have hdl : dl.its.length ≤ m := ll.2
    have hdr : dr.its.length ≤ m := lr.2
    have hrkL : ((rk.map GT.id).map pp).length = dr.its.length + 1 := by rw [List.length_map, List.length_map]; exact hrk
    have hlkL : ((lk.map GT.id).map pp).length = dl.its.length + 1 := by rw [List.length_map, List.length_map]; exact hlk
    refine r_nil (r_fld (St.r_load0 s 0 rfl rfl (r_nil (r_fld (St.r_load0 s 0 rfl rfl (r_nil ?_))))))
    refine St.r_load0 s 8 rfl rfl (r_nil (r_fld (St.r_load0 s 2 rfl rfl (r_nil (St.r_load0 s 10 rfl rfl ?_)))))
    refine s.r_appL (f := fv) (L := (lk.map GT.id).map pp) (M := (rk.map GT.id).map pp) 9 rfl wLK rfl (wRK.rdl s 11 rfl) (fun x hx => by obtain ⟨a, _, rfl⟩ := List.mem_map.1 hx; simp [one1]) (by omega) (by omega) fun lkv1 lkb1 lko1 lks1 h s wLK1 => ?_; refine And.intro (by exact St.r_still0 s 0 rfl rfl) ?_; refine r_nil ?_
    (refine St.r_store0 s 8 rfl (by simp) (Own.one (by assumption)) ?_; intro h s; try simp only [P2] at s)
    refine tail s fun iv2 isp2 kv2 ksp2 h w2 wk2 s => ?_
    have eL : ((lk ++ rk).map GT.id).map pp = (lk.map GT.id).map pp ++ (rk.map GT.id).map pp := by simp
    rw [← eL] at s wLK1
    obtain ⟨l', hl1', gl', hl2', hl3', hl4'⟩ := mk_inner (iso := is') (n := dl.n) (kb := dl.kb) (ts := lk ++ rk) wl2 wLK1 (by show _ = (dl.its ++ [y] ++ dr.its).length + 1; simp; omega) (fun q hq => by
     rcases List.mem_append.1 hq with h | h
     · exact gl.kid h
     · exact gr.kid h)
    have wK2 : Own 1 kv2 (((A ++ l' :: B).map GT.id).map pp).length krb kro ((((A ++ l' :: B).map GT.id).map pp).flatMap fv) ksp2 := by rw [ids_one, hl1']; exact wk2
    obtain ⟨t', ht1, gt, ht2, ht3, ht4⟩ := mk_inner (n := n) (kb := kb) (iso := is') w2 wK2 (by simp; omega) (fun c hc => by
     rcases List.mem_append.1 hc with h | h
     · exact gA c h
     · rcases List.mem_cons.1 h with h | h
       · subst h; exact gl'
       · exact gB c h)
    have fkl : ∀ q ∈ lk, PT.Fl m (m / 2) q.pt := fun q hq => fl0.2.2.2 _ (List.mem_map.2 ⟨q, hq, rfl⟩)
    have fkr : ∀ q ∈ rk, PT.Fl m (m / 2) q.pt := fun q hq => fr0.2.2.2 _ (List.mem_map.2 ⟨q, hq, rfl⟩)
    have hlt2 : dl.its.length + dr.its.length < m := hlt
    have hlr2 : (dl.its.length + 1 = m / 2 ∧ m / 2 ≤ dr.its.length) ∨ (m / 2 ≤ dl.its.length ∧ dr.its.length + 1 = m / 2) := hlr
    have hfl' : l'.pt.Fl m (m / 2) := by
     rw [hl2']; refine fl_inner (by show m / 2 ≤ (dl.its ++ [y] ++ dr.its).length; simp; omega) (by show (dl.its ++ [y] ++ dr.its).length ≤ m; simp; omega) (by show _ = (dl.its ++ [y] ++ dr.its).length + 1; simp; omega) fun q hq => ?_; obtain ⟨x, hx, rfl⟩ := List.mem_map.1 hq
     rcases List.mem_append.1 hx with h | h
     · exact fkl x h
     · exact fkr x h
    have hlI : l'.pt.items = (GT.pt (h := k + 1) (dl, lk)).items ++ y :: (GT.pt (h := k + 1) (dr, rk)).items := by
     rw [hl2']
     show inter (dl.its ++ [y] ++ dr.its) (((lk ++ rk).map GT.pt).map PT.items) = inter dl.its ((lk.map GT.pt).map PT.items) ++ y :: inter dr.its ((rk.map GT.pt).map PT.items)
     rw [List.map_append, List.map_append, List.append_assoc]; exact inter_join _ _ _ _ _ (by simp; omega)
    refine (fun M => H t' h M ((s.perm (E' := (dr.n, 0, [.int .u64 is', .int .i64 (GT.pt (h := k + 1) (dr, rk)).items.length, dr.iv, ptr dr.kb 0]) :: (dr.ib, dr.io, dr.its.flatMap enc ++ dr.isp) :: (dr.kb, 0, [dr.kv]) :: (dr.krb, dr.kro, ((rk.map GT.id).map pp).flatMap fv ++ dr.ksp) :: (t'.all enc ++ E)) ?_).drop 4)) ?_
    rotate_left
    · refine mended_one rfl ht2 (by omega) (by omega) ht1 gt hab hlm hfl' (by rw [hlI]) hP ⟨hlt, ?_⟩
      rw [hl2']
      show (dl.its ++ y :: dr.its, lk.map GT.pt ++ rk.map GT.pt) = (dl.its ++ [y] ++ dr.its, (lk ++ rk).map GT.pt)
      rw [List.map_append]; simp
    have e1 := M.2.1
    rw [ht2] at e1
    have e1 : ((PT.items (h := k + 2) (P ++ S, (A ++ l' :: B).map GT.pt)).length : Int) = cnt := by rw [hcn, e1]; rfl
    have e2 : (A ++ l' :: B).flatMap (GT.all enc) = A.flatMap (GT.all enc) ++ (l'.all enc ++ B.flatMap (GT.all enc)) := by rw [List.flatMap_append, List.flatMap_cons]
    have e3 : (PT.items (h := k + 1) ((GT.nd (h := k + 1) (dl, lk)).its ++ [y] ++ (GT.nd (h := k + 1) (dr, rk)).its, (lk ++ rk).map GT.pt)).length = (GT.pt (h := k + 1) (dl, lk)).items.length + ((GT.pt (h := k + 1) (dr, rk)).items.length + 1) := by
     have := congrArg List.length hlI
     rw [hl2', List.length_append, List.length_cons] at this; exact this
    have e5 : (lk ++ rk).flatMap (GT.all enc) = lk.flatMap (GT.all enc) ++ rk.flatMap (GT.all enc) := List.flatMap_append
    rw [ht4, e1, e2, hl4', ids_one, hl1', e3, e5]
    ((apply perm_rg; intro f; simp only [PS]; ac_rfl))
 · have hge : m ≤ l.nd.its.length + r.nd.its.length := by have := of_decide_eq_false hge; omega
   refine r_nil (r_fld (St.r_load0 s 0 rfl rfl ?_))
   refine Own.lenV (by assumption) ?_; refine r_nil (r_fld (St.r_load0 s 2 rfl rfl ?_))
   refine Own.lenV (by assumption) ?_; refine r_cmpI ?_; refine r_if (fun hgt => ?_) (fun hle => ?_)
   · have hgt : r.nd.its.length < l.nd.its.length := by have := of_decide_eq_true hgt; omega
     refine r_nil (r_fld (St.r_load0 s 2 rfl rfl (r_nil (r_fld ?_))))
     refine s.r_lzE hT4 0 (enc emp) rfl (by simp) rfl ?_; refine St.r_mkSl (sz := 2) (cs := enc emp) s (by ((simp only [fillV, fill1, Value.cells, Nat.reduceAdd, Nat.reduceMul, Nat.reduceLeDiff, Nat.reduceEqDiff, reduceIte, PF] <;> rfl))) rfl fun q h s w1 => ?_; refine And.intro (by exact St.r_still0 s 3 rfl rfl) ?_; refine s.r_appL (M := [emp]) 4 rfl wr rfl (by have := w1.rdl s 0 rfl; simpa using this) (fun _ _ => enc1 _) (by simp; omega) (by simp; omega) fun riv1 rib1 rio1 risp1 h s wr1 => ?_
     have s := s.tail rfl
     refine r_nil (r_fld ?_)
     (refine St.r_store0 s 2 rfl (by simp) (Own.one (by assumption)) ?_; intro h s; try simp only [P2] at s)
     refine r_nil (r_fld (St.r_load0 s 2 rfl rfl ?_))
     refine wr1.slcLo encl (i := 1) rfl (by simp) fun dd wd => ?_; refine r_nil (r_fld (St.r_load0 s 2 rfl rfl ?_))
     refine s.r_cpyF encl 3 (L := r.nd.its ++ [emp]) (M := (r.nd.its ++ [emp]).drop 0) rfl wd (by simp; omega) (wr1.rdl s 3 rfl).z0 rfl (fun y _ => enc1 y) fun h s => ?_
     have hl0 : 1 ≤ l.nd.its.length := by omega
     obtain ⟨L, z, hL⟩ := last_of hl0
     have hzl : l.nd.its[l.nd.its.length - 1]? = some z := by rw [hL]; simp
     have hLl : l.nd.its.length = L.length + 1 := by rw [hL]; simp
     refine r_nil (r_fld (St.r_load0 s 2 rfl rfl (r_nil (r_fld (St.r_load0 s 4 rfl rfl ?_)))))
     (refine Own.idx (by assumption) rfl (by first | omega | (simp; done) | (simp; omega)) ?_)
     refine s.r_loadF encl 5 rfl (by assumption) ?_
     (refine Own.idx (by assumption) rfl (by first | omega | (simp; done) | (simp; omega)) ?_)
     (refine s.r_storeF encl 3 rfl (by first | omega | (simp; done) | (simp; omega)) (enc1 _) ?_; intro h s; try simp only [P2] at s)
     refine r_nil (r_fld (St.r_load0 s 2 rfl rfl ?_))
     refine r_add1 (by omega) ?_; refine r_nil (r_fld ?_)
     (refine St.r_store0 s 2 rfl (by simp) rfl ?_; intro h s; try simp only [P2] at s)
     refine r_nil (r_fld (St.r_load0 s 4 rfl rfl (r_nil (r_fld (St.r_load0 s 0 rfl rfl (r_nil ?_))))))
     refine r_fld (St.r_load0 s 0 rfl rfl ?_)
     refine Own.lenV (by assumption) ?_; refine r_sub1 (by omega) (by omega) ?_
     (refine Own.idx (by assumption) rfl (by first | omega | (simp; done) | (simp; omega)) ?_)
     refine s.r_loadF encl 1 rfl (by assumption) ?_
     (refine Own.idx (by assumption) rfl (by first | omega | (simp; done) | (simp; omega)) ?_)
     (refine s.r_storeF encl 5 rfl (by first | omega | (simp; done) | (simp; omega)) (enc1 _) ?_; intro h s; try simp only [P2] at s)
     refine r_nil (r_fld (St.r_load0 s 0 rfl rfl (r_nil (r_fld (St.r_load0 s 0 rfl rfl ?_)))))
     refine Own.lenV (by assumption) ?_; refine r_sub1 (by omega) (by omega) ?_; refine r_nil (r_fld ?_)
     refine s.r_lzE hT4 0 (enc emp) rfl (by simp) rfl ?_
     (refine Own.idx (by assumption) rfl (by first | omega | (simp; done) | (simp; omega)) ?_)
     (refine s.r_storeF encl 1 rfl (by first | omega | (simp; done) | (simp; omega)) (enc1 _) ?_; intro h s; try simp only [P2] at s)
     refine r_nil (r_fld (St.r_load0 s 0 rfl rfl (r_nil (r_fld (St.r_load0 s 0 rfl rfl ?_)))))
     refine Own.lenV (by assumption) ?_; refine r_sub1 (by omega) (by omega) ?_; rw [ins_steps r.nd.its emp y (Nat.zero_le _), ins0] at s
     have wr2 : Own 2 riv1 (y :: r.nd.its).length rib1 rio1 ((y :: r.nd.its).flatMap enc) risp1 := wr1.list encl (by simp)
     rw [setAt hP] at s; refine (wl.list encl (pop_len (e := emp))).slcHi encl rfl (by rw [pop_len]; omega) fun liv2 wl2 => ?_
     have s := s.del (f := enc) 1 rfl _ (pop_steps (e := emp) hL)
     rw [pop_steps (e := emp) hL] at wl2; refine r_nil (r_fld ?_)
     (refine St.r_store0 s 0 rfl (by simp) (Own.one (by assumption)) ?_; intro h s; try simp only [P2] at s)
     refine r_nil (r_fld (St.r_load0 s 0 rfl rfl ?_))
     refine r_sub1 (by omega) (by omega) ?_; refine r_nil (r_fld ?_)
     (refine St.r_store0 s 0 rfl (by simp) rfl ?_; intro h s; try simp only [P2] at s)
     have w2 : Own 2 iv (P ++ z :: S).length ib io ((P ++ z :: S).flatMap enc) isp := w.list encl (by simp)
     cases k with
     | zero =>
      refine leaf_ok (a := none) (s.cl0 0 rfl rfl) ?_; refine r_not ?_; refine r_if (fun e => absurd e (by simp)) (fun _ => ?_)
      have s := St.kids0 s
      obtain ⟨l', hl1', gl', hl2', hl3', hl4'⟩ := mk_leaf (iso := is') (n := l.id) wl2; obtain ⟨r', hr1', gr', hr2', hr3', hr4'⟩ := mk_leaf (iso := is') (n := r.id) wr2
      have wK2 : Own 1 kv (((A ++ l' :: r' :: B).map GT.id).map pp).length krb kro ((((A ++ l' :: r' :: B).map GT.id).map pp).flatMap fv) ksp := by rw [ids_pp, hl1', hr1']; exact wK
      obtain ⟨t', ht1, gt, ht2, ht3, ht4⟩ := mk_inner (n := n) (kb := kb) (iso := is') w2 wK2 (by simp; omega) (fun c hc => by
       rcases List.mem_append.1 hc with h | h
       · exact gA c h
       · rcases List.mem_cons.1 h with h | h
         · subst h; exact gl'
         · rcases List.mem_cons.1 h with h | h
           · subst h; exact gr'
           · exact gB c h)
      have hfl' : l'.pt.Fl m (m / 2) := by rw [hl2']; exact fl_leaf (by omega) (by omega)
      have hfr' : r'.pt.Fl m (m / 2) := by rw [hr2']; exact fl_leaf (by simp; omega) (by simp; omega)
      refine (fun M => H t' h M (s.perm ?_)) ?_
      rotate_left
      · refine mended_two rfl ht2 (by omega) (by omega) ht1 gt hab hlm hfl' hfr' ?_ hP ⟨by omega, .inl ⟨hgt, ?_⟩⟩
        · rw [hl2', hr2']
          show l.nd.its ++ y :: r.nd.its = L ++ z :: (y :: r.nd.its)
          rw [hL]; simp
        · rw [hl2', hr2']
          show (l.nd.its.dropLast, l.nd.its.getLast?.getD y, y :: r.nd.its) = (L, z, y :: r.nd.its)
          rw [hL]; simp
      have e1 := M.2.1
      rw [ht2] at e1
      have e1 : ((PT.items (h := 1) (P ++ z :: S, (A ++ l' :: r' :: B).map GT.pt)).length : Int) = cnt := by rw [hcn, e1]; rfl
      have e2 : (A ++ l' :: r' :: B).flatMap (GT.all enc) = A.flatMap (GT.all enc) ++ (l'.all enc ++ (r'.all enc ++ B.flatMap (GT.all enc))) := by rw [List.flatMap_append, List.flatMap_cons, List.flatMap_cons]
      have e3 : l.pt.items.length = l.nd.its.length := rfl
      have e4 : r.pt.items.length = r.nd.its.length := rfl
      rw [ht4, e1, e2, hl4', hr4', ids_pp, hl1', hr1', e3, e4, hLl, List.length_cons, Nat.add_sub_cancel]
      ((apply perm_rg; intro f; simp only [PS]; ac_rfl))
     | succ k =>
      obtain ⟨dl, lk⟩ := l; obtain ⟨dr, rk⟩ := r; refine leaf_ok (a := some ⟨dl.kb, 0, none⟩) (s.cl0 0 rfl rfl) ?_; refine r_not ?_; refine r_if (fun _ => ?_) (fun e => absurd e (by simp))
      have s := St.kids8 s
      have s : St h0 Z ((dl.n, 0, [_, _, _, ptr dl.kb 0]) :: _ :: (dr.n, 0, [_, _, _, ptr dr.kb 0]) :: _ :: _ :: _ :: _ :: _ :: (dl.kb, 0, [dl.kv]) :: (dl.krb, dl.kro, ((lk.map GT.id).map pp).flatMap fv ++ dl.ksp) :: (dr.kb, 0, [dr.kv]) :: (dr.krb, dr.kro, ((rk.map GT.id).map pp).flatMap fv ++ dr.ksp) ::
       (lk.flatMap (GT.all enc) ++ (rk.flatMap (GT.all enc) ++ (A.flatMap (GT.all enc) ++ (B.flatMap (GT.all enc) ++ E))))) h := s
      have wLK : Own 1 dl.kv ((lk.map GT.id).map pp).length dl.krb dl.kro (((lk.map GT.id).map pp).flatMap fv) dl.ksp := gl.ownK
      have wRK : Own 1 dr.kv ((rk.map GT.id).map pp).length dr.krb dr.kro (((rk.map GT.id).map pp).flatMap fv) dr.ksp := gr.ownK
      have hlk : lk.length = dl.its.length + 1 := gl.wf.2.2.1
      have hrk : rk.length = dr.its.length + 1 := gr.wf.2.2.1
      have hdl : dl.its.length ≤ m := ll.2
      have hdr : dr.its.length ≤ m := lr.2
      have hLl : dl.its.length = L.length + 1 := hLl
      obtain ⟨lk', c, ec⟩ := last_of (show 1 ≤ lk.length by omega)
      have hrkL : ((rk.map GT.id).map pp).length = dr.its.length + 1 := by rw [List.length_map, List.length_map]; exact hrk
      have hlkL : ((lk.map GT.id).map pp).length = dl.its.length + 1 := by rw [List.length_map, List.length_map]; exact hlk
      have hlkE : (lk.map GT.id).map pp = (lk'.map GT.id).map pp ++ [ptr c.id 0] := by rw [ec]; simp
      have hlast : ((lk.map GT.id).map pp)[((lk.map GT.id).map pp).length - 1]? = some (ptr c.id 0) := by rw [hlkE]; simp
      refine r_nil (r_fld (St.r_load0 s 2 rfl rfl (r_nil (r_fld (St.r_load0 s 2 rfl rfl (r_nil ?_))))))
      refine St.r_load0 s 10 rfl rfl ?_; refine St.r_mkSl (sz := 1) (cs := [.pointer none]) s (by ((simp only [fillV, fill1, Value.cells, Nat.reduceAdd, Nat.reduceMul, Nat.reduceLeDiff, Nat.reduceEqDiff, reduceIte, PF] <;> rfl))) rfl fun q h s w1 => ?_; refine And.intro (by exact St.r_still0 s 3 rfl rfl) ?_; refine And.intro (by exact St.r_still0 s 3 rfl rfl) ?_; refine And.intro (by exact St.r_still0 s 11 rfl rfl) ?_; refine s.r_appL (f := fv) (L := (rk.map GT.id).map pp) (M := [.pointer none]) 12 rfl wRK rfl (w1.rdl s 0 rfl) (fun _ h => by simp [one1, List.mem_singleton.1 h]) (by simp; omega) (by simp; omega) fun rkv1 rkb1 rko1 rks1 h s wRK1 => ?_
      have s := s.tail rfl
      refine And.intro (by exact St.r_still0 s 2 rfl rfl) ?_; refine r_nil ?_
      (refine St.r_store0 s 10 rfl (by simp) (Own.one (by assumption)) ?_; intro h s; try simp only [P2] at s)
      refine r_nil (r_fld (St.r_load0 s 2 rfl rfl (r_nil (St.r_load0 s 10 rfl rfl ?_))))
      refine wRK1.slcLo fvl (i := 1) rfl (by simp) fun dd wd2 => ?_; refine r_nil (r_fld (St.r_load0 s 2 rfl rfl (r_nil (St.r_load0 s 10 rfl rfl ?_))))
      refine s.r_cpyF fvl 11 (L := (rk.map GT.id).map pp ++ [Value.pointer none]) (M := ((rk.map GT.id).map pp ++ [Value.pointer none]).drop 0) rfl wd2 (by simp; omega) (wRK1.rdl s 11 rfl).z0 rfl (fun y hy => by
       rw [List.drop_zero] at hy
       rcases List.mem_append.1 hy with hy | hy
       · obtain ⟨a, _, rfl⟩ := List.mem_map.1 hy; simp [one1]
       · rw [List.mem_singleton.1 hy]; simp [one1]) fun h s => ?_
      refine r_nil (r_fld (St.r_load0 s 2 rfl rfl (r_nil (St.r_load0 s 10 rfl rfl (r_nil (r_fld ?_))))))
      refine St.r_load0 s 0 rfl rfl (r_nil (St.r_load0 s 8 rfl rfl (r_nil (r_fld (St.r_load0 s 0 rfl rfl (r_nil ?_))))))
      refine St.r_load0 s 8 rfl rfl ?_; refine Own.lenV (by assumption) ?_; refine r_sub1 (by omega) (by omega) ?_
      (refine Own.idx (by assumption) rfl (by first | omega | (simp; done) | (simp; omega)) ?_)
      refine s.r_loadV 9 rfl (by assumption) ?_
      (refine Own.idx (by assumption) rfl (by first | omega | (simp; done) | (simp; omega)) ?_)
      (refine s.r_storeV 11 rfl (by first | omega | (simp; done) | (simp; omega)) rfl ?_; intro h s; try simp only [P2] at s)
      refine r_nil (r_fld (St.r_load0 s 0 rfl rfl (r_nil (St.r_load0 s 8 rfl rfl (r_nil (r_fld ?_))))))
      refine St.r_load0 s 0 rfl rfl (r_nil (St.r_load0 s 8 rfl rfl ?_))
      refine Own.lenV (by assumption) ?_; refine r_sub1 (by omega) (by omega) ?_
      (refine Own.idx (by assumption) rfl (by first | omega | (simp; done) | (simp; omega)) ?_)
      (refine s.r_storeV 9 rfl (by first | omega | (simp; done) | (simp; omega)) rfl ?_; intro h s; try simp only [P2] at s)
      refine r_nil (r_fld (St.r_load0 s 0 rfl rfl (r_nil (r_fld (St.r_load0 s 0 rfl rfl (r_nil ?_))))))
      refine St.r_load0 s 8 rfl rfl (r_nil (r_fld (St.r_load0 s 0 rfl rfl (r_nil (St.r_load0 s 8 rfl rfl ?_)))))
      refine Own.lenV (by assumption) ?_; refine r_sub1 (by omega) (by omega) ?_; rw [ins_steps ((rk.map GT.id).map pp) (.pointer none) (ptr c.id 0) (Nat.zero_le _), ins0] at s
      have wRK2 : Own 1 rkv1 (ptr c.id 0 :: (rk.map GT.id).map pp).length rkb1 rko1 ((ptr c.id 0 :: (rk.map GT.id).map pp).flatMap fv) rks1 := wRK1.list fvl (by simp)
      clear wRK1; refine (wLK.list fvl (pop_len (e := .pointer none))).slcHi fvl rfl (by rw [pop_len]; omega) fun lkv2 wLK2 => ?_
      have s := s.del (f := fv) 9 rfl _ (pop_steps (e := .pointer none) hlkE)
      rw [pop_steps (e := .pointer none) hlkE] at wLK2; obtain ⟨a1, a2, a3, hcm⟩ := GT.topA (t := c)
      have hcl : c ∈ lk := by rw [ec]; simp
      have gc : Gd is' c := gl.kid hcl
      have hcm' : (c.id, 0, [a1, .int .i64 c.nd.cnt, a2, a3]) ∈ lk.flatMap (GT.all enc) := List.mem_flatMap.2 ⟨c, hcl, hcm⟩
      rw [gc.cntEq] at hcm'
      have hL' : dl.its = L ++ [z] := hL
      have hlk'l : lk'.length = L.length + 1 := by rw [ec] at hlk; simp at hlk; omega
      have hlI : (GT.pt (h := k + 1) (dl, lk)).items = inter L ((lk'.map GT.pt).map PT.items) ++ z :: c.pt.items := by
       show inter dl.its ((lk.map GT.pt).map PT.items) = _
       rw [ec, hL', List.map_append, List.map_append]; exact inter_snoc _ _ _ _ (by simp; omega)
      have hlL := congrArg List.length hlI
      rw [List.length_append, List.length_cons] at hlL
      have hc0 : (ptr c.id 0 :: (rk.map GT.id).map pp)[0]? = some (ptr c.id 0) := rfl
      refine r_nil ?_
      (refine St.r_store0 s 8 rfl (by simp) (Own.one (by assumption)) ?_; intro h s; try simp only [P2] at s)
      refine r_nil (r_fld (St.r_load0 s 0 rfl rfl (r_nil (r_fld (St.r_load0 s 2 rfl rfl (r_nil ?_))))))
      refine St.r_load0 s 10 rfl rfl ?_
      (refine Own.idx (by assumption) rfl (by first | omega | (simp; done) | (simp; omega)) ?_)
      refine s.r_loadI 11 0 rfl rfl rfl ?_; refine r_nil (r_fld ?_)
      refine s.r_loadD 12 (List.mem_append.2 (.inl hcm')) rfl ?_; refine r_subN (by omega) (by omega) ?_; refine r_nil (r_fld ?_)
      (refine St.r_store0 s 0 rfl (by simp) rfl ?_; intro h s; try simp only [P2] at s)
      refine r_nil (r_fld (St.r_load0 s 2 rfl rfl (r_nil (r_fld (St.r_load0 s 2 rfl rfl (r_nil ?_))))))
      refine St.r_load0 s 10 rfl rfl ?_
      (refine Own.idx (by assumption) rfl (by first | omega | (simp; done) | (simp; omega)) ?_)
      refine s.r_loadI 11 0 rfl rfl rfl ?_; refine r_nil (r_fld ?_)
      refine s.r_loadD 12 (List.mem_append.2 (.inl hcm')) rfl ?_; refine r_addN (by omega) ?_; refine r_nil (r_fld ?_)
      (refine St.r_store0 s 2 rfl (by simp) rfl ?_; intro h s; try simp only [P2] at s)
      obtain ⟨l', hl1', gl', hl2', hl3', hl4'⟩ := mk_inner (iso := is') (n := dl.n) (kb := dl.kb) (ts := lk') wl2 wLK2 hlk'l (fun q hq => gl.kid (by rw [ec]; exact List.mem_append.2 (.inl hq)))
      obtain ⟨r', hr1', gr', hr2', hr3', hr4'⟩ := mk_inner (iso := is') (n := dr.n) (kb := dr.kb) (ts := c :: rk) wr2 wRK2 (by show _ = (y :: dr.its).length + 1; simp; omega) (fun q hq => by
       rcases List.mem_cons.1 hq with h | h
       · rw [h]; exact gc
       · exact gr.kid h)
      have wK2 : Own 1 kv (((A ++ l' :: r' :: B).map GT.id).map pp).length krb kro ((((A ++ l' :: r' :: B).map GT.id).map pp).flatMap fv) ksp := by rw [ids_pp, hl1', hr1']; exact wK
      obtain ⟨t', ht1, gt, ht2, ht3, ht4⟩ := mk_inner (n := n) (kb := kb) (iso := is') w2 wK2 (by simp; omega) (fun c hc => by
       rcases List.mem_append.1 hc with h | h
       · exact gA c h
       · rcases List.mem_cons.1 h with h | h
         · subst h; exact gl'
         · rcases List.mem_cons.1 h with h | h
           · subst h; exact gr'
           · exact gB c h)
      have fkl : ∀ q ∈ lk, PT.Fl m (m / 2) q.pt := fun q hq => fl0.2.2.2 _ (List.mem_map.2 ⟨q, hq, rfl⟩)
      have fkr : ∀ q ∈ rk, PT.Fl m (m / 2) q.pt := fun q hq => fr0.2.2.2 _ (List.mem_map.2 ⟨q, hq, rfl⟩)
      have hgt2 : dr.its.length < dl.its.length := hgt
      have hlr2 : (dl.its.length + 1 = m / 2 ∧ m / 2 ≤ dr.its.length) ∨ (m / 2 ≤ dl.its.length ∧ dr.its.length + 1 = m / 2) := hlr
      have hge2 : m ≤ dl.its.length + dr.its.length := hge
      have hfl' : l'.pt.Fl m (m / 2) := by
       rw [hl2']; refine fl_inner (by omega) (by omega) (by simp; omega) fun q hq => ?_; obtain ⟨x, hx, rfl⟩ := List.mem_map.1 hq; exact fkl x (by rw [ec]; exact List.mem_append.2 (.inl hx))
      have hfr' : r'.pt.Fl m (m / 2) := by
       rw [hr2']; refine fl_inner (by show m / 2 ≤ (y :: dr.its).length; simp; omega) (by show (y :: dr.its).length ≤ m; simp; omega) (by show _ = (y :: dr.its).length + 1; simp; omega) fun q hq => ?_; obtain ⟨x, hx, rfl⟩ := List.mem_map.1 hq
       rcases List.mem_cons.1 hx with h | h
       · rw [h]; exact fkl c hcl
       · exact fkr x h
      have hl'I : l'.pt.items = inter L ((lk'.map GT.pt).map PT.items) := by rw [hl2']; rfl
      have hr'I : r'.pt.items = c.pt.items ++ y :: (GT.pt (h := k + 1) (dr, rk)).items := by rw [hr2']; rfl
      refine (fun M => H t' h M (s.perm ?_)) ?_
      rotate_left
      · refine mended_two rfl ht2 (by omega) (by omega) ht1 gt hab hlm hfl' hfr' (by rw [hlI, hl'I, hr'I]; simp) hP ⟨by show ¬ dl.its.length + dr.its.length < m; omega, .inl ⟨hgt, ?_⟩⟩
        rw [hl2', hr2']
        show ((dl.its.dropLast, (lk.map GT.pt).dropLast), dl.its.getLast?.getD y, (y :: dr.its, (lk.map GT.pt).getLast?.toList ++ rk.map GT.pt)) = ((L, lk'.map GT.pt), z, (y :: dr.its, (c :: rk).map GT.pt))
        have hL' : dl.its = L ++ [z] := hL
        rw [hL', ec]; simp
      have e1 := M.2.1
      rw [ht2] at e1
      have e1 : ((PT.items (h := k + 2) (P ++ z :: S, (A ++ l' :: r' :: B).map GT.pt)).length : Int) = cnt := by rw [hcn, e1]; rfl
      have e2 : (A ++ l' :: r' :: B).flatMap (GT.all enc) = A.flatMap (GT.all enc) ++ (l'.all enc ++ (r'.all enc ++ B.flatMap (GT.all enc))) := by rw [List.flatMap_append, List.flatMap_cons, List.flatMap_cons]
      have e3 : (PT.items (h := k + 1) (y :: (GT.nd (h := k + 1) (dr, rk)).its, (c :: rk).map GT.pt)).length = (GT.pt (h := k + 1) (dr, rk)).items.length + 1 + c.pt.items.length := by
       have := congrArg List.length hr'I
       rw [hr2'] at this; rw [List.length_append, List.length_cons] at this; exact this.trans (by omega)
      have e4 : (PT.items (h := k + 1) (L, lk'.map GT.pt)).length = (GT.pt (h := k + 1) (dl, lk)).items.length - 1 - c.pt.items.length := by
       show (inter L ((lk'.map GT.pt).map PT.items)).length = _
       omega
      have e5 : lk.flatMap (GT.all enc) = lk'.flatMap (GT.all enc) ++ c.all enc := by rw [ec, List.flatMap_append, List.flatMap_singleton]
      rw [ht4, e1, e2, hl4', hr4', ids_pp, hl1', hr1', e3, e4]
      have e6 : (c :: rk).flatMap (GT.all enc) = c.all enc ++ rk.flatMap (GT.all enc) := List.flatMap_cons
      have e7 : (((c :: rk).map GT.id).map pp) = ptr c.id 0 :: (rk.map GT.id).map pp := rfl
      rw [e5, e6, e7]
      ((apply perm_rg; intro f; simp only [PS]; ac_rfl))
   · have hle : l.nd.its.length ≤ r.nd.its.length := by have := of_decide_eq_false hle; omega
     refine r_nil (r_fld (St.r_load0 s 0 rfl rfl (r_nil (r_fld (St.r_load0 s 4 rfl rfl ?_)))))
     (refine Own.idx (by assumption) rfl (by first | omega | (simp; done) | (simp; omega)) ?_)
     refine s.r_loadF encl 5 rfl (by assumption) ?_; refine St.r_mkSl (sz := 2) (cs := enc y) s (by ((simp only [fillV, fill1, Value.cells, Nat.reduceAdd, Nat.reduceMul, Nat.reduceLeDiff, Nat.reduceEqDiff, reduceIte, PF] <;> rfl))) rfl fun q h s w1 => ?_; refine And.intro (by exact St.r_still0 s 1 rfl rfl) ?_; refine s.r_appL (M := [y]) 2 rfl wl rfl (by have := w1.rdl s 0 rfl; simpa using this) (fun _ _ => enc1 _) (by simp; omega) (by simp; omega) fun liv1 lib1 lio1 lisp1 h s wl1 => ?_
     have s := s.tail rfl
     refine r_nil (r_fld ?_)
     (refine St.r_store0 s 0 rfl (by simp) (Own.one (by assumption)) ?_; intro h s; try simp only [P2] at s)
     refine r_nil (r_fld (St.r_load0 s 0 rfl rfl ?_))
     refine r_add1 (by omega) ?_; refine r_nil (r_fld ?_)
     (refine St.r_store0 s 0 rfl (by simp) rfl ?_; intro h s; try simp only [P2] at s)
     refine r_nil (r_fld (St.r_load0 s 4 rfl rfl (r_nil (r_fld (St.r_load0 s 2 rfl rfl ?_)))))
     (refine Own.idx (by assumption) rfl (by first | omega | (simp; done) | (simp; omega)) ?_)
     (refine s.r_loadF encl 3 rfl (List.getElem?_eq_getElem (by first | omega | (simp; done) | (simp; omega))) ?_)
     (refine Own.idx (by assumption) rfl (by first | omega | (simp; done) | (simp; omega)) ?_)
     (refine s.r_storeF encl 5 rfl (by first | omega | (simp; done) | (simp; omega)) (enc1 _) ?_; intro h s; try simp only [P2] at s)
     refine r_nil (r_fld (St.r_load0 s 2 rfl rfl (r_nil (r_fld (St.r_load0 s 2 rfl rfl ?_)))))
     refine (wr.rdl s 3 rfl).slcLo encl (i := 1) rfl (by omega) fun src rs => ?_; refine s.r_cpyF encl 3 (L := r.nd.its) (M := r.nd.its.drop 1) rfl wr.z0 (by simp) rs rfl (fun y _ => enc1 y) fun h s => ?_; refine r_nil (r_fld (St.r_load0 s 2 rfl rfl (r_nil (r_fld (St.r_load0 s 2 rfl rfl ?_)))))
     refine Own.lenV (by assumption) ?_; refine r_sub1 (by omega) (by omega) ?_; refine r_nil (r_fld ?_)
     refine s.r_lzE hT4 0 (enc emp) rfl (by simp) rfl ?_
     (refine Own.idx (by assumption) rfl (by first | omega | (simp; done) | (simp; omega)) ?_)
     (refine s.r_storeF encl 3 rfl (by first | omega | (simp; done) | (simp; omega)) (enc1 _) ?_; intro h s; try simp only [P2] at s)
     refine r_nil (r_fld (St.r_load0 s 2 rfl rfl (r_nil (r_fld (St.r_load0 s 2 rfl rfl ?_)))))
     refine Own.lenV (by assumption) ?_; refine r_sub1 (by omega) (by omega) ?_
     have hr0 : 0 < r.nd.its.length := by omega
     refine (wr.list encl (del_len r.nd.its emp hr0)).slcHi encl rfl (by rw [del_len _ _ hr0]; omega) fun riv2 wr2 => ?_
     have s := s.del (f := enc) 3 rfl _ (del_erase r.nd.its emp hr0)
     rw [del_erase r.nd.its emp hr0] at wr2; refine r_nil (r_fld ?_)
     (refine St.r_store0 s 2 rfl (by simp) (Own.one (by assumption)) ?_; intro h s; try simp only [P2] at s)
     refine r_nil (r_fld (St.r_load0 s 2 rfl rfl ?_))
     refine r_sub1 (by omega) (by omega) ?_; refine r_nil (r_fld ?_)
     (refine St.r_store0 s 2 rfl (by simp) rfl ?_; intro h s; try simp only [P2] at s)
     obtain ⟨z, R, hR⟩ := head_of (show 1 ≤ r.nd.its.length by omega)
     have hz : r.nd.its[0]'(by omega) = z := by simp [hR]
     have hR0 : r.nd.its.eraseIdx 0 = R := by rw [hR]; rfl
     have hRl : r.nd.its.length = R.length + 1 := by rw [hR]; rfl
     rw [hz, setAt hP] at s; rw [hR0] at s wr2
     have w2 : Own 2 iv (P ++ z :: S).length ib io ((P ++ z :: S).flatMap enc) isp := w.list encl (by simp)
     cases k with
     | zero =>
      refine leaf_ok (a := none) (s.cl0 0 rfl rfl) ?_; refine r_not ?_; refine r_if (fun e => absurd e (by simp)) (fun _ => ?_)
      have s := St.kids0 s
      obtain ⟨l', hl1', gl', hl2', hl3', hl4'⟩ := mk_leaf (iso := is') (n := l.id) wl1; obtain ⟨r', hr1', gr', hr2', hr3', hr4'⟩ := mk_leaf (iso := is') (n := r.id) wr2
      have wK2 : Own 1 kv (((A ++ l' :: r' :: B).map GT.id).map pp).length krb kro ((((A ++ l' :: r' :: B).map GT.id).map pp).flatMap fv) ksp := by rw [ids_pp, hl1', hr1']; exact wK
      obtain ⟨t', ht1, gt, ht2, ht3, ht4⟩ := mk_inner (n := n) (kb := kb) (iso := is') w2 wK2 (by simp; omega) (fun c hc => by
       rcases List.mem_append.1 hc with h | h
       · exact gA c h
       · rcases List.mem_cons.1 h with h | h
         · subst h; exact gl'
         · rcases List.mem_cons.1 h with h | h
           · subst h; exact gr'
           · exact gB c h)
      have hfl' : l'.pt.Fl m (m / 2) := by rw [hl2']; exact fl_leaf (by simp; omega) (by simp; omega)
      have hfr' : r'.pt.Fl m (m / 2) := by rw [hr2']; exact fl_leaf (by omega) (by omega)
      have hx : l.pt.items ++ y :: r.pt.items = l'.pt.items ++ z :: r'.pt.items := by
       rw [hl2', hr2']
       show l.nd.its ++ y :: r.nd.its = (l.nd.its ++ [y]) ++ z :: R
       rw [hR]; simp
      have M := mended_two (t := ((⟨own, n, is', cnt, P ++ y :: S, iv, ib, io, isp, kb, kv, krb, kro, ksp⟩ : Nd It), A ++ l :: r :: B)) (iso := is') rfl ht2 (by omega) (by omega) ht1 gt hab hlm hfl' hfr' hx hP ⟨by omega, .inr ⟨by omega, by
       rw [hl2', hr2']
       show (l.nd.its ++ [y], r.nd.its.head?.getD y, r.nd.its.tail) = (l.nd.its ++ [y], z, R)
       rw [hR]; rfl⟩⟩
      refine H t' h M (s.perm ?_)
      have e1 : ((PT.items (h := 1) (P ++ z :: S, (A ++ l' :: r' :: B).map GT.pt)).length : Int) = cnt := by have := M.2.1; rw [ht2] at this; rw [hcn, this]; rfl
      have e2 : (A ++ l' :: r' :: B).flatMap (GT.all enc) = A.flatMap (GT.all enc) ++ (l'.all enc ++ (r'.all enc ++ B.flatMap (GT.all enc))) := by rw [List.flatMap_append, List.flatMap_cons, List.flatMap_cons]
      have e3 : l.pt.items.length = l.nd.its.length := rfl
      have e4 : r.pt.items.length = r.nd.its.length := rfl
      rw [ht4, e1, e2, hl4', hr4', ids_pp, hl1', hr1', e3, e4, hRl, List.length_append, List.length_singleton, Nat.add_sub_cancel]
      ((apply perm_rg; intro f; simp only [PS]; ac_rfl))
     | succ k =>
      obtain ⟨dl, lk⟩ := l; obtain ⟨dr, rk⟩ := r; refine leaf_ok (a := some ⟨dl.kb, 0, none⟩) (s.cl0 0 rfl rfl) ?_; refine r_not ?_; refine r_if (fun _ => ?_) (fun e => absurd e (by simp))
      have s := St.kids8 s
      have s : St h0 Z ((dl.n, 0, [_, _, _, ptr dl.kb 0]) :: _ :: (dr.n, 0, [_, _, _, ptr dr.kb 0]) :: _ :: _ :: _ :: _ :: _ :: (dl.kb, 0, [dl.kv]) :: (dl.krb, dl.kro, ((lk.map GT.id).map pp).flatMap fv ++ dl.ksp) :: (dr.kb, 0, [dr.kv]) :: (dr.krb, dr.kro, ((rk.map GT.id).map pp).flatMap fv ++ dr.ksp) ::
       (lk.flatMap (GT.all enc) ++ (rk.flatMap (GT.all enc) ++ (A.flatMap (GT.all enc) ++ (B.flatMap (GT.all enc) ++ E))))) h := s
      have wLK : Own 1 dl.kv ((lk.map GT.id).map pp).length dl.krb dl.kro (((lk.map GT.id).map pp).flatMap fv) dl.ksp := gl.ownK
      have wRK : Own 1 dr.kv ((rk.map GT.id).map pp).length dr.krb dr.kro (((rk.map GT.id).map pp).flatMap fv) dr.ksp := gr.ownK
      have hlk : lk.length = dl.its.length + 1 := gl.wf.2.2.1
      have hrk : rk.length = dr.its.length + 1 := gr.wf.2.2.1
      have hdl : dl.its.length ≤ m := ll.2
      have hdr : dr.its.length ≤ m := lr.2
      have hRl : dr.its.length = R.length + 1 := hRl
      obtain ⟨c, rk', ec⟩ := head_of (show 1 ≤ rk.length by omega)
      have hrkL : ((rk.map GT.id).map pp).length = dr.its.length + 1 := by rw [List.length_map, List.length_map]; exact hrk
      have hlkL : ((lk.map GT.id).map pp).length = dl.its.length + 1 := by rw [List.length_map, List.length_map]; exact hlk
      have hrk0 : 0 < ((rk.map GT.id).map pp).length := by simp; omega
      have hc0 : ((rk.map GT.id).map pp)[0]? = some (ptr c.id 0) := by rw [ec]; rfl
      refine r_nil (r_fld (St.r_load0 s 0 rfl rfl (r_nil (r_fld (St.r_load0 s 0 rfl rfl (r_nil ?_))))))
      refine St.r_load0 s 8 rfl rfl (r_nil (r_fld (St.r_load0 s 2 rfl rfl (r_nil (St.r_load0 s 10 rfl rfl ?_)))))
      (refine Own.idx (by assumption) rfl (by first | omega | (simp; done) | (simp; omega)) ?_)
      refine s.r_loadV 11 rfl (by assumption) ?_; refine St.r_mkSl (sz := 1) (cs := [ptr c.id 0]) s (by ((simp only [fillV, fill1, Value.cells, Nat.reduceAdd, Nat.reduceMul, Nat.reduceLeDiff, Nat.reduceEqDiff, reduceIte, PF] <;> rfl))) rfl fun q h s w1 => ?_; refine And.intro (by exact St.r_still0 s 1 rfl rfl) ?_; refine And.intro (by exact St.r_still0 s 1 rfl rfl) ?_; refine And.intro (by exact St.r_still0 s 9 rfl rfl) ?_; refine s.r_appL (f := fv) (L := (lk.map GT.id).map pp) (M := [pp c.id]) 10 rfl wLK rfl (w1.rdl s 0 rfl) (fun _ h => by simp [one1, List.mem_singleton.1 h]) (by simp; omega) (by simp; omega) fun lkv1 lkb1 lko1 lks1 h s wLK1 => ?_
      have s := s.tail rfl
      refine And.intro (by exact St.r_still0 s 0 rfl rfl) ?_; refine r_nil ?_
      (refine St.r_store0 s 8 rfl (by simp) (Own.one (by assumption)) ?_; intro h s; try simp only [P2] at s)
      refine r_nil (r_fld (St.r_load0 s 2 rfl rfl (r_nil (St.r_load0 s 10 rfl rfl (r_nil (r_fld ?_))))))
      refine St.r_load0 s 2 rfl rfl (r_nil (St.r_load0 s 10 rfl rfl ?_))
      refine (wRK.rdl s 11 rfl).slcLo fvl (i := 1) rfl (by simp; omega) fun src rs => ?_; refine s.r_cpyF fvl 11 (L := (rk.map GT.id).map pp) (M := ((rk.map GT.id).map pp).drop 1) rfl wRK.z0 (by simp) rs rfl (fun y hy => by obtain ⟨a, _, rfl⟩ := List.mem_map.1 (List.mem_of_mem_drop hy); simp [one1]) fun h s => ?_; refine r_nil (r_fld (St.r_load0 s 2 rfl rfl (r_nil (St.r_load0 s 10 rfl rfl (r_nil (r_fld ?_))))))
      refine St.r_load0 s 2 rfl rfl (r_nil (St.r_load0 s 10 rfl rfl ?_))
      refine Own.lenV (by assumption) ?_; refine r_sub1 (by omega) (by omega) ?_
      (refine Own.idx (by assumption) rfl (by first | omega | (simp; done) | (simp; omega)) ?_)
      (refine s.r_storeV 11 rfl (by first | omega | (simp; done) | (simp; omega)) rfl ?_; intro h s; try simp only [P2] at s)
      refine r_nil (r_fld (St.r_load0 s 2 rfl rfl (r_nil (r_fld (St.r_load0 s 2 rfl rfl (r_nil ?_))))))
      refine St.r_load0 s 10 rfl rfl (r_nil (r_fld (St.r_load0 s 2 rfl rfl (r_nil (St.r_load0 s 10 rfl rfl ?_)))))
      refine Own.lenV (by assumption) ?_; refine r_sub1 (by omega) (by omega) ?_; refine (wRK.list fvl (del_len _ (.pointer none) hrk0)).slcHi fvl rfl (by rw [del_len _ _ hrk0]; omega) fun rkv2 wRK2 => ?_
      have s := s.del (f := fv) 11 rfl _ (del_erase _ (.pointer none) hrk0)
      rw [del_erase _ (.pointer none) hrk0] at wRK2
      have hrk2 : ((rk.map GT.id).map pp).eraseIdx 0 = (rk'.map GT.id).map pp := by rw [ec]; rfl
      rw [hrk2] at s wRK2
      have hL1 : ((lk.map GT.id).map pp ++ [pp c.id]).length = dl.its.length + 2 := by rw [List.length_append, hlkL]; rfl
      have hlast : ((lk.map GT.id).map pp ++ [pp c.id])[((lk.map GT.id).map pp ++ [pp c.id]).length - 1]? = some (ptr c.id 0) := by simp
      obtain ⟨a1, a2, a3, hcm⟩ := GT.topA (t := c)
      have hcr : c ∈ rk := by rw [ec]; exact List.mem_cons_self ..
      have gc : Gd is' c := gr.kid hcr
      have hcm' : (c.id, 0, [a1, .int .i64 c.nd.cnt, a2, a3]) ∈ rk.flatMap (GT.all enc) := List.mem_flatMap.2 ⟨c, hcr, hcm⟩
      rw [gc.cntEq] at hcm'
      have hR' : dr.its = z :: R := hR
      have hrI : (GT.pt (h := k + 1) (dr, rk)).items = c.pt.items ++ z :: inter R ((rk'.map GT.pt).map PT.items) := by
       show inter dr.its ((rk.map GT.pt).map PT.items) = _
       rw [ec, hR']; rfl
      have hrL := congrArg List.length hrI
      rw [List.length_append, List.length_cons] at hrL; refine r_nil ?_
      (refine St.r_store0 s 10 rfl (by simp) (Own.one (by assumption)) ?_; intro h s; try simp only [P2] at s)
      refine r_nil (r_fld (St.r_load0 s 0 rfl rfl (r_nil (r_fld (St.r_load0 s 0 rfl rfl (r_nil ?_))))))
      refine St.r_load0 s 8 rfl rfl (r_nil (r_fld (St.r_load0 s 0 rfl rfl (r_nil (St.r_load0 s 8 rfl rfl ?_)))))
      refine Own.lenV (by assumption) ?_; refine r_sub1 (by omega) (by omega) ?_
      (refine Own.idx (by assumption) rfl (by first | omega | (simp; done) | (simp; omega)) ?_)
      refine s.r_loadV 9 rfl (by assumption) ?_; refine r_nil (r_fld ?_)
      refine s.r_loadD 12 (List.mem_append.2 (.inr (List.mem_append.2 (.inl hcm')))) rfl ?_; refine r_addN (by omega) ?_; refine r_nil (r_fld ?_)
      (refine St.r_store0 s 0 rfl (by simp) rfl ?_; intro h s; try simp only [P2] at s)
      refine r_nil (r_fld (St.r_load0 s 2 rfl rfl (r_nil (r_fld (St.r_load0 s 0 rfl rfl (r_nil ?_))))))
      refine St.r_load0 s 8 rfl rfl (r_nil (r_fld (St.r_load0 s 0 rfl rfl (r_nil (St.r_load0 s 8 rfl rfl ?_)))))
      refine Own.lenV (by assumption) ?_; refine r_sub1 (by omega) (by omega) ?_
      (refine Own.idx (by assumption) rfl (by first | omega | (simp; done) | (simp; omega)) ?_)
      refine s.r_loadV 9 rfl (by assumption) ?_; refine r_nil (r_fld ?_)
      refine s.r_loadD 12 (List.mem_append.2 (.inr (List.mem_append.2 (.inl hcm')))) rfl ?_; refine r_subN (by omega) (by omega) ?_; refine r_nil (r_fld ?_)
      (refine St.r_store0 s 2 rfl (by simp) rfl ?_; intro h s; try simp only [P2] at s)
      have eL : ((lk ++ [c]).map GT.id).map pp = (lk.map GT.id).map pp ++ [pp c.id] := by simp
      rw [← eL] at s wLK1
      obtain ⟨l', hl1', gl', hl2', hl3', hl4'⟩ := mk_inner (iso := is') (n := dl.n) (kb := dl.kb) (ts := lk ++ [c]) wl1 wLK1 (by show _ = (dl.its ++ [y]).length + 1; simp; omega) (fun q hq => by
       rcases List.mem_append.1 hq with h | h
       · exact gl.kid h
       · rw [List.mem_singleton.1 h]; exact gc)
      obtain ⟨r', hr1', gr', hr2', hr3', hr4'⟩ := mk_inner (iso := is') (n := dr.n) (kb := dr.kb) (ts := rk') wr2 wRK2 (by rw [ec] at hrk; simp at hrk; omega) (fun q hq => gr.kid (by rw [ec]; exact List.mem_cons_of_mem _ hq))
      have wK2 : Own 1 kv (((A ++ l' :: r' :: B).map GT.id).map pp).length krb kro ((((A ++ l' :: r' :: B).map GT.id).map pp).flatMap fv) ksp := by rw [ids_pp, hl1', hr1']; exact wK
      obtain ⟨t', ht1, gt, ht2, ht3, ht4⟩ := mk_inner (n := n) (kb := kb) (iso := is') w2 wK2 (by simp; omega) (fun c hc => by
       rcases List.mem_append.1 hc with h | h
       · exact gA c h
       · rcases List.mem_cons.1 h with h | h
         · subst h; exact gl'
         · rcases List.mem_cons.1 h with h | h
           · subst h; exact gr'
           · exact gB c h)
      have fkl : ∀ q ∈ lk, PT.Fl m (m / 2) q.pt := fun q hq => fl0.2.2.2 _ (List.mem_map.2 ⟨q, hq, rfl⟩)
      have fkr : ∀ q ∈ rk, PT.Fl m (m / 2) q.pt := fun q hq => fr0.2.2.2 _ (List.mem_map.2 ⟨q, hq, rfl⟩)
      have hle2 : dl.its.length ≤ dr.its.length := hle
      have hlr2 : (dl.its.length + 1 = m / 2 ∧ m / 2 ≤ dr.its.length) ∨ (m / 2 ≤ dl.its.length ∧ dr.its.length + 1 = m / 2) := hlr
      have hge2 : m ≤ dl.its.length + dr.its.length := hge
      have hfl' : l'.pt.Fl m (m / 2) := by
       rw [hl2']; refine fl_inner (by show m / 2 ≤ (dl.its ++ [y]).length; simp; omega) (by show (dl.its ++ [y]).length ≤ m; simp; omega) (by show _ = (dl.its ++ [y]).length + 1; simp; omega) fun q hq => ?_; obtain ⟨x, hx, rfl⟩ := List.mem_map.1 hq
       rcases List.mem_append.1 hx with h | h
       · exact fkl x h
       · rw [List.mem_singleton.1 h]; exact fkr c hcr
      have hfr' : r'.pt.Fl m (m / 2) := by
       rw [hr2']; refine fl_inner (by omega) (by omega) (by rw [ec] at hrk; simp at hrk; simp; omega) fun q hq => ?_; obtain ⟨x, hx, rfl⟩ := List.mem_map.1 hq; exact fkr x (by rw [ec]; exact List.mem_cons_of_mem _ hx)
      have hlI : l'.pt.items = (GT.pt (h := k + 1) (dl, lk)).items ++ y :: c.pt.items := by
       rw [hl2']
       show inter (dl.its ++ [y]) (((lk ++ [c]).map GT.pt).map PT.items) = inter dl.its ((lk.map GT.pt).map PT.items) ++ _
       rw [List.map_append, List.map_append]; exact inter_snoc _ _ _ _ (by simp; omega)
      have hr'I : r'.pt.items = inter R ((rk'.map GT.pt).map PT.items) := by rw [hr2']; rfl
      refine (fun M => H t' h M (s.perm ?_)) ?_
      rotate_left
      · refine mended_two rfl ht2 (by omega) (by omega) ht1 gt hab hlm hfl' hfr' (by rw [hrI, hlI, hr'I]; simp) hP ⟨by show ¬ dl.its.length + dr.its.length < m; omega, .inr ⟨by show ¬ dr.its.length < dl.its.length; omega, ?_⟩⟩
        rw [hl2', hr2']
        show ((dl.its ++ [y], lk.map GT.pt ++ (rk.map GT.pt).head?.toList), dr.its.head?.getD y, (dr.its.tail, (rk.map GT.pt).tail)) = ((dl.its ++ [y], (lk ++ [c]).map GT.pt), z, (R, rk'.map GT.pt))
        have hR' : dr.its = z :: R := hR
        rw [hR', ec]; simp
      have e1 := M.2.1
      rw [ht2] at e1
      have e1 : ((PT.items (h := k + 2) (P ++ z :: S, (A ++ l' :: r' :: B).map GT.pt)).length : Int) = cnt := by rw [hcn, e1]; rfl
      have e2 : (A ++ l' :: r' :: B).flatMap (GT.all enc) = A.flatMap (GT.all enc) ++ (l'.all enc ++ (r'.all enc ++ B.flatMap (GT.all enc))) := by rw [List.flatMap_append, List.flatMap_cons, List.flatMap_cons]
      have e3 : (PT.items (h := k + 1) ((GT.nd (h := k + 1) (dl, lk)).its ++ [y], (lk ++ [c]).map GT.pt)).length = (GT.pt (h := k + 1) (dl, lk)).items.length + 1 + c.pt.items.length := by
       have := congrArg List.length hlI
       rw [hl2'] at this; rw [List.length_append, List.length_cons] at this; exact this.trans (by omega)
      have e4 : (PT.items (h := k + 1) (R, rk'.map GT.pt)).length = (GT.pt (h := k + 1) (dr, rk)).items.length - 1 - c.pt.items.length := by
       show (inter R ((rk'.map GT.pt).map PT.items)).length = _
       omega
      have e5 : rk.flatMap (GT.all enc) = c.all enc ++ rk'.flatMap (GT.all enc) := by rw [ec, List.flatMap_cons]
      have e6 : (lk ++ [c]).flatMap (GT.all enc) = lk.flatMap (GT.all enc) ++ c.all enc := by rw [List.flatMap_append, List.flatMap_singleton]
      rw [ht4, e1, e2, hl4', hr4', ids_pp, hl1', hr1', e6, e3, e4]; rw [e5]
      ((apply perm_rg; intro f; simp only [PS]; ac_rfl))
theorem fl_any {m lo lo' : Nat} : ∀ {k : Nat} {t : PT It k}, t.Fl m lo → lo' ≤ t.its.length → t.Fl m lo'
 | 0, _, f, h => ⟨h, f.2⟩
 | _ + 1, _, f, h => ⟨h, f.2⟩
theorem fx_set {m lo i k : Nat} {its : List It} {ks : List (PT It k)} {c : PT It k} (f : PT.Fl m lo (h := k + 1) (its, ks)) (fc : c.Fl m (m / 2 - 1)) (its' : List It) (hl : its'.length = its.length) : PT.Fx m lo i ((its', ks.set i c) : PT It (k + 1)) := by
 obtain ⟨f1, f2, f3, f4⟩ := f; refine ⟨by show lo ≤ its'.length; rw [hl]; exact f1, by show its'.length ≤ m; rw [hl]; exact f2, by show (ks.set i c).length = its'.length + 1; rw [hl, List.length_set]; exact f3, fun j q hq => ?_⟩
 have hq : (ks.set i c)[j]? = some q := hq
 rw [List.getElem?_set] at hq
 by_cases e : i = j
 · subst e
   rw [if_pos rfl] at hq ⊢
   split at hq
   · cases hq; exact fc
   · cases hq
 · rw [if_neg e] at hq
   rw [if_neg (fun h => e h.symm)]; exact f4 q (List.mem_of_getElem? hq)
theorem topI : ∀ {k : Nat} {t : GT It k}, ∃ a1 a2 a3, (t.id, 0, [a1, a2, t.nd.iv, a3]) ∈ t.all enc
 | 0, d => ⟨_, _, _, List.mem_cons_self ..⟩
 | _ + 1, t => ⟨_, _, _, List.mem_append.2 (.inl (List.mem_cons_self ..))⟩
theorem rebalance_ok {tb m i lo : Nat} {iso mn : Int} {ctr : Option Addr} (hT0 : (tb, 0, hd0 iso ctr) ∈ Z) (hT4 : (tb, 4, hd4 mn m) ∈ Z) (hm3 : 3 ≤ m) (hm1 : m ≤ 1024) (ho : m % 2 = 1) {k : Nat} (t : GT It (k + 1))
  (fx : t.pt.Fx m lo i) (h1 : 1 ≤ t.pt.1.length) (hi : i ≤ t.pt.1.length) (hdef : ∀ c, t.pt.2[i]? = some c → c.its.length + 1 = m / 2)
  (hsz : t.pt.items.length ≤ 4611686018427387903) (g : Gd iso t) (s : St h0 Z (t.all enc ++ E) h)
  (H : ∀ (t' : GT It (k + 1)) h', Mended iso m (if i = t.pt.1.length then i - 1 else i) t t' → St h0 Z (t'.all enc ++ E) h' → Q (.tuple #[]) h') : z02_.call #[ptr tb 0, ptr t.id 0, .int .i64 i] h Q := by
 obtain ⟨f1, f2, f3, f4⟩ := fx
 have hall : ∀ c ∈ t.pt.2, PT.Fl m (m / 2 - 1) c := fun c hc => by
  obtain ⟨j, hj⟩ := List.getElem?_of_mem hc
  have := f4 j c hj
  split at this
  · exact this
  · exact this.mono (by omega)
 refine z02_.body _ _ _ _ _ ?_; unfold z02_.sh
 have main : ∀ j, j < t.pt.1.length → (j = i ∨ j + 1 = i) → j = (if i = t.pt.1.length then i - 1 else i) → z02_.j1 (ptr tb 0) (ptr t.id 0) (.int .i64 j) h Q := fun j hj hij hje => by
  rw [← hje] at H; refine rebalance_j hT0 hT4 hm3 hm1 ho t f2 hj hall (fun c c' hc hc' => ?_) (fun q c hc n1 n2 => ?_) hsz g s H
  · rcases hij with e | e
    · subst e
      refine .inl ⟨hdef c hc, ?_⟩
      have := f4 (j + 1) c' hc'
      rw [if_neg (by omega)] at this; exact this
    · refine .inr ⟨?_, hdef c' (e ▸ hc')⟩
      have := f4 j c hc
      rw [if_neg (by omega)] at this; exact this
  · have := f4 q c hc
    rw [if_neg (by omega)] at this; exact this
 have w : Own 2 t.nd.iv t.nd.its.length t.nd.ib t.nd.io (t.nd.its.flatMap enc) t.nd.isp := g.own
 have hil : t.pt.1.length = t.nd.its.length := rfl
 have s2 := s
 rw [all_eq] at s2
 have s := s2
 have s : St h0 Z ((t.id, 0, [.int .u64 t.nd.iso, .int .i64 t.nd.cnt, t.nd.iv, GT.kp t]) :: (t.nd.ib, t.nd.io, t.nd.its.flatMap enc ++ t.nd.isp) :: (GT.rest t ++ E)) h := s
 refine r_nil (r_fld (St.r_load0 s 0 rfl rfl ?_))
 refine Own.lenV (by assumption) ?_; refine r_cmpI ?_; refine r_if (fun he => ?_) (fun hn => ?_)
 · have he : i = t.nd.its.length := by simp at he; omega
   refine r_sub1 (by omega) (by omega) ?_; refine main (i - 1) (by omega) (.inr (by omega)) (by rw [if_pos (by omega)])
 · have hn : i ≠ t.nd.its.length := by simp at hn; omega
   exact main i (by omega) (.inl rfl) (by rw [if_neg (by omega)])
theorem del_after {tb m i lo n ib io kb krb kro t8 t14 pb po : Nat} {iso mn : Int} {ctr : Option Addr} {its : List It} {iv kv : Value} {isp ksp : List Value} {y z8 : It} (hT0 : (tb, 0, hd0 iso ctr) ∈ Z) (hT4 : (tb, 4, hd4 mn m) ∈ Z) (hmn : mn = ((m / 2 : Nat) : Int)) (hm3 : 3 ≤ m) (hm1 : m ≤ 1024) (ho : m % 2 = 1) {k : Nat} {ts : List (GT It k)}
  (w : Own 2 iv its.length ib io (its.flatMap enc) isp) (wK : Own 1 kv ((ts.map GT.id).map pp).length krb kro (((ts.map GT.id).map pp).flatMap fv) ksp) (gk : ∀ c ∈ ts, Gd iso c)
  (fx : PT.Fx m lo i ((its, ts.map GT.pt) : PT It (k + 1))) (h1 : 1 ≤ its.length) (hi : i ≤ its.length) (hsz : (PT.items (h := k + 1) (its, ts.map GT.pt)).length ≤ 4611686018427387903)
  (s : St h0 Z ((t14, 0, enc y) :: (t8, 0, enc z8) :: (pb, po, [ptr n 0]) :: (n, 0, [.int .u64 iso, .int .i64 (((PT.items (h := k + 1) (its, ts.map GT.pt)).length + 1 : Nat) : Int), iv, ptr kb 0]) :: (ib, io, its.flatMap enc ++ isp) :: (kb, 0, [kv]) :: (krb, kro, ((ts.map GT.id).map pp).flatMap fv ++ ksp) :: (ts.flatMap (GT.all enc) ++ E)) h)
  (H : ∀ (t' : GT It (k + 1)) h', t'.id = n → t'.pt.items = PT.items (h := k + 1) (its, ts.map GT.pt) → t'.pt.Fl m (its.length - 1) → Gd iso t' → St h0 Z ((pb, po, [ptr n 0]) :: (t'.all enc ++ E)) h' → Q (.tuple #[.agg (enc y).toArray, .bool true]) h') :
  z13_.j4 (ptr tb 0) (ptr t8 0) (ptr n 0) (.int .i64 i) (ptr t14 0) h Q := by
 have hkl : ts.length = its.length + 1 := by have := fx.2.2.1; simpa using this
 have hlm : its.length ≤ m := fx.2.1
 have hKl : ((ts.map GT.id).map pp).length = ts.length := by rw [List.length_map, List.length_map]
 obtain ⟨c, hc⟩ : ∃ c, ts[i]? = some c := ⟨ts[i]'(by omega), List.getElem?_eq_getElem (by omega)⟩
 have hcm := List.mem_of_getElem? hc
 have gc := gk c hcm
 have hck : ((ts.map GT.id).map pp)[i]? = some (ptr c.id 0) := by rw [List.getElem?_map, List.getElem?_map, hc]; rfl
 have hcp : (ts.map GT.pt)[i]? = some c.pt := by rw [List.getElem?_map, hc]; rfl
 have fc : PT.Fl m (m / 2 - 1) c.pt := by have := fx.2.2.2 i c.pt hcp; rw [if_pos rfl] at this; exact this
 have hcl : c.nd.its.length ≤ m := (fl_its fc).2
 have hcl1 : m / 2 - 1 ≤ c.nd.its.length := (fl_its fc).1
 obtain ⟨a1, a2, a3, hct⟩ := topI (t := c)
 have wc := gc.own
 have hct' : (c.id, 0, [a1, a2, c.nd.iv, a3]) ∈ ts.flatMap (GT.all enc) := List.mem_flatMap.2 ⟨c, hcm, hct⟩
 obtain ⟨t0, ht1, gt, ht2, ht3, ht4⟩ := mk_inner (n := n) (kb := kb) (iso := iso) w wK hkl gk; subst hmn; unfold z13_.j4; refine r_nil (r_fld (St.r_load0 s 3 rfl rfl ?_))
 refine r_sub1 (by omega) (by omega) ?_; refine r_nil (r_fld ?_)
 (refine St.r_store0 s 3 rfl (by simp) rfl ?_; intro h s; try simp only [P2] at s)
 refine r_nil (r_fld (St.r_load0 s 3 rfl rfl (r_nil (St.r_load0 s 5 rfl rfl ?_))))
 (refine Own.idx (by assumption) rfl (by first | omega | (simp; done) | (simp; omega)) ?_)
 refine s.r_loadV 6 rfl (by assumption) ?_; refine r_nil (r_fld ?_)
 refine s.r_loadD 7 (List.mem_append.2 (.inl hct')) rfl ?_; refine Own.lenV (by assumption) ?_; refine r_nil (r_fld ?_)
 refine s.r_lz hT4 2 rfl rfl ?_; refine r_cmpI ?_; refine r_if (fun hlt => ?_) (fun hge => ?_)
 · have hlt : c.nd.its.length < m / 2 := by have := of_decide_eq_true hlt; omega
   have s0 : St h0 Z (t0.all enc ++ ((t14, 0, enc y) :: (t8, 0, enc z8) :: (pb, po, [ptr n 0]) :: E)) h := s.perm (by rw [ht4]; simp only [Nat.add_sub_cancel]; ((apply perm_rg; intro f; simp only [PS]; ac_rfl)))
   rw [← ht1]; refine rebalance_ok hT0 hT4 hm3 hm1 ho t0 (by rw [ht2]; exact fx) (by rw [ht2]; exact h1) (by rw [ht2]; exact hi) (fun q hq => ?_) (by rw [ht2]; exact hsz) gt s0 fun t' h M s => ?_
   · rw [ht2] at hq
     have : q = c.pt := Option.some.inj (hq.symm.trans hcp)
     rw [this, GT.pt_its]; omega
   · obtain ⟨M1, M2, M3, M4, _⟩ := M
     have s : St h0 Z ((t14, 0, enc y) :: (t8, 0, enc z8) :: (pb, po, [ptr n 0]) :: (t'.all enc ++ E)) h := s.perm (by ((apply perm_rg; intro f; simp only [PS]; ac_rfl)))
     unfold z13_.j5; refine St.r_loadN0 s 0 rfl (by simp) ?_
     (refine St.r_storeN0 s 1 rfl rfl (by simp) (enc1 _) ?_; intro h s; try simp only [P2] at s)
     refine St.r_loadN0 s 1 rfl (by simp) ?_; rw [ht2] at M2 M3; exact H t' h (M1.trans ht1) M2 M3 M4 (s.drop 2)
 · have hge : m / 2 ≤ c.nd.its.length := by have := of_decide_eq_false hge; omega
   unfold z13_.j5; refine St.r_loadN0 s 0 rfl (by simp) ?_
   (refine St.r_storeN0 s 1 rfl rfl (by simp) (enc1 _) ?_; intro h s; try simp only [P2] at s)
   refine St.r_loadN0 s 1 rfl (by simp) ?_; refine H t0 h ht1 (by rw [ht2]) ?_ gt ((s.perm (E' := (t14, 0, enc y) :: (t8, 0, enc y) :: ((pb, po, [ptr n 0]) :: (t0.all enc ++ E))) ?_).drop 2)
   · rw [ht2]
     refine fl_inner (by omega) hlm (by rw [List.length_map]; exact hkl) fun q hq => ?_; obtain ⟨j, hj⟩ := List.getElem?_of_mem hq
     have := fx.2.2.2 j q hj
     split at this
     · rename_i e; subst e
       have : q = c.pt := Option.some.inj (hj.symm.trans hcp)
       rw [this]; exact fl_any fc (by rw [GT.pt_its]; exact hge)
     · exact this
   · rw [ht4]; simp only [Nat.add_sub_cancel]; ((apply perm_rg; intro f; simp only [PS]; ac_rfl))
end Go.Proofs.YthpmeccnddchpaaGreat.Ii
end
section
namespace Go.Proofs.YthpmeccnddchpaaGreat
open Go.Hp
theorem degree_ok {h : Heap} {Q : Value → Heap → Prop} {d : Int} (h1 : 2 ≤ d) (h2 : d ≤ 1073741824) (H : Q (.tuple #[.int .i64 (d - 1), .int .i64 (2 * d - 1)]) h) : z0w_.call #[.int .i64 d] h Q := by
 refine z0w_.body _ _ _ ?_; unfold z0w_.sh
 simp only [w_load1, w_loadN, w_nil, w_fld, w_idx, w_len, w_lenStr, w_cap, w_arith, w_divi, w_remi, w_cmpI, w_cmpS, w_not, w_ext, w_eqNilP, w_neNilP, w_eqB, w_pick, w_max, w_ifV, w_br, w_store1, w_storeN, w_alloc, w_box, add_mk, Nat.zero_add, Nat.add_zero, Option.some.injEq, exists_eq_left', List.getElem?_cons_zero, List.getElem?_cons_succ, List.getD_cons_zero, List.getD_cons_succ]
 refine ⟨fun e => absurd e (by simp; omega), fun _ => ⟨fun e => absurd e (by simp; omega), fun _ => ?_⟩⟩
 unfold z0w_.j1
 simp only [w_load1, w_loadN, w_nil, w_fld, w_idx, w_len, w_lenStr, w_cap, w_arith, w_divi, w_remi, w_cmpI, w_cmpS, w_not, w_ext, w_eqNilP, w_neNilP, w_eqB, w_pick, w_max, w_ifV, w_br, w_store1, w_storeN, w_alloc, w_box, add_mk, Nat.zero_add, Nat.add_zero, Option.some.injEq, exists_eq_left', List.getElem?_cons_zero, List.getElem?_cons_succ, List.getD_cons_zero, List.getD_cons_succ]
 rw [i64w (n := d * 2) (by omega) (by omega), i64w (n := d * 2 - 1) (by omega) (by omega)]
 have hd : (d * 2 - 1).tdiv 2 = d - 1 := by rw [Int.tdiv_eq_ediv_of_nonneg (by omega)]; omega
 rw [hd, i64w (n := d - 1) (by omega) (by omega), show d * 2 - 1 = 2 * d - 1 by omega]; exact ⟨by decide, H⟩
theorem degree_zero {h : Heap} {Q : Value → Heap → Prop} (H : Q (.tuple #[.int .i64 31, .int .i64 63]) h) : z0w_.call #[.int .i64 0] h Q := by
 refine z0w_.body _ _ _ ?_; unfold z0w_.sh
 simp only [w_load1, w_loadN, w_nil, w_fld, w_idx, w_len, w_lenStr, w_cap, w_arith, w_divi, w_remi, w_cmpI, w_cmpS, w_not, w_ext, w_eqNilP, w_neNilP, w_eqB, w_pick, w_max, w_ifV, w_br, w_store1, w_storeN, w_alloc, w_box, add_mk, Nat.zero_add, Nat.add_zero, Option.some.injEq, exists_eq_left', List.getElem?_cons_zero, List.getElem?_cons_succ, List.getD_cons_zero, List.getD_cons_succ]
 refine ⟨fun _ => ?_, fun e => absurd e (by simp)⟩
 unfold z0w_.j1
 simp only [w_load1, w_loadN, w_nil, w_fld, w_idx, w_len, w_lenStr, w_cap, w_arith, w_divi, w_remi, w_cmpI, w_cmpS, w_not, w_ext, w_eqNilP, w_neNilP, w_eqB, w_pick, w_max, w_ifV, w_br, w_store1, w_storeN, w_alloc, w_box, add_mk, Nat.zero_add, Nat.add_zero, Option.some.injEq, exists_eq_left', List.getElem?_cons_zero, List.getElem?_cons_succ, List.getD_cons_zero, List.getD_cons_succ]
 exact ⟨by decide, H⟩
end Go.Proofs.YthpmeccnddchpaaGreat
end
section
namespace Go.Proofs.YthpmeccnddchpaaGreat.Ii
open Go.Hp Go.Proofs.YthpmeccnddchpaaGreat
variable {h0 h : Heap} {Z E : List Rg} {Q : Value → Heap → Prop}
structure MapOk (m : Nat) (iso : Int) (g : Rt) : Prop where
 gd : rGd iso g
 fl : (rPt g).Fl m
 asc : Asc lt (rPt g).items
 m3 : 3 ≤ m
 m1 : m ≤ 1024
 odd : m % 2 = 1
theorem MapOk.none {m : Nat} {iso : Int} (m3 : 3 ≤ m) (m1 : m ≤ 1024) (odd : m % 2 = 1) : MapOk m iso none := ⟨trivial, trivial, List.Pairwise.nil, m3, m1, odd⟩
theorem init_skip {tb : Nat} {d iso cnt mn mx : Int} {ctr root : Option Addr} (s : St h0 Z ((tb, 0, hdr iso ctr root cnt mn mx) :: E) h) (hmn : mn ≠ 0) (H : Q (.tuple #[]) h) : z1d_.call #[ptr tb 0, .int .i64 d] h Q := by
 refine z1d_.body _ _ _ _ ?_; unfold z1d_.sh; refine r_nil (r_fld (St.r_load0 s 0 rfl rfl (r_cmpI ?_)))
 exact r_if (fun _ => H) (fun e => absurd e (by simpa using hmn))
theorem init_set {tb : Nat} {d a b iso cnt : Int} {ctr root : Option Addr} (s : St h0 Z ((tb, 0, hdr iso ctr root cnt 0 0) :: E) h) (hd : ∀ {h : Heap} {Q : Value → Heap → Prop}, Q (.tuple #[.int .i64 a, .int .i64 b]) h → z0w_.call #[.int .i64 d] h Q)
  (H : ∀ h', St h0 Z ((tb, 0, hdr iso ctr root cnt a b) :: E) h' → Q (.tuple #[]) h') : z1d_.call #[ptr tb 0, .int .i64 d] h Q := by
 refine z1d_.body _ _ _ _ ?_; unfold z1d_.sh; refine r_nil (r_fld (St.r_load0 s 0 rfl rfl (r_cmpI ?_)))
 refine r_if (fun e => absurd e (by decide)) (fun _ => ?_)
 unfold z1d_.j1; refine hd ?_; refine r_ext rfl (r_ext rfl (r_nil (r_fld ?_)))
 refine St.r_store0 s 0 rfl (by simp) rfl ?_; intro h s
 try simp only [P2] at s
 refine r_nil (r_fld ?_)
 refine St.r_store0 s 0 rfl (by simp) rfl ?_; intro h s
 try simp only [P2] at s
 refine r_nil (r_fld (r_fld (St.r_load0 s 0 rfl rfl (r_ext rfl (r_ext rfl (r_nil ?_))))))
 refine r_fld ?_; refine St.r_store0 s 0 rfl (by simp) rfl ?_; intro h s
 try simp only [P2] at s
 refine r_nil (r_fld (St.r_load0 s 0 rfl rfl (r_not ?_)))
 refine r_if (fun _ => ?_) (fun e => absurd e (by decide))
 refine r_nil (r_fld (r_fld (St.r_load0 s 0 rfl rfl (r_ext rfl (r_ext rfl (r_nil ?_))))))
 refine r_fld ?_; refine St.r_store0 s 0 rfl (by simp) rfl ?_; intro h s
 try simp only [P2] at s
 exact H _ s
theorem Set_first {tb : Nat} {iso mn mx mn' mx' : Int} {ctr : Option Addr} {x : It} (s : St h0 Z ((tb, 0, hdr iso ctr none 0 mn mx) :: E) h)
  (hin : ∀ {E : List Rg} {h : Heap} {Q : Value → Heap → Prop}, St h0 Z ((tb, 0, hdr iso ctr none 0 mn mx) :: E) h → (∀ h', St h0 Z ((tb, 0, hdr iso ctr none 0 mn' mx') :: E) h' → Q (.tuple #[]) h') → z1d_.call #[ptr tb 0, .int .i64 0] h Q)
  (H : ∀ (t : GT It 0) h', t.pt = ([x] : List It) → Gd iso t → St h0 Z ((tb, 0, hdr iso ctr (some ⟨t.id, 0, none⟩) 1 mn' mx') :: (t.all enc ++ E)) h' → Q (.tuple #[old none, .bool false]) h') :
  z1l_.call #[ptr tb 0, kv x.1, vv x.2] h Q := by
 refine z1l_.body _ _ _ _ _ ?_; unfold z1l_.sh
 (apply r_build; (simp only [fillV, fill1, Value.cells, Nat.reduceAdd, Nat.reduceMul, Nat.reduceLeDiff, Nat.reduceEqDiff, reduceIte, PF] <;> rfl))
 refine s.r_alloc fun t8 h s => ?_; refine St.r_storeN0 s 0 rfl rfl (by simp) (enc1 x) ?_; intro h s
 refine r_nil (r_fld (St.r_load0 s 1 rfl rfl ?_))
 refine r_eqNilP ?_; refine r_if (fun _ => ?_) (fun e => absurd e (by simp))
 refine hin (s.front 1 rfl) fun h s => ?_; refine newNode_leaf (iso := iso) (by have := s.get (k := 0) (j := 0) rfl (by simp); simpa using this) fun n h s1 => ?_
 have s := s.join s1
 have s : St h0 Z ((n, 0, [.int .u64 iso, .int .i64 0, .slice none 0 0, .pointer none]) :: (tb, 0, hdr iso ctr none 0 mn' mx') :: (t8, 0, enc x) :: E) h := s
 refine r_nil (r_fld ?_)
 refine St.r_store0 s 1 rfl (by simp) rfl ?_; intro h s
 try simp only [P2] at s
 refine r_nil (r_fld (St.r_load0 s 1 rfl rfl ?_))
 refine St.r_loadN0 s 2 rfl (by simp) ?_
 have fin : ∀ {iv : Value} {ib io : Nat} {isp : List Value} {h : Heap}, Own 2 iv 1 ib io (enc x) isp →
   St h0 Z ((n, 0, [.int .u64 iso, .int .i64 0, iv, .pointer none]) :: (tb, 0, hdr iso ctr (some ⟨n, 0, none⟩) 0 mn' mx') :: (ib, io, enc x ++ isp) :: (t8, 0, enc x) :: E) h →
   (nilck (ptr tb 0) fun t41 => fld 2 t41 fun t42 => load1 t42 h fun t43 => nilck t43 fun t44 => fld 1 t44 fun t45 => store1 t45 (.int .i64 1) h fun h => nilck (ptr tb 0) fun t47 => fld 3 t47 fun t48 => store1 t48 (.int .i64 1) h fun h =>
    nilck (ptr tb 0) fun t50 => fld 4 t50 fun t51 =>
    fld 0 t51 fun t52 => load1 t52 h fun t53 => Q (.tuple #[t53, (.bool false)]) h) := by
  intro iv ib io isp h wi s; refine r_nil (r_fld (St.r_load0 s 1 rfl rfl (r_nil (r_fld ?_))))
  refine St.r_store0 s 0 rfl (by simp) rfl ?_; intro h s
  try simp only [P2] at s
  refine r_nil (r_fld ?_)
  refine St.r_store0 s 1 rfl (by simp) rfl ?_; intro h s
  try simp only [P2] at s
  refine r_nil (r_fld (r_fld (St.r_load0 s 1 rfl rfl ?_)))
  exact H (⟨true, n, iso, 1, [x], iv, ib, io, isp, 0, .pointer none, 0, 0, []⟩ : Nd It) h rfl (Gd.leaf (by show Own 2 iv [x].length ib io ([x].flatMap enc) isp; simpa using wi) rfl rfl rfl)
   ((s.perm (E' := (t8, 0, enc x) :: (tb, 0, hdr iso ctr (some ⟨n, 0, none⟩) 1 mn' mx') :: (n, 0, [.int .u64 iso, .int .i64 1, iv, .pointer none]) :: (ib, io, [x].flatMap enc ++ isp) :: E) (by rw [List.flatMap_singleton]; ((apply perm_rg; intro f; simp only [PS]; ac_rfl)))).drop 1)
 constructor
 · refine St.r_mkSl (sz := 2) (cs := []) s (by ((simp only [fillV, fill1, Value.cells, Nat.reduceAdd, Nat.reduceMul, Nat.reduceLeDiff, Nat.reduceEqDiff, reduceIte, PF] <;> rfl))) rfl fun q1 h s w1 => ?_
   refine ⟨by (first | exact St.r_still0 s 0 rfl rfl | exact St.r_still0 s 1 rfl rfl | exact St.r_still0 s 2 rfl rfl | exact St.r_still0 s 3 rfl rfl | exact St.r_still0 s 4 rfl rfl | exact St.r_still0 s 5 rfl rfl | exact St.r_still0 s 6 rfl rfl), St.r_stillN0 s 3 rfl (by simp) rfl, ?_⟩
   refine St.r_mkSl (sz := 2) (cs := enc x) s (by ((simp only [fillV, fill1, Value.cells, Nat.reduceAdd, Nat.reduceMul, Nat.reduceLeDiff, Nat.reduceEqDiff, reduceIte, PF] <;> rfl))) rfl fun q2 h s w2 => ?_; refine ⟨by (first | exact St.r_still0 s 0 rfl rfl | exact St.r_still0 s 1 rfl rfl | exact St.r_still0 s 2 rfl rfl | exact St.r_still0 s 3 rfl rfl | exact St.r_still0 s 4 rfl rfl | exact St.r_still0 s 5 rfl rfl | exact St.r_still0 s 6 rfl rfl), ?_⟩
   refine St.r_app s 1 (sz := 2) (n := 1) (new := enc x) rfl w1 rfl (w2.rdl s 0 rfl) (enc1 _) (by omega) (by omega) fun iv ib io isp h s wi => ?_; refine ⟨by (first | exact St.r_still0 s 0 rfl rfl | exact St.r_still0 s 1 rfl rfl | exact St.r_still0 s 2 rfl rfl | exact St.r_still0 s 3 rfl rfl | exact St.r_still0 s 4 rfl rfl | exact St.r_still0 s 5 rfl rfl | exact St.r_still0 s 6 rfl rfl), ?_⟩
   refine r_nil (r_fld ?_)
   refine St.r_store0 s 2 rfl (by simp) wi.one ?_; intro h s
   exact fin wi ((s.perm (E' := (q2, 0, enc x ++ []) :: _) (by simp; ((apply perm_rg; intro f; simp only [PS]; ac_rfl)))).drop 1)
 · refine St.r_mkSl (sz := 2) (cs := enc x) s (by ((simp only [fillV, fill1, Value.cells, Nat.reduceAdd, Nat.reduceMul, Nat.reduceLeDiff, Nat.reduceEqDiff, reduceIte, PF] <;> rfl))) rfl fun q2 h s w2 => ?_
   refine ⟨by (first | exact St.r_still0 s 0 rfl rfl | exact St.r_still0 s 1 rfl rfl | exact St.r_still0 s 2 rfl rfl | exact St.r_still0 s 3 rfl rfl | exact St.r_still0 s 4 rfl rfl | exact St.r_still0 s 5 rfl rfl | exact St.r_still0 s 6 rfl rfl), ?_⟩
   refine St.r_mkSl (sz := 2) (cs := []) s (by ((simp only [fillV, fill1, Value.cells, Nat.reduceAdd, Nat.reduceMul, Nat.reduceLeDiff, Nat.reduceEqDiff, reduceIte, PF] <;> rfl))) rfl fun q1 h s w1 => ?_; refine ⟨by (first | exact St.r_still0 s 0 rfl rfl | exact St.r_still0 s 1 rfl rfl | exact St.r_still0 s 2 rfl rfl | exact St.r_still0 s 3 rfl rfl | exact St.r_still0 s 4 rfl rfl | exact St.r_still0 s 5 rfl rfl | exact St.r_still0 s 6 rfl rfl), ?_⟩
   refine St.r_app s 0 (sz := 2) (n := 1) (new := enc x) rfl w1 rfl (w2.rdl s 1 rfl) (enc1 _) (by omega) (by omega) fun iv ib io isp h s wi => ?_; refine ⟨by (first | exact St.r_still0 s 0 rfl rfl | exact St.r_still0 s 1 rfl rfl | exact St.r_still0 s 2 rfl rfl | exact St.r_still0 s 3 rfl rfl | exact St.r_still0 s 4 rfl rfl | exact St.r_still0 s 5 rfl rfl | exact St.r_still0 s 6 rfl rfl), ?_⟩
   refine r_nil (r_fld ?_)
   refine St.r_store0 s 2 rfl (by simp) wi.one ?_; intro h s
   exact fin wi ((s.perm (E' := (q2, 0, enc x ++ []) :: _) (by simp; ((apply perm_rg; intro f; simp only [PS]; ac_rfl)))).drop 1)
theorem hdr_cut {tb : Nat} {iso cnt mn mx : Int} {ctr root : Option Addr} (s : St h0 Z ((tb, 0, hdr iso ctr root cnt mn mx) :: E) h) : St h0 Z ((tb, 0, hd0 iso ctr) :: (tb, 4, hd4 mn mx) :: (tb, 2, [.pointer root]) :: (tb, 3, [.int .i64 cnt]) :: E) h := by
 have s1 : St h0 Z ((tb, 0, hd0 iso ctr ++ ([.pointer root] ++ ([.int .i64 cnt] ++ hd4 mn mx))) :: E) h := s
 have s2 := s1.cut
 have s3 := (s2.front 1 rfl).cut
 have s4 := (s3.front 1 rfl).cut
 exact s4.perm (E' := (tb, 0, hd0 iso ctr) :: (tb, 4, hd4 mn mx) :: (tb, 2, [.pointer root]) :: (tb, 3, [.int .i64 cnt]) :: E) (by
  show ((tb, 0, hd0 iso ctr) :: (tb, 4, hd4 mn mx) :: (tb, 2, [.pointer root]) :: (tb, 3, [.int .i64 cnt]) :: E).Perm ((tb, 3, [.int .i64 cnt]) :: (tb, 4, hd4 mn mx) :: (tb, 2, [.pointer root]) :: (tb, 0, hd0 iso ctr) :: E)
  ((apply perm_rg; intro f; simp only [PS]; ac_rfl)))
theorem hdr_glue {tb : Nat} {iso cnt mn mx : Int} {ctr root : Option Addr} (s : St h0 Z ((tb, 0, hd0 iso ctr) :: (tb, 4, hd4 mn mx) :: (tb, 2, [.pointer root]) :: (tb, 3, [.int .i64 cnt]) :: E) h) : St h0 Z ((tb, 0, hdr iso ctr root cnt mn mx) :: E) h := by
 have s1 : St h0 Z ((tb, 3, [.int .i64 cnt]) :: (tb, 3 + [Value.int .i64 cnt].length, hd4 mn mx) :: (tb, 2, [.pointer root]) :: (tb, 0, hd0 iso ctr) :: E) h := s.perm (by
  show ((tb, 3, [.int .i64 cnt]) :: (tb, 4, hd4 mn mx) :: (tb, 2, [.pointer root]) :: (tb, 0, hd0 iso ctr) :: E).Perm _
  ((apply perm_rg; intro f; simp only [PS]; ac_rfl)))
 have s2 := s1.glue
 have s3 : St h0 Z ((tb, 2, [.pointer root]) :: (tb, 2 + [Value.pointer root].length, [.int .i64 cnt] ++ hd4 mn mx) :: (tb, 0, hd0 iso ctr) :: E) h := s2.perm (by
  show ((tb, 2, [.pointer root]) :: (tb, 3, [.int .i64 cnt] ++ hd4 mn mx) :: (tb, 0, hd0 iso ctr) :: E).Perm _
  exact List.Perm.swap _ _ _)
 have s4 := s3.glue
 have s5 : St h0 Z ((tb, 0, hd0 iso ctr) :: (tb, 0 + (hd0 iso ctr).length, [.pointer root] ++ ([.int .i64 cnt] ++ hd4 mn mx)) :: E) h := s4.perm (by
  show ((tb, 0, hd0 iso ctr) :: (tb, 2, [.pointer root] ++ ([.int .i64 cnt] ++ hd4 mn mx)) :: E).Perm _
  exact List.Perm.swap _ _ _)
 exact s5.glue
theorem Set_ok {tb m : Nat} {iso mn : Int} {ctr : Option Addr} {g : Rt} {x : It} (M : MapOk m iso g) (hmn : mn ≠ 0) (hsz : (rPt g).items.length ≤ 4611686018427387903) (s : St h0 Z ((tb, 0, hdr iso ctr (rA g) (rPt g).items.length mn m) :: (rAll g ++ E)) h)
  (H : ∀ (g' : Rt) h', rPt g' = (rPt g).set lt m x → MapOk m iso g' → St h0 Z ((tb, 0, hdr iso ctr (rA g') (rPt g').items.length mn m) :: (rAll g' ++ E)) h' → Q (.tuple #[old (lget lt (rPt g).items x), .bool (lget lt (rPt g).items x).isSome]) h') :
  z1l_.call #[ptr tb 0, kv x.1, vv x.2] h Q := by
 have key : ∀ g' : Rt, rPt g' = (rPt g).set lt m x → rGd iso g' → MapOk m iso g' := fun g' e gd => by
  obtain ⟨e1, e2⟩ := MT.set_items (x := x) swo M.odd M.m3 M.fl M.asc; exact ⟨gd, by rw [e]; exact e2, by rw [e, e1]; exact asc_lput swo M.asc, M.m3, M.m1, M.odd⟩
 cases g with
 | none =>
  refine Set_first (E := E) (mn' := mn) (mx' := m) s (fun s K => init_skip s hmn (K _ s)) fun t h' e gd s => ?_; refine H (some ⟨0, t⟩) h' ?_ ?_ ?_
  · show some (⟨0, t.pt⟩ : (j : Nat) × PT It j) = some ⟨0, ([x] : List It)⟩; rw [e]
  · refine key (some ⟨0, t⟩) ?_ gd
    show some (⟨0, t.pt⟩ : (j : Nat) × PT It j) = some ⟨0, ([x] : List It)⟩; rw [e]
  · show St h0 Z ((tb, 0, hdr iso ctr (some ⟨t.id, 0, none⟩) t.pt.items.length mn m) :: (t.all enc ++ E)) h'
    have : t.pt.items.length = 1 := by rw [e]; rfl
    rw [this]; exact s
 | some t =>
  obtain ⟨k, t⟩ := t
  have htb : h0.size ≤ tb := (s.e _ (List.mem_cons_self ..)).2 (by simp)
  have s := hdr_cut s
  obtain ⟨s1, back⟩ := St.borrow (A := [(tb, 0, hd0 iso ctr), (tb, 4, hd4 mn m)]) (E := (tb, 2, [ptr t.id 0]) :: (tb, 3, [.int .i64 t.pt.items.length]) :: (t.all enc ++ E)) s; refine Set_cut htb (List.mem_cons_self ..) (List.mem_cons_of_mem _ (List.mem_cons_self ..)) M.m1 M.m3 M.odd t M.fl M.asc hsz M.gd rfl s1 fun g' h' e1 e2 s2 => ?_; refine H (some g') h' e1 (key (some g') e1 e2) ?_; exact hdr_glue (back _ h' s2)
theorem NewMap_ok (s : St h0 Z E h) {d : Nat} (h1 : 2 ≤ d) (h2 : d ≤ 512) (H : ∀ b h', St h0 Z ((b, 0, hdr 0 none none 0 ((d - 1 : Nat) : Int) ((2 * d - 1 : Nat) : Int)) :: E) h' → Q (ptr b 0) h') : z1p_.call #[.int .i64 d] h Q := by
 refine z1p_.body _ _ _ ?_; unfold z1p_.sh; refine s.r_alloc fun b h s => ?_; refine init_set s (fun K => degree_ok (d := d) (by omega) (by omega) K) fun h' s => ?_
 have e1 : (d : Int) - 1 = ((d - 1 : Nat) : Int) := by omega
 have e2 : 2 * (d : Int) - 1 = ((2 * d - 1 : Nat) : Int) := by omega
 rw [e1, e2] at s; exact H b h' s
theorem isoLoad_ro {tr : Value} {pb po n : Nat} (hp : cl h pb po = some (ptr n 0)) (H : Q (ptr n 0) h) : z0t_.call #[tr, ptr pb po, .bool false] h Q := by
 refine z0t_.body _ _ _ _ _ ?_; unfold z0t_.sh; refine r_br (fun e => absurd e (by decide)) (fun _ => ?_)
 unfold z0t_.j1; refine r_nil ?_; exact r_ld hp H
theorem allZ_leaf {d : Nd It} (hz : ∀ r ∈ GT.all enc (h := 0) d, r ∈ Z) : (d.n, 0, [.int .u64 d.iso, .int .i64 d.cnt, d.iv, .pointer none]) ∈ Z ∧ (d.ib, d.io, d.its.flatMap enc ++ d.isp) ∈ Z := by
 have hz : ∀ r ∈ d.leaf enc, r ∈ Z := hz
 exact ⟨hz _ (List.mem_cons_self ..), hz _ (List.mem_cons_of_mem _ (List.mem_cons_self ..))⟩
theorem allZ_inner {k : Nat} {d : Nd It} {ts : List (GT It k)} (hz : ∀ r ∈ GT.all enc (h := k + 1) (d, ts), r ∈ Z) :
  (d.n, 0, [.int .u64 d.iso, .int .i64 d.cnt, d.iv, ptr d.kb 0]) ∈ Z ∧ (d.ib, d.io, d.its.flatMap enc ++ d.isp) ∈ Z ∧ (d.kb, 0, [d.kv]) ∈ Z ∧ (d.krb, d.kro, (ts.map GT.id).flatMap fp ++ d.ksp) ∈ Z ∧ ∀ c ∈ ts, ∀ r ∈ c.all enc, r ∈ Z := by
 have hz : ∀ r ∈ d.inner enc (ts.map GT.id) ++ ts.flatMap (GT.all enc), r ∈ Z := hz
 have h1 : ∀ r ∈ d.inner enc (ts.map GT.id), r ∈ Z := fun r hr => hz r (List.mem_append.2 (.inl hr))
 refine ⟨h1 _ (List.mem_cons_self ..), h1 _ (List.mem_cons_of_mem _ (List.mem_cons_self ..)), h1 _ (List.mem_cons_of_mem _ (List.mem_cons_of_mem _ (List.mem_cons_self ..))), ?_, fun c hc r hr => hz r (List.mem_append.2 (.inr (List.mem_flatMap.2 ⟨c, hc, hr⟩)))⟩
 have := h1 _ (List.mem_cons_of_mem _ (List.mem_cons_of_mem _ (List.mem_cons_of_mem _ (List.mem_cons_self ..))))
 rw [mfp] at this; exact this
theorem kidcell {k : Nat} {ts : List (GT It k)} {krb kro i : Nat} {ksp : List Value} {c : GT It k} (hk : (krb, kro, (ts.map GT.id).flatMap fp ++ ksp) ∈ Z) (hc : ts[i]? = some c) (s : St h0 Z E h) : cl h krb (kro + i * 1) = some (ptr c.id 0) := by
 have hi : i < (ts.map GT.id).length := by rw [List.length_map]; exact (List.getElem?_eq_some_iff.1 hc).1
 refine s.clz hk (i * 1) rfl ?_; rw [List.getElem?_append_left (by rw [flat_len fpl]; omega)]
 have := flat_get (f := fp) fpl (ts.map GT.id) i hi 0 (by decide)
 rw [Nat.add_zero] at this; rw [this]
 have e : (ts.map GT.id)[i] = c.id := by
  have : (ts.map GT.id)[i]? = some c.id := by rw [List.getElem?_map, hc]; rfl
  exact (List.getElem?_eq_some_iff.1 this).2
 rw [e]; rfl
theorem nodeScan_ok {cont : List It → Bool} {f tr : Value} {J : List It → Heap → Prop} {iso : Int} {m N : Nat} (hm : m ≤ 1024) (hJ : ∀ p h, J p h → ∃ E, St h0 Z E h)
  (cb : ∀ (p : List It) (x : It) (h : Heap) (K : Value → Heap → Prop), p.length < N → J p h → (∀ h', J (p ++ [x]) h' → K (.bool (cont (p ++ [x]))) h') → callV Tryz.prog f #[kv x.1, vv x.2] h K) :
  ∀ {k : Nat} (t : GT It k) {lo : Nat} (g : Gd iso t) (fl : t.pt.Fl m lo) (hz : ∀ r ∈ t.all enc, r ∈ Z) (hzb : ∀ r ∈ t.all enc, r.2.2 ≠ [] → h0.size ≤ r.1) {pb po : Nat} (hp : ∀ E h, St h0 Z E h → cl h pb po = some (ptr t.id 0)) {p : List It} {h : Heap} {Q : Value → Heap → Prop}, p.length + t.pt.items.length ≤ N → J p h →
   (∀ h', J (feed cont p t.pt.items).1 h' → Q (.bool (feed cont p t.pt.items).2) h') → z0o_.call #[tr, ptr pb po, f, .bool false] h Q
 | 0, (d : Nd It), lo, g, fl, hz, hzb, pb, po, hp, p, h, Q, hN, hj, H => by
  obtain ⟨own, n, is', cnt, its, iv, ib, io, isp, kb, kv', krb, kro, ksp⟩ := d; obtain ⟨z1, z2⟩ := allZ_leaf hz
  have w : Own 2 iv its.length ib io (its.flatMap enc) isp := g.wf.1
  have hl : its.length ≤ m := fl.2
  have hp : ∀ E h, St h0 Z E h → cl h pb po = some (ptr n 0) := hp
  have hN : p.length + its.length ≤ N := hN
  have H : ∀ h', J (feed cont p its).1 h' → Q (.bool (feed cont p its).2) h' := H
  refine z0o_.body _ _ _ _ _ _ ?_; unfold z0o_.sh; obtain ⟨E, s⟩ := hJ p h hj; refine isoLoad_ro (hp E h s) ?_; refine leaf_ok (a := none) (s.clz z1 3 rfl rfl) ?_; refine r_if (fun _ => ?_) (fun e => absurd e (by simp))
  refine loop_up (n := its.length) (fun j => [.int .i64 j]) (fun j h => (feed cont p (its.take j)).2 = true ∧ J (feed cont p (its.take j)).1 h) ⟨rfl, hj⟩ ?_
  rintro j h hjl ⟨hf, hj⟩ K HK
  obtain ⟨E, s⟩ := hJ _ h hj; unfold z0o_.l8.b; refine r_nil (r_fld ?_)
  refine s.r_lz0 z1 (j := 2) rfl ?_; refine w.lenV ?_; refine r_cmpI ?_; refine r_if (fun hlt => ?_) (fun hge => ?_)
  · have hlt : j < its.length := by simpa using hlt
    have hx : its[j]? = some its[j] := List.getElem?_eq_getElem hlt
    unfold z0o_.j9; refine r_nil (r_fld ?_)
    refine s.r_lz0 z1 (j := 2) rfl ?_; refine w.idx (n := j) rfl hlt ?_; refine r_fld ?_; refine s.r_load1FZ encl (r := 1) z2 hx rfl ?_; refine r_nil (r_fld ?_)
    refine s.r_lz0 z1 (j := 2) rfl ?_; refine w.idx (n := j) rfl hlt ?_; refine r_fld ?_; refine s.r_load1FZ encl (r := 0) z2 hx rfl ?_
    have hfl := feed_len (cont := cont) (its.take j) p
    rw [List.length_take] at hfl; refine cb _ its[j] h _ (by omega) hj fun h' hj' => ?_; refine r_not ?_
    have et : its.take (j + 1) = its.take j ++ [its[j]] := List.take_succ_eq_append_getElem hlt
    have ef : feed cont p (its.take (j + 1)) = ((feed cont p (its.take j)).1 ++ [its[j]], cont ((feed cont p (its.take j)).1 ++ [its[j]])) := by rw [et, feed_step hf, feed_one]
    refine r_if (fun hc => ?_) (fun hc => ?_)
    · have hc : cont ((feed cont p (its.take j)).1 ++ [its[j]]) = false := by simpa using hc
      have ea : feed cont p its = ((feed cont p (its.take j)).1 ++ [its[j]], false) := by
       have e0 := feed_stop (cont := cont) (p := p) (a := its.take (j + 1)) (b := its.drop (j + 1)) (by rw [ef]; exact hc)
       rw [List.take_append_drop, ef] at e0; exact e0
      have := H h' (by rw [ea]; exact hj')
      rw [ea] at this; exact this
    · have hc : cont ((feed cont p (its.take j)).1 ++ [its[j]]) = true := by simpa using hc
      unfold z0o_.j10; refine r_add (z := ((j + 1 : Nat) : Int)) (by rw [i64w (by omega) (by omega)]; omega) ?_; exact HK h' hlt ⟨by rw [ef]; exact hc, by rw [ef]; exact hj'⟩
  · have hge : j = its.length := by simp at hge; omega
    subst hge; rw [List.take_length] at hf hj; unfold z0o_.j7
    have := H h hj
    rw [hf] at this; exact this
 | k + 1, t, lo, g, fl, hz, hzb, pb, po, hp, p, h, Q, hN, hj, H => by
  obtain ⟨d, ts⟩ := t; obtain ⟨own, n, is', cnt, its, iv, ib, io, isp, kb, kv', krb, kro, ksp⟩ := d; obtain ⟨z1, z2, z3, z4, z5⟩ := allZ_inner hz
  have w : Own 2 iv its.length ib io (its.flatMap enc) isp := g.wf.1.1
  have wK : Own 1 kv' ts.length krb kro ((ts.map GT.id).map fun m => ptr m 0) ksp := g.wf.2.1
  have hkl : ts.length = its.length + 1 := g.wf.2.2.1
  have hl : its.length ≤ m := fl.2.1
  have hp : ∀ E h, St h0 Z E h → cl h pb po = some (ptr n 0) := hp
  have hpl : ∀ i, ((ts.take i).map fun t => t.pt.items) = (((ts.map GT.pt).take i).map PT.items) := fun i => by rw [← List.map_take, List.map_map]; rfl
  have hsplit : ∀ i (hi : i ≤ its.length) c, ts[i]? = some c → PT.items (h := k + 1) (its, ts.map GT.pt) = lz (its.take i) ((ts.take i).map fun t => t.pt.items) ++ (c.pt.items ++ rz (its.drop i) (((ts.map GT.pt).drop (i + 1)).map PT.items)) := by
   intro i hi c hc; obtain ⟨c', hc', _, e⟩ := PT.around (t := ((its, ts.map GT.pt) : PT It (k + 1))) fl hi
   have hc' : (ts.map GT.pt)[i]? = some c' := hc'
   rw [List.getElem?_map, hc] at hc'
   have : c' = c.pt := (Option.some.inj hc').symm
   subst this; rw [hpl]; exact e
  have hN : p.length + (PT.items (h := k + 1) (its, ts.map GT.pt)).length ≤ N := hN
  have H : ∀ h', J (feed cont p (PT.items (h := k + 1) (its, ts.map GT.pt))).1 h' → Q (.bool (feed cont p (PT.items (h := k + 1) (its, ts.map GT.pt))).2) h' := H
  refine z0o_.body _ _ _ _ _ _ ?_; unfold z0o_.sh; obtain ⟨E, s⟩ := hJ p h hj; refine isoLoad_ro (hp E h s) ?_; refine leaf_ok (a := some ⟨kb, 0, Option.none⟩) (s.clz z1 3 rfl rfl) ?_; refine r_if (fun e => absurd e (by simp)) (fun _ => ?_)
  unfold z0o_.j1; refine loop_up (n := its.length) (fun j => [.int .i64 j]) (fun j h => (feed cont p (lz (its.take j) ((ts.take j).map fun t => t.pt.items))).2 = true ∧ J (feed cont p (lz (its.take j) ((ts.take j).map fun t => t.pt.items))).1 h) ⟨rfl, hj⟩ ?_
  rintro j h hjl ⟨hf, hj⟩ K HK
  obtain ⟨E, s⟩ := hJ _ h hj; obtain ⟨c, hc⟩ : ∃ c, ts[j]? = some c := ⟨ts[j]'(by omega), List.getElem?_eq_getElem (by omega)⟩
  have hcm := List.mem_of_getElem? hc
  have hfc : PT.Fl m (m / 2) c.pt := fl.2.2.2 _ (List.mem_map.2 ⟨c, hcm, rfl⟩)
  unfold z0o_.l3.b; refine r_nil (r_fld ?_)
  refine s.r_lz0 z1 (j := 2) rfl ?_; refine w.lenV ?_; refine r_cmpI ?_; refine r_if (fun hlt => ?_) (fun hge => ?_)
  · have hlt : j < its.length := by simpa using hlt
    have hx : its[j]? = some its[j] := List.getElem?_eq_getElem hlt
    have et : its.take (j + 1) = its.take j ++ [its[j]] := List.take_succ_eq_append_getElem hlt
    have ek : ts.take (j + 1) = ts.take j ++ [c] := by rw [List.take_add_one, hc]; rfl
    have ez : lz (its.take (j + 1)) ((ts.take (j + 1)).map fun t => t.pt.items) = lz (its.take j) ((ts.take j).map fun t => t.pt.items) ++ (c.pt.items ++ [its[j]]) := by
     rw [et, ek, List.map_append, List.map_cons, List.map_nil, lz_snoc _ _ _ _ (by simp; omega)]
    obtain ⟨rest, hrest⟩ : ∃ rest, rz (its.drop j) (((ts.map GT.pt).drop (j + 1)).map PT.items) = its[j] :: rest := by
     have e1 : its.drop j = its[j] :: its.drop (j + 1) := List.drop_eq_getElem_cons hlt
     have e2 : (ts.map GT.pt).drop (j + 1) = (ts.map GT.pt)[j + 1]'(by simp; omega) :: (ts.map GT.pt).drop (j + 1 + 1) := List.drop_eq_getElem_cons (by simp; omega)
     rw [e1, e2, List.map_cons, rz_cons]; exact ⟨_, rfl⟩
    have hs := hsplit j hjl c hc
    rw [hrest] at hs
    have hsl := congrArg List.length hs
    simp only [List.length_append, List.length_cons] at hsl
    have hfl := feed_len (cont := cont) (lz (its.take j) ((ts.take j).map fun t => t.pt.items)) p
    have hfl2 := feed_len (cont := cont) (lz (its.take j) ((ts.take j).map fun t => t.pt.items) ++ c.pt.items) p
    rw [List.length_append] at hfl2; unfold z0o_.j4; refine r_nil (r_fld ?_)
    refine s.r_lz0 z1 (j := 3) rfl ?_; refine r_nil ?_; refine s.r_lz0 z3 (j := 0) rfl ?_; refine wK.idx (n := j) rfl (by omega) ?_; refine nodeScan_ok hm hJ cb c (g.kid hcm) hfc (z5 c hcm) (fun r hr => hzb r (List.mem_append.2 (.inr (List.mem_flatMap.2 ⟨c, hcm, hr⟩)))) (fun E h s => kidcell z4 hc s) (by omega) hj fun h' hj' => ?_; refine r_not ?_; refine r_if (fun hr => ?_) (fun hr => ?_)
    · have hr : (feed cont (feed cont p (lz (its.take j) ((ts.take j).map fun t => t.pt.items))).1 c.pt.items).2 = false := by simpa using hr
      have ea : feed cont p (PT.items (h := k + 1) (its, ts.map GT.pt)) = ((feed cont (feed cont p (lz (its.take j) ((ts.take j).map fun t => t.pt.items))).1 c.pt.items).1, false) := by
       rw [hs, feed_step hf, feed_stop hr]
      have := H h' (by rw [ea]; exact hj')
      rw [ea] at this; exact this
    · have hr : (feed cont (feed cont p (lz (its.take j) ((ts.take j).map fun t => t.pt.items))).1 c.pt.items).2 = true := by simpa using hr
      have hf1 : feed cont p (lz (its.take j) ((ts.take j).map fun t => t.pt.items) ++ c.pt.items) = feed cont (feed cont p (lz (its.take j) ((ts.take j).map fun t => t.pt.items))).1 c.pt.items := feed_step hf
      rw [← hf1] at hr hj'
      have ef : feed cont p (lz (its.take (j + 1)) ((ts.take (j + 1)).map fun t => t.pt.items)) = ((feed cont p (lz (its.take j) ((ts.take j).map fun t => t.pt.items) ++ c.pt.items)).1 ++ [its[j]], cont ((feed cont p (lz (its.take j) ((ts.take j).map fun t => t.pt.items) ++ c.pt.items)).1 ++ [its[j]])) := by
       rw [ez, ← List.append_assoc, feed_step hr, feed_one]
      obtain ⟨E, s⟩ := hJ _ h' hj'; unfold z0o_.j6; refine r_nil (r_fld ?_)
      refine s.r_lz0 z1 (j := 2) rfl ?_; refine w.idx (n := j) rfl hlt ?_; refine r_fld ?_; refine s.r_load1FZ encl (r := 1) z2 hx rfl ?_; refine r_nil (r_fld ?_)
      refine s.r_lz0 z1 (j := 2) rfl ?_; refine w.idx (n := j) rfl hlt ?_; refine r_fld ?_; refine s.r_load1FZ encl (r := 0) z2 hx rfl ?_; refine cb _ its[j] h' _ (by omega) hj' fun h2 hj2 => ?_; refine r_not ?_; refine r_if (fun hb => ?_) (fun hb => ?_)
      · have hb : cont ((feed cont p (lz (its.take j) ((ts.take j).map fun t => t.pt.items) ++ c.pt.items)).1 ++ [its[j]]) = false := by simpa using hb
        have ea : feed cont p (PT.items (h := k + 1) (its, ts.map GT.pt)) = ((feed cont p (lz (its.take j) ((ts.take j).map fun t => t.pt.items) ++ c.pt.items)).1 ++ [its[j]], false) := by
         rw [hs, ← List.append_assoc, feed_step hr]; simp only [feed, hb, Bool.false_eq_true, if_false]
        have := H h2 (by rw [ea]; exact hj2)
        rw [ea] at this; exact this
      · have hb : cont ((feed cont p (lz (its.take j) ((ts.take j).map fun t => t.pt.items) ++ c.pt.items)).1 ++ [its[j]]) = true := by simpa using hb
        unfold z0o_.j5; refine r_add (z := ((j + 1 : Nat) : Int)) (by rw [i64w (by omega) (by omega)]; omega) ?_; exact HK h2 hlt ⟨by rw [ef]; exact hb, by rw [ef]; exact hj2⟩
  · have hge : j = its.length := by simp at hge; omega
    subst hge
    have hs := hsplit its.length hjl c hc
    have hr0 : rz (its.drop its.length) (((ts.map GT.pt).drop (its.length + 1)).map PT.items) = [] := by rw [List.drop_length]; rfl
    rw [hr0, List.append_nil] at hs
    have hsl := congrArg List.length hs
    simp only [List.length_append] at hsl
    have hfl := feed_len (cont := cont) (lz (its.take its.length) ((ts.take its.length).map fun t => t.pt.items)) p
    unfold z0o_.j2; refine r_nil (r_fld ?_)
    refine s.r_lz0 z1 (j := 3) rfl ?_; refine r_nil ?_; refine s.r_lz0 z3 (j := 0) rfl ?_; refine r_nil (r_fld ?_)
    refine s.r_lz0 z1 (j := 3) rfl ?_; refine r_nil ?_; refine s.r_lz0 z3 (j := 0) rfl ?_; refine wK.lenV ?_; refine r_sub (z := ((its.length : Nat) : Int)) (by rw [i64w (by omega) (by omega)]; omega) ?_; refine wK.idx (n := its.length) rfl (by omega) ?_; refine nodeScan_ok hm hJ cb c (g.kid hcm) hfc (z5 c hcm) (fun r hr => hzb r (List.mem_append.2 (.inr (List.mem_flatMap.2 ⟨c, hcm, hr⟩)))) (fun E h s => kidcell z4 hc s) (by omega) hj fun h' hj' => ?_
    have ea : feed cont p (PT.items (h := k + 1) (its, ts.map GT.pt)) = feed cont (feed cont p (lz (its.take its.length) ((ts.take its.length).map fun t => t.pt.items))).1 c.pt.items := by rw [hs, feed_step hf]
    have := H h' (by rw [ea]; exact hj')
    rw [ea] at this; exact this
end Go.Proofs.YthpmeccnddchpaaGreat.Ii
end
