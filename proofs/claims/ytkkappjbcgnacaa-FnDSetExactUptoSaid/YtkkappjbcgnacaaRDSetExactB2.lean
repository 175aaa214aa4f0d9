/-
  Texts of this claim, laid together: S8 Mf Cb Cc Cd Ce Cf Cg Ch Ci Cku.
  Conditions: as each of them tells.
-/
import Derived.Test.YtkkappjbcgnacaaRDSetExactB1
section
namespace Go.Proofs.Ytkkappjbcgnacaa
open Go.Hp
set_option maxRecDepth 100000
set_option maxHeartbeats 8000000
set_option linter.unusedVariables false
set_option linter.unusedSimpArgs false

/-! ### spec.put -/
def s_put.j4 (s1 s8 s9 s10 s12 s14 s15 s20 s21 s22 : Value) (h : Heap) (Q : Value → Heap → Prop) : Prop := loadN 3 s20 h fun b=>loadN 2 s21 h fun d=>loadN 3 s22 h fun g=>arith (· - ·) s12 s1 fun i=>loadN 2 s14 h fun j=>s_grown.call #[g, i, j, s15] h fun k h=>stillN 3 s20 b h ∧ stillN 2 s21 d h ∧ storeN 3 s8 b h fun h=>stillN 2 s21 d h ∧ storeN 2 s9 d h fun h=>storeN 3 s10 k h fun h=>loadN 3 s8 h fun l=>loadN 2 s9 h fun m=>loadN 3 s10 h fun n=>Q (.tuple #[l, m, n, (.bool true)]) h
def s_put.j3 (s1 s6 s8 s9 s10 s12 s14 s15 : Value) (h : Heap) (Q : Value → Heap → Prop) : Prop := loadN 3 s6 h fun b=>s_Divide.call #[s1, b] h fun d h=>extr 0 d fun g=>extr 1 d fun i=>extr 2 d fun j=>alloc [(.slice none 0 0), (.slice none 0 0), (.int .i64 0)] 25 h fun k h=>alloc [(.int .i64 0), (.int .i64 0)] 27 h fun l h=>alloc [(.slice none 0 0), (.slice none 0 0), (.int .i64 0)] 25 h fun m h=>storeN 3 k g h fun h=>storeN 2 l i h fun h=>storeN 3 m j h fun h=>cmpI (fun a b=>decide (a < b)) s12 s1 fun n=>ifV n (loadN 3 k h fun o=>loadN 2 s14 h fun p=>loadN 2 l h fun q=>loadN 3 m h fun u=>s_grown.call #[o, s12, p, s15] h fun v h=>stillN 2 l q h ∧ stillN 3 m u h ∧ storeN 3 s8 v h fun h=>stillN 2 l q h ∧ stillN 3 m u h ∧ storeN 2 s9 q h fun h=>stillN 3 m u h ∧ storeN 3 s10 u h fun h=>loadN 3 s8 h fun w=>loadN 2 s9 h fun x=>loadN 3 s10 h fun y=>Q (.tuple #[w, x, y, (.bool true)]) h) (s_put.j4 s1 s8 s9 s10 s12 s14 s15 k l m h Q)
def s_put.j2 (s1 s6 s8 s9 s10 s12 s14 s15 : Value) (h : Heap) (Q : Value → Heap → Prop) : Prop := fld 0 s6 fun b=>load1 b h fun d=>lenV d fun g=>arith (· * ·) (.int .i64 2) s1 fun i=>arith (· - ·) i (.int .i64 1) fun j=>cmpI (fun a b=>decide (a < b)) g j fun k=>ifV k (loadN 3 s6 h fun l=>loadN 2 s14 h fun m=>s_grown.call #[l, s12, m, s15] h fun n h=>buildV [(.int .i64 0), (.int .i64 0)] [] fun o=>buildV [(.slice none 0 0), (.slice none 0 0), (.int .i64 0)] [] fun p=>storeN 3 s8 n h fun h=>storeN 2 s9 o h fun h=>storeN 3 s10 p h fun h=>loadN 3 s8 h fun q=>loadN 2 s9 h fun u=>loadN 3 s10 h fun v=>Q (.tuple #[q, u, v, (.bool false)]) h) (s_put.j3 s1 s6 s8 s9 s10 s12 s14 s15 h Q)
def s_put.j5 (s1 s6 s8 s9 s10 s12 s14 s16 s17 s18 : Value) (h : Heap) (Q : Value → Heap → Prop) : Prop := loadN 2 s17 h fun b=>loadN 3 s16 h fun d=>loadN 3 s18 h fun g=>(mkSl (if 2 * 3 = 0 then [] else zeros [(.slice none 0 0), (.slice none 0 0), (.int .i64 0)] 2) 2 [(0 * 3, 3, d), (1 * 3, 3, g)] 25 h fun i h=>stillN 2 s17 b h ∧ storeN 2 s14 b h fun h=>s_put.j2 s1 s6 s8 s9 s10 s12 s14 i h Q) ∧ (storeN 2 s14 b h fun h=>stillN 3 s16 d h ∧ stillN 3 s18 g h ∧ mkSl (if 2 * 3 = 0 then [] else zeros [(.slice none 0 0), (.slice none 0 0), (.int .i64 0)] 2) 2 [(0 * 3, 3, d), (1 * 3, 3, g)] 25 h fun j h=>s_put.j2 s1 s6 s8 s9 s10 s12 s14 j h Q)
def s_put.j6 (s1 s6 s8 s9 s10 s12 s14 s16 s17 s18 : Value) (h : Heap) (Q : Value → Heap → Prop) : Prop := loadN 2 s17 h fun b=>loadN 3 s16 h fun d=>loadN 3 s18 h fun g=>(mkSl (if 2 * 3 = 0 then [] else zeros [(.slice none 0 0), (.slice none 0 0), (.int .i64 0)] 2) 2 [(0 * 3, 3, d), (1 * 3, 3, g)] 25 h fun i h=>stillN 2 s17 b h ∧ storeN 2 s14 b h fun h=>s_put.j2 s1 s6 s8 s9 s10 s12 s14 i h Q) ∧ (storeN 2 s14 b h fun h=>stillN 3 s16 d h ∧ stillN 3 s18 g h ∧ mkSl (if 2 * 3 = 0 then [] else zeros [(.slice none 0 0), (.slice none 0 0), (.int .i64 0)] 2) 2 [(0 * 3, 3, d), (1 * 3, 3, g)] 25 h fun j h=>s_put.j2 s1 s6 s8 s9 s10 s12 s14 j h Q)
def s_put.j7 (s1 s6 s8 s9 s10 s12 s14 s16 s17 s18 : Value) (h : Heap) (Q : Value → Heap → Prop) : Prop := loadN 2 s17 h fun b=>loadN 3 s16 h fun d=>loadN 3 s18 h fun g=>(mkSl (if 2 * 3 = 0 then [] else zeros [(.slice none 0 0), (.slice none 0 0), (.int .i64 0)] 2) 2 [(0 * 3, 3, d), (1 * 3, 3, g)] 25 h fun i h=>stillN 2 s17 b h ∧ storeN 2 s14 b h fun h=>s_put.j2 s1 s6 s8 s9 s10 s12 s14 i h Q) ∧ (storeN 2 s14 b h fun h=>stillN 3 s16 d h ∧ stillN 3 s18 g h ∧ mkSl (if 2 * 3 = 0 then [] else zeros [(.slice none 0 0), (.slice none 0 0), (.int .i64 0)] 2) 2 [(0 * 3, 3, d), (1 * 3, 3, g)] 25 h fun j h=>s_put.j2 s1 s6 s8 s9 s10 s12 s14 j h Q)
def s_put.j8 (s1 s6 s8 s9 s10 s12 s14 s16 s17 s18 : Value) (h : Heap) (Q : Value → Heap → Prop) : Prop := loadN 2 s17 h fun b=>loadN 3 s16 h fun d=>loadN 3 s18 h fun g=>(mkSl (if 2 * 3 = 0 then [] else zeros [(.slice none 0 0), (.slice none 0 0), (.int .i64 0)] 2) 2 [(0 * 3, 3, d), (1 * 3, 3, g)] 25 h fun i h=>stillN 2 s17 b h ∧ storeN 2 s14 b h fun h=>s_put.j2 s1 s6 s8 s9 s10 s12 s14 i h Q) ∧ (storeN 2 s14 b h fun h=>stillN 3 s16 d h ∧ stillN 3 s18 g h ∧ mkSl (if 2 * 3 = 0 then [] else zeros [(.slice none 0 0), (.slice none 0 0), (.int .i64 0)] 2) 2 [(0 * 3, 3, d), (1 * 3, 3, g)] 25 h fun j h=>s_put.j2 s1 s6 s8 s9 s10 s12 s14 j h Q)
def s_put.j9 (s1 s6 s8 s9 s10 s12 s14 s16 s17 s18 : Value) (h : Heap) (Q : Value → Heap → Prop) : Prop := loadN 2 s17 h fun b=>loadN 3 s16 h fun d=>loadN 3 s18 h fun g=>(mkSl (if 2 * 3 = 0 then [] else zeros [(.slice none 0 0), (.slice none 0 0), (.int .i64 0)] 2) 2 [(0 * 3, 3, d), (1 * 3, 3, g)] 25 h fun i h=>stillN 2 s17 b h ∧ storeN 2 s14 b h fun h=>s_put.j2 s1 s6 s8 s9 s10 s12 s14 i h Q) ∧ (storeN 2 s14 b h fun h=>stillN 3 s16 d h ∧ stillN 3 s18 g h ∧ mkSl (if 2 * 3 = 0 then [] else zeros [(.slice none 0 0), (.slice none 0 0), (.int .i64 0)] 2) 2 [(0 * 3, 3, d), (1 * 3, 3, g)] 25 h fun j h=>s_put.j2 s1 s6 s8 s9 s10 s12 s14 j h Q)
def s_put.j10 (s1 s6 s8 s9 s10 s12 s14 s16 s17 s18 : Value) (h : Heap) (Q : Value → Heap → Prop) : Prop := loadN 2 s17 h fun b=>loadN 3 s16 h fun d=>loadN 3 s18 h fun g=>(mkSl (if 2 * 3 = 0 then [] else zeros [(.slice none 0 0), (.slice none 0 0), (.int .i64 0)] 2) 2 [(0 * 3, 3, d), (1 * 3, 3, g)] 25 h fun i h=>stillN 2 s17 b h ∧ storeN 2 s14 b h fun h=>s_put.j2 s1 s6 s8 s9 s10 s12 s14 i h Q) ∧ (storeN 2 s14 b h fun h=>stillN 3 s16 d h ∧ stillN 3 s18 g h ∧ mkSl (if 2 * 3 = 0 then [] else zeros [(.slice none 0 0), (.slice none 0 0), (.int .i64 0)] 2) 2 [(0 * 3, 3, d), (1 * 3, 3, g)] 25 h fun j h=>s_put.j2 s1 s6 s8 s9 s10 s12 s14 j h Q)
def s_put.j11 (s1 s6 s8 s9 s10 s12 s14 s16 s17 s18 : Value) (h : Heap) (Q : Value → Heap → Prop) : Prop := loadN 2 s17 h fun b=>loadN 3 s16 h fun d=>loadN 3 s18 h fun g=>(mkSl (if 2 * 3 = 0 then [] else zeros [(.slice none 0 0), (.slice none 0 0), (.int .i64 0)] 2) 2 [(0 * 3, 3, d), (1 * 3, 3, g)] 25 h fun i h=>stillN 2 s17 b h ∧ storeN 2 s14 b h fun h=>s_put.j2 s1 s6 s8 s9 s10 s12 s14 i h Q) ∧ (storeN 2 s14 b h fun h=>stillN 3 s16 d h ∧ stillN 3 s18 g h ∧ mkSl (if 2 * 3 = 0 then [] else zeros [(.slice none 0 0), (.slice none 0 0), (.int .i64 0)] 2) 2 [(0 * 3, 3, d), (1 * 3, 3, g)] 25 h fun j h=>s_put.j2 s1 s6 s8 s9 s10 s12 s14 j h Q)
def s_put.j12 (s1 s6 s8 s9 s10 s12 s14 s16 s17 s18 : Value) (h : Heap) (Q : Value → Heap → Prop) : Prop := loadN 2 s17 h fun b=>loadN 3 s16 h fun d=>loadN 3 s18 h fun g=>(mkSl (if 2 * 3 = 0 then [] else zeros [(.slice none 0 0), (.slice none 0 0), (.int .i64 0)] 2) 2 [(0 * 3, 3, d), (1 * 3, 3, g)] 25 h fun i h=>stillN 2 s17 b h ∧ storeN 2 s14 b h fun h=>s_put.j2 s1 s6 s8 s9 s10 s12 s14 i h Q) ∧ (storeN 2 s14 b h fun h=>stillN 3 s16 d h ∧ stillN 3 s18 g h ∧ mkSl (if 2 * 3 = 0 then [] else zeros [(.slice none 0 0), (.slice none 0 0), (.int .i64 0)] 2) 2 [(0 * 3, 3, d), (1 * 3, 3, g)] 25 h fun j h=>s_put.j2 s1 s6 s8 s9 s10 s12 s14 j h Q)
def s_put.j13 (s1 s6 s8 s9 s10 s12 s14 s16 s17 s18 : Value) (h : Heap) (Q : Value → Heap → Prop) : Prop := loadN 2 s17 h fun b=>loadN 3 s16 h fun d=>loadN 3 s18 h fun g=>(mkSl (if 2 * 3 = 0 then [] else zeros [(.slice none 0 0), (.slice none 0 0), (.int .i64 0)] 2) 2 [(0 * 3, 3, d), (1 * 3, 3, g)] 25 h fun i h=>stillN 2 s17 b h ∧ storeN 2 s14 b h fun h=>s_put.j2 s1 s6 s8 s9 s10 s12 s14 i h Q) ∧ (storeN 2 s14 b h fun h=>stillN 3 s16 d h ∧ stillN 3 s18 g h ∧ mkSl (if 2 * 3 = 0 then [] else zeros [(.slice none 0 0), (.slice none 0 0), (.int .i64 0)] 2) 2 [(0 * 3, 3, d), (1 * 3, 3, g)] 25 h fun j h=>s_put.j2 s1 s6 s8 s9 s10 s12 s14 j h Q)
def s_put.j14 (s1 s6 s8 s9 s10 s12 s14 s16 s17 s18 : Value) (h : Heap) (Q : Value → Heap → Prop) : Prop := loadN 2 s17 h fun b=>loadN 3 s16 h fun d=>loadN 3 s18 h fun g=>(mkSl (if 2 * 3 = 0 then [] else zeros [(.slice none 0 0), (.slice none 0 0), (.int .i64 0)] 2) 2 [(0 * 3, 3, d), (1 * 3, 3, g)] 25 h fun i h=>stillN 2 s17 b h ∧ storeN 2 s14 b h fun h=>s_put.j2 s1 s6 s8 s9 s10 s12 s14 i h Q) ∧ (storeN 2 s14 b h fun h=>stillN 3 s16 d h ∧ stillN 3 s18 g h ∧ mkSl (if 2 * 3 = 0 then [] else zeros [(.slice none 0 0), (.slice none 0 0), (.int .i64 0)] 2) 2 [(0 * 3, 3, d), (1 * 3, 3, g)] 25 h fun j h=>s_put.j2 s1 s6 s8 s9 s10 s12 s14 j h Q)
def s_put.j15 (s1 s6 s8 s9 s10 s12 s14 s16 s17 s18 : Value) (h : Heap) (Q : Value → Heap → Prop) : Prop := loadN 2 s17 h fun b=>loadN 3 s16 h fun d=>loadN 3 s18 h fun g=>(mkSl (if 2 * 3 = 0 then [] else zeros [(.slice none 0 0), (.slice none 0 0), (.int .i64 0)] 2) 2 [(0 * 3, 3, d), (1 * 3, 3, g)] 25 h fun i h=>stillN 2 s17 b h ∧ storeN 2 s14 b h fun h=>s_put.j2 s1 s6 s8 s9 s10 s12 s14 i h Q) ∧ (storeN 2 s14 b h fun h=>stillN 3 s16 d h ∧ stillN 3 s18 g h ∧ mkSl (if 2 * 3 = 0 then [] else zeros [(.slice none 0 0), (.slice none 0 0), (.int .i64 0)] 2) 2 [(0 * 3, 3, d), (1 * 3, 3, g)] 25 h fun j h=>s_put.j2 s1 s6 s8 s9 s10 s12 s14 j h Q)
def s_put.j16 (s1 s6 s8 s9 s10 s12 s14 s16 s17 s18 : Value) (h : Heap) (Q : Value → Heap → Prop) : Prop := loadN 2 s17 h fun b=>loadN 3 s16 h fun d=>loadN 3 s18 h fun g=>(mkSl (if 2 * 3 = 0 then [] else zeros [(.slice none 0 0), (.slice none 0 0), (.int .i64 0)] 2) 2 [(0 * 3, 3, d), (1 * 3, 3, g)] 25 h fun i h=>stillN 2 s17 b h ∧ storeN 2 s14 b h fun h=>s_put.j2 s1 s6 s8 s9 s10 s12 s14 i h Q) ∧ (storeN 2 s14 b h fun h=>stillN 3 s16 d h ∧ stillN 3 s18 g h ∧ mkSl (if 2 * 3 = 0 then [] else zeros [(.slice none 0 0), (.slice none 0 0), (.int .i64 0)] 2) 2 [(0 * 3, 3, d), (1 * 3, 3, g)] 25 h fun j h=>s_put.j2 s1 s6 s8 s9 s10 s12 s14 j h Q)
def s_put.j17 (s1 s6 s8 s9 s10 s12 s14 s16 s17 s18 : Value) (h : Heap) (Q : Value → Heap → Prop) : Prop := loadN 2 s17 h fun b=>loadN 3 s16 h fun d=>loadN 3 s18 h fun g=>(mkSl (if 2 * 3 = 0 then [] else zeros [(.slice none 0 0), (.slice none 0 0), (.int .i64 0)] 2) 2 [(0 * 3, 3, d), (1 * 3, 3, g)] 25 h fun i h=>stillN 2 s17 b h ∧ storeN 2 s14 b h fun h=>s_put.j2 s1 s6 s8 s9 s10 s12 s14 i h Q) ∧ (storeN 2 s14 b h fun h=>stillN 3 s16 d h ∧ stillN 3 s18 g h ∧ mkSl (if 2 * 3 = 0 then [] else zeros [(.slice none 0 0), (.slice none 0 0), (.int .i64 0)] 2) 2 [(0 * 3, 3, d), (1 * 3, 3, g)] 25 h fun j h=>s_put.j2 s1 s6 s8 s9 s10 s12 s14 j h Q)
def s_put.j18 (s1 s6 s8 s9 s10 s12 s14 s16 s17 s18 : Value) (h : Heap) (Q : Value → Heap → Prop) : Prop := loadN 2 s17 h fun b=>loadN 3 s16 h fun d=>loadN 3 s18 h fun g=>(mkSl (if 2 * 3 = 0 then [] else zeros [(.slice none 0 0), (.slice none 0 0), (.int .i64 0)] 2) 2 [(0 * 3, 3, d), (1 * 3, 3, g)] 25 h fun i h=>stillN 2 s17 b h ∧ storeN 2 s14 b h fun h=>s_put.j2 s1 s6 s8 s9 s10 s12 s14 i h Q) ∧ (storeN 2 s14 b h fun h=>stillN 3 s16 d h ∧ stillN 3 s18 g h ∧ mkSl (if 2 * 3 = 0 then [] else zeros [(.slice none 0 0), (.slice none 0 0), (.int .i64 0)] 2) 2 [(0 * 3, 3, d), (1 * 3, 3, g)] 25 h fun j h=>s_put.j2 s1 s6 s8 s9 s10 s12 s14 j h Q)
def s_put.j19 (s1 s6 s8 s9 s10 s12 s14 s16 s17 s18 : Value) (h : Heap) (Q : Value → Heap → Prop) : Prop := loadN 2 s17 h fun b=>loadN 3 s16 h fun d=>loadN 3 s18 h fun g=>(mkSl (if 2 * 3 = 0 then [] else zeros [(.slice none 0 0), (.slice none 0 0), (.int .i64 0)] 2) 2 [(0 * 3, 3, d), (1 * 3, 3, g)] 25 h fun i h=>stillN 2 s17 b h ∧ storeN 2 s14 b h fun h=>s_put.j2 s1 s6 s8 s9 s10 s12 s14 i h Q) ∧ (storeN 2 s14 b h fun h=>stillN 3 s16 d h ∧ stillN 3 s18 g h ∧ mkSl (if 2 * 3 = 0 then [] else zeros [(.slice none 0 0), (.slice none 0 0), (.int .i64 0)] 2) 2 [(0 * 3, 3, d), (1 * 3, 3, g)] 25 h fun j h=>s_put.j2 s1 s6 s8 s9 s10 s12 s14 j h Q)
def s_put.j20 (s1 s6 s8 s9 s10 s12 s14 s16 s17 s18 : Value) (h : Heap) (Q : Value → Heap → Prop) : Prop := loadN 2 s17 h fun b=>loadN 3 s16 h fun d=>loadN 3 s18 h fun g=>(mkSl (if 2 * 3 = 0 then [] else zeros [(.slice none 0 0), (.slice none 0 0), (.int .i64 0)] 2) 2 [(0 * 3, 3, d), (1 * 3, 3, g)] 25 h fun i h=>stillN 2 s17 b h ∧ storeN 2 s14 b h fun h=>s_put.j2 s1 s6 s8 s9 s10 s12 s14 i h Q) ∧ (storeN 2 s14 b h fun h=>stillN 3 s16 d h ∧ stillN 3 s18 g h ∧ mkSl (if 2 * 3 = 0 then [] else zeros [(.slice none 0 0), (.slice none 0 0), (.int .i64 0)] 2) 2 [(0 * 3, 3, d), (1 * 3, 3, g)] 25 h fun j h=>s_put.j2 s1 s6 s8 s9 s10 s12 s14 j h Q)
def s_put.j21 (s1 s6 s8 s9 s10 s12 s14 s16 s17 s18 : Value) (h : Heap) (Q : Value → Heap → Prop) : Prop := loadN 2 s17 h fun b=>loadN 3 s16 h fun d=>loadN 3 s18 h fun g=>(mkSl (if 2 * 3 = 0 then [] else zeros [(.slice none 0 0), (.slice none 0 0), (.int .i64 0)] 2) 2 [(0 * 3, 3, d), (1 * 3, 3, g)] 25 h fun i h=>stillN 2 s17 b h ∧ storeN 2 s14 b h fun h=>s_put.j2 s1 s6 s8 s9 s10 s12 s14 i h Q) ∧ (storeN 2 s14 b h fun h=>stillN 3 s16 d h ∧ stillN 3 s18 g h ∧ mkSl (if 2 * 3 = 0 then [] else zeros [(.slice none 0 0), (.slice none 0 0), (.int .i64 0)] 2) 2 [(0 * 3, 3, d), (1 * 3, 3, g)] 25 h fun j h=>s_put.j2 s1 s6 s8 s9 s10 s12 s14 j h Q)
def s_put.j22 (s1 s6 s8 s9 s10 s12 s14 s16 s17 s18 : Value) (h : Heap) (Q : Value → Heap → Prop) : Prop := loadN 2 s17 h fun b=>loadN 3 s16 h fun d=>loadN 3 s18 h fun g=>(mkSl (if 2 * 3 = 0 then [] else zeros [(.slice none 0 0), (.slice none 0 0), (.int .i64 0)] 2) 2 [(0 * 3, 3, d), (1 * 3, 3, g)] 25 h fun i h=>stillN 2 s17 b h ∧ storeN 2 s14 b h fun h=>s_put.j2 s1 s6 s8 s9 s10 s12 s14 i h Q) ∧ (storeN 2 s14 b h fun h=>stillN 3 s16 d h ∧ stillN 3 s18 g h ∧ mkSl (if 2 * 3 = 0 then [] else zeros [(.slice none 0 0), (.slice none 0 0), (.int .i64 0)] 2) 2 [(0 * 3, 3, d), (1 * 3, 3, g)] 25 h fun j h=>s_put.j2 s1 s6 s8 s9 s10 s12 s14 j h Q)
def s_put.j23 (s1 s6 s8 s9 s10 s12 s14 s16 s17 s18 : Value) (h : Heap) (Q : Value → Heap → Prop) : Prop := loadN 2 s17 h fun b=>loadN 3 s16 h fun d=>loadN 3 s18 h fun g=>(mkSl (if 2 * 3 = 0 then [] else zeros [(.slice none 0 0), (.slice none 0 0), (.int .i64 0)] 2) 2 [(0 * 3, 3, d), (1 * 3, 3, g)] 25 h fun i h=>stillN 2 s17 b h ∧ storeN 2 s14 b h fun h=>s_put.j2 s1 s6 s8 s9 s10 s12 s14 i h Q) ∧ (storeN 2 s14 b h fun h=>stillN 3 s16 d h ∧ stillN 3 s18 g h ∧ mkSl (if 2 * 3 = 0 then [] else zeros [(.slice none 0 0), (.slice none 0 0), (.int .i64 0)] 2) 2 [(0 * 3, 3, d), (1 * 3, 3, g)] 25 h fun j h=>s_put.j2 s1 s6 s8 s9 s10 s12 s14 j h Q)
def s_put.j24 (s1 s6 s8 s9 s10 s12 s14 s16 s17 s18 : Value) (h : Heap) (Q : Value → Heap → Prop) : Prop := loadN 2 s17 h fun b=>loadN 3 s16 h fun d=>loadN 3 s18 h fun g=>(mkSl (if 2 * 3 = 0 then [] else zeros [(.slice none 0 0), (.slice none 0 0), (.int .i64 0)] 2) 2 [(0 * 3, 3, d), (1 * 3, 3, g)] 25 h fun i h=>stillN 2 s17 b h ∧ storeN 2 s14 b h fun h=>s_put.j2 s1 s6 s8 s9 s10 s12 s14 i h Q) ∧ (storeN 2 s14 b h fun h=>stillN 3 s16 d h ∧ stillN 3 s18 g h ∧ mkSl (if 2 * 3 = 0 then [] else zeros [(.slice none 0 0), (.slice none 0 0), (.int .i64 0)] 2) 2 [(0 * 3, 3, d), (1 * 3, 3, g)] 25 h fun j h=>s_put.j2 s1 s6 s8 s9 s10 s12 s14 j h Q)
def s_put.j25 (s1 s6 s8 s9 s10 s12 s14 s16 s17 s18 : Value) (h : Heap) (Q : Value → Heap → Prop) : Prop := loadN 2 s17 h fun b=>loadN 3 s16 h fun d=>loadN 3 s18 h fun g=>(mkSl (if 2 * 3 = 0 then [] else zeros [(.slice none 0 0), (.slice none 0 0), (.int .i64 0)] 2) 2 [(0 * 3, 3, d), (1 * 3, 3, g)] 25 h fun i h=>stillN 2 s17 b h ∧ storeN 2 s14 b h fun h=>s_put.j2 s1 s6 s8 s9 s10 s12 s14 i h Q) ∧ (storeN 2 s14 b h fun h=>stillN 3 s16 d h ∧ stillN 3 s18 g h ∧ mkSl (if 2 * 3 = 0 then [] else zeros [(.slice none 0 0), (.slice none 0 0), (.int .i64 0)] 2) 2 [(0 * 3, 3, d), (1 * 3, 3, g)] 25 h fun j h=>s_put.j2 s1 s6 s8 s9 s10 s12 s14 j h Q)
def s_put.j26 (s1 s6 s8 s9 s10 s12 s14 s16 s17 s18 : Value) (h : Heap) (Q : Value → Heap → Prop) : Prop := loadN 2 s17 h fun b=>loadN 3 s16 h fun d=>loadN 3 s18 h fun g=>(mkSl (if 2 * 3 = 0 then [] else zeros [(.slice none 0 0), (.slice none 0 0), (.int .i64 0)] 2) 2 [(0 * 3, 3, d), (1 * 3, 3, g)] 25 h fun i h=>stillN 2 s17 b h ∧ storeN 2 s14 b h fun h=>s_put.j2 s1 s6 s8 s9 s10 s12 s14 i h Q) ∧ (storeN 2 s14 b h fun h=>stillN 3 s16 d h ∧ stillN 3 s18 g h ∧ mkSl (if 2 * 3 = 0 then [] else zeros [(.slice none 0 0), (.slice none 0 0), (.int .i64 0)] 2) 2 [(0 * 3, 3, d), (1 * 3, 3, g)] 25 h fun j h=>s_put.j2 s1 s6 s8 s9 s10 s12 s14 j h Q)
def s_put.j27 (s1 s6 s8 s9 s10 s12 s14 s16 s17 s18 : Value) (h : Heap) (Q : Value → Heap → Prop) : Prop := loadN 2 s17 h fun b=>loadN 3 s16 h fun d=>loadN 3 s18 h fun g=>(mkSl (if 2 * 3 = 0 then [] else zeros [(.slice none 0 0), (.slice none 0 0), (.int .i64 0)] 2) 2 [(0 * 3, 3, d), (1 * 3, 3, g)] 25 h fun i h=>stillN 2 s17 b h ∧ storeN 2 s14 b h fun h=>s_put.j2 s1 s6 s8 s9 s10 s12 s14 i h Q) ∧ (storeN 2 s14 b h fun h=>stillN 3 s16 d h ∧ stillN 3 s18 g h ∧ mkSl (if 2 * 3 = 0 then [] else zeros [(.slice none 0 0), (.slice none 0 0), (.int .i64 0)] 2) 2 [(0 * 3, 3, d), (1 * 3, 3, g)] 25 h fun j h=>s_put.j2 s1 s6 s8 s9 s10 s12 s14 j h Q)
def s_put.j28 (s1 s6 s8 s9 s10 s12 s14 s16 s17 s18 : Value) (h : Heap) (Q : Value → Heap → Prop) : Prop := loadN 2 s17 h fun b=>loadN 3 s16 h fun d=>loadN 3 s18 h fun g=>(mkSl (if 2 * 3 = 0 then [] else zeros [(.slice none 0 0), (.slice none 0 0), (.int .i64 0)] 2) 2 [(0 * 3, 3, d), (1 * 3, 3, g)] 25 h fun i h=>stillN 2 s17 b h ∧ storeN 2 s14 b h fun h=>s_put.j2 s1 s6 s8 s9 s10 s12 s14 i h Q) ∧ (storeN 2 s14 b h fun h=>stillN 3 s16 d h ∧ stillN 3 s18 g h ∧ mkSl (if 2 * 3 = 0 then [] else zeros [(.slice none 0 0), (.slice none 0 0), (.int .i64 0)] 2) 2 [(0 * 3, 3, d), (1 * 3, 3, g)] 25 h fun j h=>s_put.j2 s1 s6 s8 s9 s10 s12 s14 j h Q)
def s_put.j1 (s0 s1 s6 s7 s8 s9 s10 s12 : Value) (h : Heap) (Q : Value → Heap → Prop) : Prop := loadN 2 s7 h fun b=>mkSl (if 0 * 3 = 0 then [] else zeros [(.slice none 0 0), (.slice none 0 0), (.int .i64 0)] 0) 0 [] 25 h fun d h=>alloc [(.int .i64 0), (.int .i64 0)] 27 h fun g h=>storeN 2 g b h fun h=>fld 1 s6 fun i=>load1 i h fun j=>lenV j fun k=>cmpI (fun a b=>decide (a > b)) k (.int .i64 0) fun l=>ifV l (fld 1 s6 fun m=>load1 m h fun n=>idx 3 n s12 fun o=>loadN 3 o h fun p=>loadN 2 s7 h fun q=>(s_put.call #[s0, s1, p, q] h fun u h=>extr 0 u fun v=>extr 1 u fun w=>extr 2 u fun x=>extr 3 u fun y=>(alloc [(.slice none 0 0), (.slice none 0 0), (.int .i64 0)] 25 h fun z h=>(alloc [(.int .i64 0), (.int .i64 0)] 27 h fun b0 h=>alloc [(.slice none 0 0), (.slice none 0 0), (.int .i64 0)] 25 h fun b1 h=>storeN 3 z v h fun h=>storeN 2 b0 w h fun h=>storeN 3 b1 x h fun h=>notV y fun b2=>ifV b2 (fld 0 s6 fun b3=>load1 b3 h fun b4=>fld 1 s6 fun b5=>load1 b5 h fun b6=>loadN 3 z h fun b7=>buildV [(.int .i64 0), (.int .i64 0)] [] fun b8=>buildV [(.slice none 0 0), (.slice none 0 0), (.int .i64 0)] [] fun b9=>s_changed_implNode.call #[b6, s12, b7] h fun d0 h=>still1 b3 b4 h ∧ buildV [(.slice none 0 0), (.slice none 0 0), (.int .i64 0)] [(0, 1, b4), (1, 1, d0)] fun d1=>storeN 3 s8 d1 h fun h=>storeN 2 s9 b8 h fun h=>storeN 3 s10 b9 h fun h=>loadN 3 s8 h fun d2=>loadN 2 s9 h fun d3=>loadN 3 s10 h fun d4=>Q (.tuple #[d2, d3, d4, (.bool false)]) h) (s_put.j5 s1 s6 s8 s9 s10 s12 g z b0 b1 h Q)) ∧ (alloc [(.slice none 0 0), (.slice none 0 0), (.int .i64 0)] 25 h fun d5 h=>alloc [(.int .i64 0), (.int .i64 0)] 27 h fun d6 h=>storeN 3 z v h fun h=>storeN 2 d6 w h fun h=>storeN 3 d5 x h fun h=>notV y fun d7=>ifV d7 (fld 0 s6 fun d8=>load1 d8 h fun d9=>fld 1 s6 fun g0=>load1 g0 h fun g1=>loadN 3 z h fun g2=>buildV [(.int .i64 0), (.int .i64 0)] [] fun g3=>buildV [(.slice none 0 0), (.slice none 0 0), (.int .i64 0)] [] fun g4=>s_changed_implNode.call #[g1, s12, g2] h fun g5 h=>still1 d8 d9 h ∧ buildV [(.slice none 0 0), (.slice none 0 0), (.int .i64 0)] [(0, 1, d9), (1, 1, g5)] fun g6=>storeN 3 s8 g6 h fun h=>storeN 2 s9 g3 h fun h=>storeN 3 s10 g4 h fun h=>loadN 3 s8 h fun g7=>loadN 2 s9 h fun g8=>loadN 3 s10 h fun g9=>Q (.tuple #[g7, g8, g9, (.bool false)]) h) (s_put.j6 s1 s6 s8 s9 s10 s12 g z d6 d5 h Q))) ∧ (alloc [(.int .i64 0), (.int .i64 0)] 27 h fun i0 h=>(alloc [(.slice none 0 0), (.slice none 0 0), (.int .i64 0)] 25 h fun i1 h=>alloc [(.slice none 0 0), (.slice none 0 0), (.int .i64 0)] 25 h fun i2 h=>storeN 3 i1 v h fun h=>storeN 2 i0 w h fun h=>storeN 3 i2 x h fun h=>notV y fun i3=>ifV i3 (fld 0 s6 fun i4=>load1 i4 h fun i5=>fld 1 s6 fun i6=>load1 i6 h fun i7=>loadN 3 i1 h fun i8=>buildV [(.int .i64 0), (.int .i64 0)] [] fun i9=>buildV [(.slice none 0 0), (.slice none 0 0), (.int .i64 0)] [] fun j0=>s_changed_implNode.call #[i7, s12, i8] h fun j1 h=>still1 i4 i5 h ∧ buildV [(.slice none 0 0), (.slice none 0 0), (.int .i64 0)] [(0, 1, i5), (1, 1, j1)] fun j2=>storeN 3 s8 j2 h fun h=>storeN 2 s9 i9 h fun h=>storeN 3 s10 j0 h fun h=>loadN 3 s8 h fun j3=>loadN 2 s9 h fun j4=>loadN 3 s10 h fun j5=>Q (.tuple #[j3, j4, j5, (.bool false)]) h) (s_put.j7 s1 s6 s8 s9 s10 s12 g i1 i0 i2 h Q)) ∧ (alloc [(.slice none 0 0), (.slice none 0 0), (.int .i64 0)] 25 h fun j6 h=>alloc [(.slice none 0 0), (.slice none 0 0), (.int .i64 0)] 25 h fun j7 h=>storeN 3 j7 v h fun h=>storeN 2 i0 w h fun h=>storeN 3 j6 x h fun h=>notV y fun j8=>ifV j8 (fld 0 s6 fun j9=>load1 j9 h fun k0=>fld 1 s6 fun k1=>load1 k1 h fun k2=>loadN 3 j7 h fun k3=>buildV [(.int .i64 0), (.int .i64 0)] [] fun k4=>buildV [(.slice none 0 0), (.slice none 0 0), (.int .i64 0)] [] fun k5=>s_changed_implNode.call #[k2, s12, k3] h fun k6 h=>still1 j9 k0 h ∧ buildV [(.slice none 0 0), (.slice none 0 0), (.int .i64 0)] [(0, 1, k0), (1, 1, k6)] fun k7=>storeN 3 s8 k7 h fun h=>storeN 2 s9 k4 h fun h=>storeN 3 s10 k5 h fun h=>loadN 3 s8 h fun k8=>loadN 2 s9 h fun k9=>loadN 3 s10 h fun l0=>Q (.tuple #[k8, k9, l0, (.bool false)]) h) (s_put.j8 s1 s6 s8 s9 s10 s12 g j7 i0 j6 h Q))) ∧ (alloc [(.slice none 0 0), (.slice none 0 0), (.int .i64 0)] 25 h fun l1 h=>(alloc [(.slice none 0 0), (.slice none 0 0), (.int .i64 0)] 25 h fun l2 h=>alloc [(.int .i64 0), (.int .i64 0)] 27 h fun l3 h=>storeN 3 l2 v h fun h=>storeN 2 l3 w h fun h=>storeN 3 l1 x h fun h=>notV y fun l4=>ifV l4 (fld 0 s6 fun l5=>load1 l5 h fun l6=>fld 1 s6 fun l7=>load1 l7 h fun l8=>loadN 3 l2 h fun l9=>buildV [(.int .i64 0), (.int .i64 0)] [] fun m0=>buildV [(.slice none 0 0), (.slice none 0 0), (.int .i64 0)] [] fun m1=>s_changed_implNode.call #[l8, s12, l9] h fun m2 h=>still1 l5 l6 h ∧ buildV [(.slice none 0 0), (.slice none 0 0), (.int .i64 0)] [(0, 1, l6), (1, 1, m2)] fun m3=>storeN 3 s8 m3 h fun h=>storeN 2 s9 m0 h fun h=>storeN 3 s10 m1 h fun h=>loadN 3 s8 h fun m4=>loadN 2 s9 h fun m5=>loadN 3 s10 h fun m6=>Q (.tuple #[m4, m5, m6, (.bool false)]) h) (s_put.j9 s1 s6 s8 s9 s10 s12 g l2 l3 l1 h Q)) ∧ (alloc [(.int .i64 0), (.int .i64 0)] 27 h fun m7 h=>alloc [(.slice none 0 0), (.slice none 0 0), (.int .i64 0)] 25 h fun m8 h=>storeN 3 m8 v h fun h=>storeN 2 m7 w h fun h=>storeN 3 l1 x h fun h=>notV y fun m9=>ifV m9 (fld 0 s6 fun n0=>load1 n0 h fun n1=>fld 1 s6 fun n2=>load1 n2 h fun n3=>loadN 3 m8 h fun n4=>buildV [(.int .i64 0), (.int .i64 0)] [] fun n5=>buildV [(.slice none 0 0), (.slice none 0 0), (.int .i64 0)] [] fun n6=>s_changed_implNode.call #[n3, s12, n4] h fun n7 h=>still1 n0 n1 h ∧ buildV [(.slice none 0 0), (.slice none 0 0), (.int .i64 0)] [(0, 1, n1), (1, 1, n7)] fun n8=>storeN 3 s8 n8 h fun h=>storeN 2 s9 n5 h fun h=>storeN 3 s10 n6 h fun h=>loadN 3 s8 h fun n9=>loadN 2 s9 h fun o0=>loadN 3 s10 h fun o1=>Q (.tuple #[n9, o0, o1, (.bool false)]) h) (s_put.j10 s1 s6 s8 s9 s10 s12 g m8 m7 l1 h Q)))) ∧ (alloc [(.slice none 0 0), (.slice none 0 0), (.int .i64 0)] 25 h fun o2 h=>still1 m n h ∧ stillN 3 o p h ∧ stillN 2 s7 q h ∧ (s_put.call #[s0, s1, p, q] h fun o3 h=>extr 0 o3 fun o4=>extr 1 o3 fun o5=>extr 2 o3 fun o6=>extr 3 o3 fun o7=>(alloc [(.int .i64 0), (.int .i64 0)] 27 h fun o8 h=>alloc [(.slice none 0 0), (.slice none 0 0), (.int .i64 0)] 25 h fun o9 h=>storeN 3 o2 o4 h fun h=>storeN 2 o8 o5 h fun h=>storeN 3 o9 o6 h fun h=>notV o7 fun p0=>ifV p0 (fld 0 s6 fun p1=>load1 p1 h fun p2=>fld 1 s6 fun p3=>load1 p3 h fun p4=>loadN 3 o2 h fun p5=>buildV [(.int .i64 0), (.int .i64 0)] [] fun p6=>buildV [(.slice none 0 0), (.slice none 0 0), (.int .i64 0)] [] fun p7=>s_changed_implNode.call #[p4, s12, p5] h fun p8 h=>still1 p1 p2 h ∧ buildV [(.slice none 0 0), (.slice none 0 0), (.int .i64 0)] [(0, 1, p2), (1, 1, p8)] fun p9=>storeN 3 s8 p9 h fun h=>storeN 2 s9 p6 h fun h=>storeN 3 s10 p7 h fun h=>loadN 3 s8 h fun q0=>loadN 2 s9 h fun q1=>loadN 3 s10 h fun q2=>Q (.tuple #[q0, q1, q2, (.bool false)]) h) (s_put.j11 s1 s6 s8 s9 s10 s12 g o2 o8 o9 h Q)) ∧ (alloc [(.slice none 0 0), (.slice none 0 0), (.int .i64 0)] 25 h fun q3 h=>alloc [(.int .i64 0), (.int .i64 0)] 27 h fun q4 h=>storeN 3 o2 o4 h fun h=>storeN 2 q4 o5 h fun h=>storeN 3 q3 o6 h fun h=>notV o7 fun q5=>ifV q5 (fld 0 s6 fun q6=>load1 q6 h fun q7=>fld 1 s6 fun q8=>load1 q8 h fun q9=>loadN 3 o2 h fun u0=>buildV [(.int .i64 0), (.int .i64 0)] [] fun u1=>buildV [(.slice none 0 0), (.slice none 0 0), (.int .i64 0)] [] fun u2=>s_changed_implNode.call #[q9, s12, u0] h fun u3 h=>still1 q6 q7 h ∧ buildV [(.slice none 0 0), (.slice none 0 0), (.int .i64 0)] [(0, 1, q7), (1, 1, u3)] fun u4=>storeN 3 s8 u4 h fun h=>storeN 2 s9 u1 h fun h=>storeN 3 s10 u2 h fun h=>loadN 3 s8 h fun u5=>loadN 2 s9 h fun u6=>loadN 3 s10 h fun u7=>Q (.tuple #[u5, u6, u7, (.bool false)]) h) (s_put.j12 s1 s6 s8 s9 s10 s12 g o2 q4 q3 h Q))) ∧ (alloc [(.int .i64 0), (.int .i64 0)] 27 h fun u8 h=>still1 m n h ∧ stillN 3 o p h ∧ stillN 2 s7 q h ∧ (s_put.call #[s0, s1, p, q] h fun u9 h=>extr 0 u9 fun v0=>extr 1 u9 fun v1=>extr 2 u9 fun v2=>extr 3 u9 fun v3=>alloc [(.slice none 0 0), (.slice none 0 0), (.int .i64 0)] 25 h fun v4 h=>storeN 3 o2 v0 h fun h=>storeN 2 u8 v1 h fun h=>storeN 3 v4 v2 h fun h=>notV v3 fun v5=>ifV v5 (fld 0 s6 fun v6=>load1 v6 h fun v7=>fld 1 s6 fun v8=>load1 v8 h fun v9=>loadN 3 o2 h fun w0=>buildV [(.int .i64 0), (.int .i64 0)] [] fun w1=>buildV [(.slice none 0 0), (.slice none 0 0), (.int .i64 0)] [] fun w2=>s_changed_implNode.call #[v9, s12, w0] h fun w3 h=>still1 v6 v7 h ∧ buildV [(.slice none 0 0), (.slice none 0 0), (.int .i64 0)] [(0, 1, v7), (1, 1, w3)] fun w4=>storeN 3 s8 w4 h fun h=>storeN 2 s9 w1 h fun h=>storeN 3 s10 w2 h fun h=>loadN 3 s8 h fun w5=>loadN 2 s9 h fun w6=>loadN 3 s10 h fun w7=>Q (.tuple #[w5, w6, w7, (.bool false)]) h) (s_put.j13 s1 s6 s8 s9 s10 s12 g o2 u8 v4 h Q)) ∧ (alloc [(.slice none 0 0), (.slice none 0 0), (.int .i64 0)] 25 h fun w8 h=>still1 m n h ∧ stillN 3 o p h ∧ stillN 2 s7 q h ∧ s_put.call #[s0, s1, p, q] h fun w9 h=>extr 0 w9 fun x0=>extr 1 w9 fun x1=>extr 2 w9 fun x2=>extr 3 w9 fun x3=>storeN 3 o2 x0 h fun h=>storeN 2 u8 x1 h fun h=>storeN 3 w8 x2 h fun h=>notV x3 fun x4=>ifV x4 (fld 0 s6 fun x5=>load1 x5 h fun x6=>fld 1 s6 fun x7=>load1 x7 h fun x8=>loadN 3 o2 h fun x9=>buildV [(.int .i64 0), (.int .i64 0)] [] fun y0=>buildV [(.slice none 0 0), (.slice none 0 0), (.int .i64 0)] [] fun y1=>s_changed_implNode.call #[x8, s12, x9] h fun y2 h=>still1 x5 x6 h ∧ buildV [(.slice none 0 0), (.slice none 0 0), (.int .i64 0)] [(0, 1, x6), (1, 1, y2)] fun y3=>storeN 3 s8 y3 h fun h=>storeN 2 s9 y0 h fun h=>storeN 3 s10 y1 h fun h=>loadN 3 s8 h fun y4=>loadN 2 s9 h fun y5=>loadN 3 s10 h fun y6=>Q (.tuple #[y4, y5, y6, (.bool false)]) h) (s_put.j14 s1 s6 s8 s9 s10 s12 g o2 u8 w8 h Q))) ∧ (alloc [(.slice none 0 0), (.slice none 0 0), (.int .i64 0)] 25 h fun y7 h=>still1 m n h ∧ stillN 3 o p h ∧ stillN 2 s7 q h ∧ (s_put.call #[s0, s1, p, q] h fun y8 h=>extr 0 y8 fun y9=>extr 1 y8 fun z0=>extr 2 y8 fun z1=>extr 3 y8 fun z2=>alloc [(.int .i64 0), (.int .i64 0)] 27 h fun z3 h=>storeN 3 o2 y9 h fun h=>storeN 2 z3 z0 h fun h=>storeN 3 y7 z1 h fun h=>notV z2 fun z4=>ifV z4 (fld 0 s6 fun z5=>load1 z5 h fun z6=>fld 1 s6 fun z7=>load1 z7 h fun z8=>loadN 3 o2 h fun z9=>buildV [(.int .i64 0), (.int .i64 0)] [] fun b0_0=>buildV [(.slice none 0 0), (.slice none 0 0), (.int .i64 0)] [] fun b1_0=>s_changed_implNode.call #[z8, s12, z9] h fun b2_0 h=>still1 z5 z6 h ∧ buildV [(.slice none 0 0), (.slice none 0 0), (.int .i64 0)] [(0, 1, z6), (1, 1, b2_0)] fun b3_0=>storeN 3 s8 b3_0 h fun h=>storeN 2 s9 b0_0 h fun h=>storeN 3 s10 b1_0 h fun h=>loadN 3 s8 h fun b4_0=>loadN 2 s9 h fun b5_0=>loadN 3 s10 h fun b6_0=>Q (.tuple #[b4_0, b5_0, b6_0, (.bool false)]) h) (s_put.j15 s1 s6 s8 s9 s10 s12 g o2 z3 y7 h Q)) ∧ (alloc [(.int .i64 0), (.int .i64 0)] 27 h fun b7_0 h=>still1 m n h ∧ stillN 3 o p h ∧ stillN 2 s7 q h ∧ s_put.call #[s0, s1, p, q] h fun b8_0 h=>extr 0 b8_0 fun b9_0=>extr 1 b8_0 fun d0_0=>extr 2 b8_0 fun d1_0=>extr 3 b8_0 fun d2_0=>storeN 3 o2 b9_0 h fun h=>storeN 2 b7_0 d0_0 h fun h=>storeN 3 y7 d1_0 h fun h=>notV d2_0 fun d3_0=>ifV d3_0 (fld 0 s6 fun d4_0=>load1 d4_0 h fun d5_0=>fld 1 s6 fun d6_0=>load1 d6_0 h fun d7_0=>loadN 3 o2 h fun d8_0=>buildV [(.int .i64 0), (.int .i64 0)] [] fun d9_0=>buildV [(.slice none 0 0), (.slice none 0 0), (.int .i64 0)] [] fun g0_0=>s_changed_implNode.call #[d7_0, s12, d8_0] h fun g1_0 h=>still1 d4_0 d5_0 h ∧ buildV [(.slice none 0 0), (.slice none 0 0), (.int .i64 0)] [(0, 1, d5_0), (1, 1, g1_0)] fun g2_0=>storeN 3 s8 g2_0 h fun h=>storeN 2 s9 d9_0 h fun h=>storeN 3 s10 g0_0 h fun h=>loadN 3 s8 h fun g3_0=>loadN 2 s9 h fun g4_0=>loadN 3 s10 h fun g5_0=>Q (.tuple #[g3_0, g4_0, g5_0, (.bool false)]) h) (s_put.j16 s1 s6 s8 s9 s10 s12 g o2 b7_0 y7 h Q)))) ∧ (alloc [(.int .i64 0), (.int .i64 0)] 27 h fun g6_0 h=>still1 m n h ∧ stillN 3 o p h ∧ stillN 2 s7 q h ∧ (s_put.call #[s0, s1, p, q] h fun g7_0 h=>extr 0 g7_0 fun g8_0=>extr 1 g7_0 fun g9_0=>extr 2 g7_0 fun i0_0=>extr 3 g7_0 fun i1_0=>(alloc [(.slice none 0 0), (.slice none 0 0), (.int .i64 0)] 25 h fun i2_0 h=>alloc [(.slice none 0 0), (.slice none 0 0), (.int .i64 0)] 25 h fun i3_0 h=>storeN 3 i2_0 g8_0 h fun h=>storeN 2 g6_0 g9_0 h fun h=>storeN 3 i3_0 i0_0 h fun h=>notV i1_0 fun i4_0=>ifV i4_0 (fld 0 s6 fun i5_0=>load1 i5_0 h fun i6_0=>fld 1 s6 fun i7_0=>load1 i7_0 h fun i8_0=>loadN 3 i2_0 h fun i9_0=>buildV [(.int .i64 0), (.int .i64 0)] [] fun j0_0=>buildV [(.slice none 0 0), (.slice none 0 0), (.int .i64 0)] [] fun j1_0=>s_changed_implNode.call #[i8_0, s12, i9_0] h fun j2_0 h=>still1 i5_0 i6_0 h ∧ buildV [(.slice none 0 0), (.slice none 0 0), (.int .i64 0)] [(0, 1, i6_0), (1, 1, j2_0)] fun j3_0=>storeN 3 s8 j3_0 h fun h=>storeN 2 s9 j0_0 h fun h=>storeN 3 s10 j1_0 h fun h=>loadN 3 s8 h fun j4_0=>loadN 2 s9 h fun j5_0=>loadN 3 s10 h fun j6_0=>Q (.tuple #[j4_0, j5_0, j6_0, (.bool false)]) h) (s_put.j17 s1 s6 s8 s9 s10 s12 g i2_0 g6_0 i3_0 h Q)) ∧ (alloc [(.slice none 0 0), (.slice none 0 0), (.int .i64 0)] 25 h fun j7_0 h=>alloc [(.slice none 0 0), (.slice none 0 0), (.int .i64 0)] 25 h fun j8_0 h=>storeN 3 j8_0 g8_0 h fun h=>storeN 2 g6_0 g9_0 h fun h=>storeN 3 j7_0 i0_0 h fun h=>notV i1_0 fun j9_0=>ifV j9_0 (fld 0 s6 fun k0_0=>load1 k0_0 h fun k1_0=>fld 1 s6 fun k2_0=>load1 k2_0 h fun k3_0=>loadN 3 j8_0 h fun k4_0=>buildV [(.int .i64 0), (.int .i64 0)] [] fun k5_0=>buildV [(.slice none 0 0), (.slice none 0 0), (.int .i64 0)] [] fun k6_0=>s_changed_implNode.call #[k3_0, s12, k4_0] h fun k7_0 h=>still1 k0_0 k1_0 h ∧ buildV [(.slice none 0 0), (.slice none 0 0), (.int .i64 0)] [(0, 1, k1_0), (1, 1, k7_0)] fun k8_0=>storeN 3 s8 k8_0 h fun h=>storeN 2 s9 k5_0 h fun h=>storeN 3 s10 k6_0 h fun h=>loadN 3 s8 h fun k9_0=>loadN 2 s9 h fun l0_0=>loadN 3 s10 h fun l1_0=>Q (.tuple #[k9_0, l0_0, l1_0, (.bool false)]) h) (s_put.j18 s1 s6 s8 s9 s10 s12 g j8_0 g6_0 j7_0 h Q))) ∧ (alloc [(.slice none 0 0), (.slice none 0 0), (.int .i64 0)] 25 h fun l2_0 h=>still1 m n h ∧ stillN 3 o p h ∧ stillN 2 s7 q h ∧ (s_put.call #[s0, s1, p, q] h fun l3_0 h=>extr 0 l3_0 fun l4_0=>extr 1 l3_0 fun l5_0=>extr 2 l3_0 fun l6_0=>extr 3 l3_0 fun l7_0=>alloc [(.slice none 0 0), (.slice none 0 0), (.int .i64 0)] 25 h fun l8_0 h=>storeN 3 l2_0 l4_0 h fun h=>storeN 2 g6_0 l5_0 h fun h=>storeN 3 l8_0 l6_0 h fun h=>notV l7_0 fun l9_0=>ifV l9_0 (fld 0 s6 fun m0_0=>load1 m0_0 h fun m1_0=>fld 1 s6 fun m2_0=>load1 m2_0 h fun m3_0=>loadN 3 l2_0 h fun m4_0=>buildV [(.int .i64 0), (.int .i64 0)] [] fun m5_0=>buildV [(.slice none 0 0), (.slice none 0 0), (.int .i64 0)] [] fun m6_0=>s_changed_implNode.call #[m3_0, s12, m4_0] h fun m7_0 h=>still1 m0_0 m1_0 h ∧ buildV [(.slice none 0 0), (.slice none 0 0), (.int .i64 0)] [(0, 1, m1_0), (1, 1, m7_0)] fun m8_0=>storeN 3 s8 m8_0 h fun h=>storeN 2 s9 m5_0 h fun h=>storeN 3 s10 m6_0 h fun h=>loadN 3 s8 h fun m9_0=>loadN 2 s9 h fun n0_0=>loadN 3 s10 h fun n1_0=>Q (.tuple #[m9_0, n0_0, n1_0, (.bool false)]) h) (s_put.j19 s1 s6 s8 s9 s10 s12 g l2_0 g6_0 l8_0 h Q)) ∧ (alloc [(.slice none 0 0), (.slice none 0 0), (.int .i64 0)] 25 h fun n2_0 h=>still1 m n h ∧ stillN 3 o p h ∧ stillN 2 s7 q h ∧ s_put.call #[s0, s1, p, q] h fun n3_0 h=>extr 0 n3_0 fun n4_0=>extr 1 n3_0 fun n5_0=>extr 2 n3_0 fun n6_0=>extr 3 n3_0 fun n7_0=>storeN 3 l2_0 n4_0 h fun h=>storeN 2 g6_0 n5_0 h fun h=>storeN 3 n2_0 n6_0 h fun h=>notV n7_0 fun n8_0=>ifV n8_0 (fld 0 s6 fun n9_0=>load1 n9_0 h fun o0_0=>fld 1 s6 fun o1_0=>load1 o1_0 h fun o2_0=>loadN 3 l2_0 h fun o3_0=>buildV [(.int .i64 0), (.int .i64 0)] [] fun o4_0=>buildV [(.slice none 0 0), (.slice none 0 0), (.int .i64 0)] [] fun o5_0=>s_changed_implNode.call #[o2_0, s12, o3_0] h fun o6_0 h=>still1 n9_0 o0_0 h ∧ buildV [(.slice none 0 0), (.slice none 0 0), (.int .i64 0)] [(0, 1, o0_0), (1, 1, o6_0)] fun o7_0=>storeN 3 s8 o7_0 h fun h=>storeN 2 s9 o4_0 h fun h=>storeN 3 s10 o5_0 h fun h=>loadN 3 s8 h fun o8_0=>loadN 2 s9 h fun o9_0=>loadN 3 s10 h fun p0_0=>Q (.tuple #[o8_0, o9_0, p0_0, (.bool false)]) h) (s_put.j20 s1 s6 s8 s9 s10 s12 g l2_0 g6_0 n2_0 h Q))) ∧ (alloc [(.slice none 0 0), (.slice none 0 0), (.int .i64 0)] 25 h fun p1_0 h=>still1 m n h ∧ stillN 3 o p h ∧ stillN 2 s7 q h ∧ (s_put.call #[s0, s1, p, q] h fun p2_0 h=>extr 0 p2_0 fun p3_0=>extr 1 p2_0 fun p4_0=>extr 2 p2_0 fun p5_0=>extr 3 p2_0 fun p6_0=>alloc [(.slice none 0 0), (.slice none 0 0), (.int .i64 0)] 25 h fun p7_0 h=>storeN 3 p7_0 p3_0 h fun h=>storeN 2 g6_0 p4_0 h fun h=>storeN 3 p1_0 p5_0 h fun h=>notV p6_0 fun p8_0=>ifV p8_0 (fld 0 s6 fun p9_0=>load1 p9_0 h fun q0_0=>fld 1 s6 fun q1_0=>load1 q1_0 h fun q2_0=>loadN 3 p7_0 h fun q3_0=>buildV [(.int .i64 0), (.int .i64 0)] [] fun q4_0=>buildV [(.slice none 0 0), (.slice none 0 0), (.int .i64 0)] [] fun q5_0=>s_changed_implNode.call #[q2_0, s12, q3_0] h fun q6_0 h=>still1 p9_0 q0_0 h ∧ buildV [(.slice none 0 0), (.slice none 0 0), (.int .i64 0)] [(0, 1, q0_0), (1, 1, q6_0)] fun q7_0=>storeN 3 s8 q7_0 h fun h=>storeN 2 s9 q4_0 h fun h=>storeN 3 s10 q5_0 h fun h=>loadN 3 s8 h fun q8_0=>loadN 2 s9 h fun q9_0=>loadN 3 s10 h fun u0_0=>Q (.tuple #[q8_0, q9_0, u0_0, (.bool false)]) h) (s_put.j21 s1 s6 s8 s9 s10 s12 g p7_0 g6_0 p1_0 h Q)) ∧ (alloc [(.slice none 0 0), (.slice none 0 0), (.int .i64 0)] 25 h fun u1_0 h=>still1 m n h ∧ stillN 3 o p h ∧ stillN 2 s7 q h ∧ s_put.call #[s0, s1, p, q] h fun u2_0 h=>extr 0 u2_0 fun u3_0=>extr 1 u2_0 fun u4_0=>extr 2 u2_0 fun u5_0=>extr 3 u2_0 fun u6_0=>storeN 3 u1_0 u3_0 h fun h=>storeN 2 g6_0 u4_0 h fun h=>storeN 3 p1_0 u5_0 h fun h=>notV u6_0 fun u7_0=>ifV u7_0 (fld 0 s6 fun u8_0=>load1 u8_0 h fun u9_0=>fld 1 s6 fun v0_0=>load1 v0_0 h fun v1_0=>loadN 3 u1_0 h fun v2_0=>buildV [(.int .i64 0), (.int .i64 0)] [] fun v3_0=>buildV [(.slice none 0 0), (.slice none 0 0), (.int .i64 0)] [] fun v4_0=>s_changed_implNode.call #[v1_0, s12, v2_0] h fun v5_0 h=>still1 u8_0 u9_0 h ∧ buildV [(.slice none 0 0), (.slice none 0 0), (.int .i64 0)] [(0, 1, u9_0), (1, 1, v5_0)] fun v6_0=>storeN 3 s8 v6_0 h fun h=>storeN 2 s9 v3_0 h fun h=>storeN 3 s10 v4_0 h fun h=>loadN 3 s8 h fun v7_0=>loadN 2 s9 h fun v8_0=>loadN 3 s10 h fun v9_0=>Q (.tuple #[v7_0, v8_0, v9_0, (.bool false)]) h) (s_put.j22 s1 s6 s8 s9 s10 s12 g u1_0 g6_0 p1_0 h Q)))) ∧ (alloc [(.slice none 0 0), (.slice none 0 0), (.int .i64 0)] 25 h fun w0_0 h=>still1 m n h ∧ stillN 3 o p h ∧ stillN 2 s7 q h ∧ (s_put.call #[s0, s1, p, q] h fun w1_0 h=>extr 0 w1_0 fun w2_0=>extr 1 w1_0 fun w3_0=>extr 2 w1_0 fun w4_0=>extr 3 w1_0 fun w5_0=>(alloc [(.slice none 0 0), (.slice none 0 0), (.int .i64 0)] 25 h fun w6_0 h=>alloc [(.int .i64 0), (.int .i64 0)] 27 h fun w7_0 h=>storeN 3 w6_0 w2_0 h fun h=>storeN 2 w7_0 w3_0 h fun h=>storeN 3 w0_0 w4_0 h fun h=>notV w5_0 fun w8_0=>ifV w8_0 (fld 0 s6 fun w9_0=>load1 w9_0 h fun x0_0=>fld 1 s6 fun x1_0=>load1 x1_0 h fun x2_0=>loadN 3 w6_0 h fun x3_0=>buildV [(.int .i64 0), (.int .i64 0)] [] fun x4_0=>buildV [(.slice none 0 0), (.slice none 0 0), (.int .i64 0)] [] fun x5_0=>s_changed_implNode.call #[x2_0, s12, x3_0] h fun x6_0 h=>still1 w9_0 x0_0 h ∧ buildV [(.slice none 0 0), (.slice none 0 0), (.int .i64 0)] [(0, 1, x0_0), (1, 1, x6_0)] fun x7_0=>storeN 3 s8 x7_0 h fun h=>storeN 2 s9 x4_0 h fun h=>storeN 3 s10 x5_0 h fun h=>loadN 3 s8 h fun x8_0=>loadN 2 s9 h fun x9_0=>loadN 3 s10 h fun y0_0=>Q (.tuple #[x8_0, x9_0, y0_0, (.bool false)]) h) (s_put.j23 s1 s6 s8 s9 s10 s12 g w6_0 w7_0 w0_0 h Q)) ∧ (alloc [(.int .i64 0), (.int .i64 0)] 27 h fun y1_0 h=>alloc [(.slice none 0 0), (.slice none 0 0), (.int .i64 0)] 25 h fun y2_0 h=>storeN 3 y2_0 w2_0 h fun h=>storeN 2 y1_0 w3_0 h fun h=>storeN 3 w0_0 w4_0 h fun h=>notV w5_0 fun y3_0=>ifV y3_0 (fld 0 s6 fun y4_0=>load1 y4_0 h fun y5_0=>fld 1 s6 fun y6_0=>load1 y6_0 h fun y7_0=>loadN 3 y2_0 h fun y8_0=>buildV [(.int .i64 0), (.int .i64 0)] [] fun y9_0=>buildV [(.slice none 0 0), (.slice none 0 0), (.int .i64 0)] [] fun z0_0=>s_changed_implNode.call #[y7_0, s12, y8_0] h fun z1_0 h=>still1 y4_0 y5_0 h ∧ buildV [(.slice none 0 0), (.slice none 0 0), (.int .i64 0)] [(0, 1, y5_0), (1, 1, z1_0)] fun z2_0=>storeN 3 s8 z2_0 h fun h=>storeN 2 s9 y9_0 h fun h=>storeN 3 s10 z0_0 h fun h=>loadN 3 s8 h fun z3_0=>loadN 2 s9 h fun z4_0=>loadN 3 s10 h fun z5_0=>Q (.tuple #[z3_0, z4_0, z5_0, (.bool false)]) h) (s_put.j24 s1 s6 s8 s9 s10 s12 g y2_0 y1_0 w0_0 h Q))) ∧ (alloc [(.slice none 0 0), (.slice none 0 0), (.int .i64 0)] 25 h fun z6_0 h=>still1 m n h ∧ stillN 3 o p h ∧ stillN 2 s7 q h ∧ (s_put.call #[s0, s1, p, q] h fun z7_0 h=>extr 0 z7_0 fun z8_0=>extr 1 z7_0 fun z9_0=>extr 2 z7_0 fun b0_1=>extr 3 z7_0 fun b1_1=>alloc [(.int .i64 0), (.int .i64 0)] 27 h fun b2_1 h=>storeN 3 z6_0 z8_0 h fun h=>storeN 2 b2_1 z9_0 h fun h=>storeN 3 w0_0 b0_1 h fun h=>notV b1_1 fun b3_1=>ifV b3_1 (fld 0 s6 fun b4_1=>load1 b4_1 h fun b5_1=>fld 1 s6 fun b6_1=>load1 b6_1 h fun b7_1=>loadN 3 z6_0 h fun b8_1=>buildV [(.int .i64 0), (.int .i64 0)] [] fun b9_1=>buildV [(.slice none 0 0), (.slice none 0 0), (.int .i64 0)] [] fun d0_1=>s_changed_implNode.call #[b7_1, s12, b8_1] h fun d1_1 h=>still1 b4_1 b5_1 h ∧ buildV [(.slice none 0 0), (.slice none 0 0), (.int .i64 0)] [(0, 1, b5_1), (1, 1, d1_1)] fun d2_1=>storeN 3 s8 d2_1 h fun h=>storeN 2 s9 b9_1 h fun h=>storeN 3 s10 d0_1 h fun h=>loadN 3 s8 h fun d3_1=>loadN 2 s9 h fun d4_1=>loadN 3 s10 h fun d5_1=>Q (.tuple #[d3_1, d4_1, d5_1, (.bool false)]) h) (s_put.j25 s1 s6 s8 s9 s10 s12 g z6_0 b2_1 w0_0 h Q)) ∧ (alloc [(.int .i64 0), (.int .i64 0)] 27 h fun d6_1 h=>still1 m n h ∧ stillN 3 o p h ∧ stillN 2 s7 q h ∧ s_put.call #[s0, s1, p, q] h fun d7_1 h=>extr 0 d7_1 fun d8_1=>extr 1 d7_1 fun d9_1=>extr 2 d7_1 fun g0_1=>extr 3 d7_1 fun g1_1=>storeN 3 z6_0 d8_1 h fun h=>storeN 2 d6_1 d9_1 h fun h=>storeN 3 w0_0 g0_1 h fun h=>notV g1_1 fun g2_1=>ifV g2_1 (fld 0 s6 fun g3_1=>load1 g3_1 h fun g4_1=>fld 1 s6 fun g5_1=>load1 g5_1 h fun g6_1=>loadN 3 z6_0 h fun g7_1=>buildV [(.int .i64 0), (.int .i64 0)] [] fun g8_1=>buildV [(.slice none 0 0), (.slice none 0 0), (.int .i64 0)] [] fun g9_1=>s_changed_implNode.call #[g6_1, s12, g7_1] h fun i0_1 h=>still1 g3_1 g4_1 h ∧ buildV [(.slice none 0 0), (.slice none 0 0), (.int .i64 0)] [(0, 1, g4_1), (1, 1, i0_1)] fun i1_1=>storeN 3 s8 i1_1 h fun h=>storeN 2 s9 g8_1 h fun h=>storeN 3 s10 g9_1 h fun h=>loadN 3 s8 h fun i2_1=>loadN 2 s9 h fun i3_1=>loadN 3 s10 h fun i4_1=>Q (.tuple #[i2_1, i3_1, i4_1, (.bool false)]) h) (s_put.j26 s1 s6 s8 s9 s10 s12 g z6_0 d6_1 w0_0 h Q))) ∧ (alloc [(.int .i64 0), (.int .i64 0)] 27 h fun i5_1 h=>still1 m n h ∧ stillN 3 o p h ∧ stillN 2 s7 q h ∧ (s_put.call #[s0, s1, p, q] h fun i6_1 h=>extr 0 i6_1 fun i7_1=>extr 1 i6_1 fun i8_1=>extr 2 i6_1 fun i9_1=>extr 3 i6_1 fun j0_1=>alloc [(.slice none 0 0), (.slice none 0 0), (.int .i64 0)] 25 h fun j1_1 h=>storeN 3 j1_1 i7_1 h fun h=>storeN 2 i5_1 i8_1 h fun h=>storeN 3 w0_0 i9_1 h fun h=>notV j0_1 fun j2_1=>ifV j2_1 (fld 0 s6 fun j3_1=>load1 j3_1 h fun j4_1=>fld 1 s6 fun j5_1=>load1 j5_1 h fun j6_1=>loadN 3 j1_1 h fun j7_1=>buildV [(.int .i64 0), (.int .i64 0)] [] fun j8_1=>buildV [(.slice none 0 0), (.slice none 0 0), (.int .i64 0)] [] fun j9_1=>s_changed_implNode.call #[j6_1, s12, j7_1] h fun k0_1 h=>still1 j3_1 j4_1 h ∧ buildV [(.slice none 0 0), (.slice none 0 0), (.int .i64 0)] [(0, 1, j4_1), (1, 1, k0_1)] fun k1_1=>storeN 3 s8 k1_1 h fun h=>storeN 2 s9 j8_1 h fun h=>storeN 3 s10 j9_1 h fun h=>loadN 3 s8 h fun k2_1=>loadN 2 s9 h fun k3_1=>loadN 3 s10 h fun k4_1=>Q (.tuple #[k2_1, k3_1, k4_1, (.bool false)]) h) (s_put.j27 s1 s6 s8 s9 s10 s12 g j1_1 i5_1 w0_0 h Q)) ∧ (alloc [(.slice none 0 0), (.slice none 0 0), (.int .i64 0)] 25 h fun k5_1 h=>still1 m n h ∧ stillN 3 o p h ∧ stillN 2 s7 q h ∧ s_put.call #[s0, s1, p, q] h fun k6_1 h=>extr 0 k6_1 fun k7_1=>extr 1 k6_1 fun k8_1=>extr 2 k6_1 fun k9_1=>extr 3 k6_1 fun l0_1=>storeN 3 k5_1 k7_1 h fun h=>storeN 2 i5_1 k8_1 h fun h=>storeN 3 w0_0 k9_1 h fun h=>notV l0_1 fun l1_1=>ifV l1_1 (fld 0 s6 fun l2_1=>load1 l2_1 h fun l3_1=>fld 1 s6 fun l4_1=>load1 l4_1 h fun l5_1=>loadN 3 k5_1 h fun l6_1=>buildV [(.int .i64 0), (.int .i64 0)] [] fun l7_1=>buildV [(.slice none 0 0), (.slice none 0 0), (.int .i64 0)] [] fun l8_1=>s_changed_implNode.call #[l5_1, s12, l6_1] h fun l9_1 h=>still1 l2_1 l3_1 h ∧ buildV [(.slice none 0 0), (.slice none 0 0), (.int .i64 0)] [(0, 1, l3_1), (1, 1, l9_1)] fun m0_1=>storeN 3 s8 m0_1 h fun h=>storeN 2 s9 l7_1 h fun h=>storeN 3 s10 l8_1 h fun h=>loadN 3 s8 h fun m1_1=>loadN 2 s9 h fun m2_1=>loadN 3 s10 h fun m3_1=>Q (.tuple #[m1_1, m2_1, m3_1, (.bool false)]) h) (s_put.j28 s1 s6 s8 s9 s10 s12 g k5_1 i5_1 w0_0 h Q))))) (s_put.j2 s1 s6 s8 s9 s10 s12 g d h Q)
def s_put.sh (a0 a1 a2 a3 : Value) (h : Heap) (Q : Value → Heap → Prop) : Prop := box 25 a2 h fun b h=>box 27 a3 h fun d h=>alloc [(.slice none 0 0), (.slice none 0 0), (.int .i64 0)] 25 h fun g h=>alloc [(.int .i64 0), (.int .i64 0)] 27 h fun i h=>alloc [(.slice none 0 0), (.slice none 0 0), (.int .i64 0)] 25 h fun j h=>loadN 3 b h fun k=>loadN 2 d h fun l=>s_child.call #[a0, k, l] h fun m h=>extr 0 m fun n=>extr 1 m fun o=>ifV o (fld 0 b fun p=>load1 p h fun q=>loadN 2 d h fun u=>fld 1 b fun v=>load1 v h fun w=>buildV [(.int .i64 0), (.int .i64 0)] [] fun x=>buildV [(.slice none 0 0), (.slice none 0 0), (.int .i64 0)] [] fun y=>s_changed_I.call #[q, n, u] h fun z h=>still1 v w h ∧ buildV [(.slice none 0 0), (.slice none 0 0), (.int .i64 0)] [(0, 1, z), (1, 1, w)] fun b0=>storeN 3 g b0 h fun h=>storeN 2 i x h fun h=>storeN 3 j y h fun h=>loadN 3 g h fun b1=>loadN 2 i h fun b2=>loadN 3 j h fun b3=>Q (.tuple #[b1, b2, b3, (.bool false)]) h) (s_put.j1 a0 a1 b d g i j n h Q)
theorem s_put.body (a0 a1 a2 a3 : Value) (h : Heap) (Q : Value → Heap → Prop) (H : s_put.sh a0 a1 a2 a3 h Q) : s_put.call #[a0, a1, a2, a3] h Q := by
  refine callsH_of (args := [a0, a1, a2, a3]) Try.func69 rfl rfl ?_
  unfold s_put.sh at H
  refine sR <| vl_n <| H_box H fun _ h H => vl_n <| H_box H fun _ h H => vl_n <| H_alloc TV_25 H fun _ h H => vl_n <| H_alloc TV_27 H fun _ h H => vl_n <| H_alloc TV_25 H fun _ h H => nS (.bool false) rfl <| vl_e <| sR <| nM a0 rfl <| nLN TN_25 H fun _ H => nLN TN_27 H fun _ H => vl_n <| H_call HB_135 H fun t27 h H => nM t27 rfl ?_
  refine nP R_ext H fun t28 H => nP R_ext H fun t29 H => nS t28 rfl <| nS t29 rfl <| vl_e ?_
  refine WPc_seq (fun e h => s_put.j1 (e 0) (e 1) (e 6) (e 7) (e 8) (e 9) (e 10) (e 12) h Q) ?_ (fun e h H => ?_)
  rotate_left
  · unfold s_put.j1 at H
    refine sR <| nLN TN_27 H fun _ H => vl_n <| H_mkSl TZ_23 (by decide) rfl H rfl fun t42 h H => vl_n <| H_alloc TV_27 H fun _ h H => vl_n <| H_storeN TS_27 H fun h H => nS t42 rfl <| vl_e ?_
    refine WPc_seq (fun e h => s_put.j2 (e 1) (e 6) (e 8) (e 9) (e 10) (e 12) (e 14) (e 15) h Q) ?_ (fun e h H => ?_)
    rotate_left
    · unfold s_put.j2 at H
      refine WPc_seq (fun e h => s_put.j3 (e 1) (e 6) (e 8) (e 9) (e 10) (e 12) (e 14) (e 15) h Q) ?_ (fun e h H => ?_)
      rotate_left
      · unfold s_put.j3 at H
        refine sR <| nM (e 1) rfl <| nLN TN_25 H fun _ H => vl_n <| H_call HB_139 H fun t94 h H => nM t94 rfl <| nP R_ext H fun _ H => nP R_ext H fun _ H => nP R_ext H fun _ H => vl_n <| H_alloc TV_25 H fun _ h H => vl_n <| H_alloc TV_27 H fun _ h H => vl_n <| H_alloc TV_25 H fun _ h H => vl_n <| H_storeN TS_25 H fun h H => vl_n <| H_storeN TS_27 H fun h H => vl_n <| H_storeN TS_25 H fun h H => ?_
        refine vl_e ?_
        refine WPc_seq (fun e h => s_put.j4 (e 1) (e 8) (e 9) (e 10) (e 12) (e 14) (e 15) (e 20) (e 21) (e 22) h Q) ?_ (fun e h H => ?_)
        rotate_left
        · unfold s_put.j4 at H
          refine WPc_seq' <| W_drawn [0, 0, 0, 0, 0, 24, 0, 0, 252, 509, 1023, 2047, 4095] (.take 0 (.take 1 (.take 2 (.take 3 (.take 4 (.take 5 (.take 6 (.take 7 (.alt 8 (.alt 9 (.alt 10 (.alt 11 (.take 12 .done) .none) .none) .none) .none))))))))) mixed (by kernel_rfl) <| tkL rfl <| R_loadN TN_25 H fun _ _ hat108 _ H _ hSt108 => tkL rfl <| R_loadN TN_27 H fun _ _ hat109 _ H _ hSt109 => tkL rfl <| R_loadN TN_25 H fun _ _ _ _ H _ _ => pM (e 12) rfl rfl <| pM (e 1) rfl rfl <| pP rfl R_sub H fun _ H => tkL rfl <| R_loadN TN_27 H fun _ _ _ _ H _ _ => pM (e 15) rfl rfl <| aE rfl <| H_call HB_138 H fun _ h ⟨S, S_2, H⟩ => ⟨(hskip rfl (hskip rfl (hcons rfl (hSt109 _ (still_N S_2 hat109 rfl)) (hcons rfl (hSt108 _ (still_N S hat108 rfl)) hnil)))), aE rfl <| H_storeN TS_25 H fun h ⟨S_3, H⟩ => ⟨(hcons rfl (hSt109 _ (still_N S_3 hat109 rfl)) (hskip rfl hnil)), aE rfl <| H_storeN TS_27 H fun h H => ⟨(hskip rfl hnil), aE rfl <| H_storeN TS_25 H fun h H => ⟨hnil, ?_⟩⟩⟩⟩
          exact pS (.bool true) rfl rfl <| vp_done <| WPc_ret <| resH_of rfl <| resL_N TN_25 <| loadN_imp H fun r8 H => resL_N TN_27 <| loadN_imp H fun r9 H => resL_N TN_25 <| loadN_imp H fun r10 H => resL_t <| H
        refine sR <| nM (e 12) rfl <| nM (e 1) rfl <| nP R_lss H fun _ H => vl_e ?_
        refine cI H (fun H => ?_) fun H => ?_
        · refine WPc_seq' <| W_drawn [0, 0, 0, 0, 15, 0, 0, 31, 191, 511, 1023] (.take 0 (.take 1 (.take 2 (.take 3 (.take 5 (.take 6 (.alt 4 (.alt 7 (.alt 8 (.alt 9 (.take 10 .done) .none) .none) .none) .none))))))) mixed (by kernel_rfl) <| tkL rfl <| R_loadN TN_25 H fun _ _ _ _ H _ _ => pM (e 12) rfl rfl <| tkL rfl <| R_loadN TN_27 H fun _ _ _ _ H _ _ => pM (e 15) rfl rfl <| tkL rfl <| R_loadN TN_27 H fun _ _ hat106 _ H _ hSt106 => tkL rfl <| R_loadN TN_25 H fun _ _ hat107 _ H _ hSt107 => aE rfl <| H_call HB_138 H fun _ h ⟨S, S_2, H⟩ => ⟨(hcons rfl (hSt107 _ (still_N S_2 hat107 rfl)) (hcons rfl (hSt106 _ (still_N S hat106 rfl)) (hskip rfl (hskip rfl hnil)))), aE rfl <| H_storeN TS_25 H fun h ⟨S_3, S_4, H⟩ => ⟨(hcons rfl (hSt107 _ (still_N S_4 hat107 rfl)) (hcons rfl (hSt106 _ (still_N S_3 hat106 rfl)) hnil)), aE rfl <| H_storeN TS_27 H fun h ⟨S_5, H⟩ => ⟨(hcons rfl (hSt107 _ (still_N S_5 hat107 rfl)) (hskip rfl hnil)), aE rfl <| H_storeN TS_25 H fun h H => ⟨(hskip rfl hnil), pS (.bool true) rfl rfl <| vp_done ?_⟩⟩⟩⟩
          exact WPc_ret <| resH_of rfl <| resL_N TN_25 <| loadN_imp H fun r8 H => resL_N TN_27 <| loadN_imp H fun r9 H => resL_N TN_25 <| loadN_imp H fun r10 H => resL_t <| H
        · exact WPc_skip <| H
      refine sR <| nP (R_fld TF_25_0) H fun _ H => nL T1_22 H fun _ H => nP (R_len Try.underlying22) H fun _ H => nM (e 1) rfl <| nP R_mul H fun _ H => nP R_sub H fun _ H => nP R_lss H fun _ H => vl_e ?_
      refine cI H (fun H => ?_) fun H => ?_
      · refine sR <| nLN TN_25 H fun _ H => nM (e 12) rfl <| nLN TN_27 H fun _ H => nM (e 15) rfl <| vl_n <| H_call HB_138 H fun _ h H => nP (R_build TB_27 rfl (by decide)) H fun _ H => nP (R_build TB_25 rfl (by decide)) H fun _ H => vl_n <| H_storeN TS_25 H fun h H => vl_n <| H_storeN TS_27 H fun h H => vl_n <| H_storeN TS_25 H fun h H => nS (.bool false) rfl <| vl_e <| WPc_ret ?_
        exact resH_of rfl <| resL_N TN_25 <| loadN_imp H fun r8 H => resL_N TN_27 <| loadN_imp H fun r9 H => resL_N TN_25 <| loadN_imp H fun r10 H => resL_t <| H
      · exact WPc_skip <| H
    refine sR <| nP (R_fld TF_25_1) H fun _ H => nL T1_23 H fun _ H => nP (R_len Try.underlying23) H fun _ H => nP R_gtr H fun _ H => vl_e ?_
    refine cI H (fun H => ?_) fun H => ?_
    · refine WPc_seq' <| W_drawn [0, 0, 0, 4, 0, 28, 60, 0, 255, 511, 1023, 1023, 1023, 1023, 0, 0, 0, 116735, 249855, 516095, 1048575] (.take 0 (.take 1 (.take 2 (.take 3 (.take 4 (.take 5 (.take 6 (.take 7 (.alt 8 (.take 9 (.take 10 (.take 11 (.take 12 (.take 13 (.alt 14 (.alt 15 (.alt 16 (.alt 17 (.alt 18 (.alt 19 (.take 20 .done) .none) .none) .none) .none) (.alt 16 (.alt 15 (.alt 17 (.alt 18 (.alt 19 (.take 20 .done) .none) .none) .none) .none) .none)) (.alt 15 (.alt 14 (.alt 16 (.alt 17 (.alt 18 (.alt 19 (.take 20 .done) .none) .none) .none) .none) (.alt 16 (.alt 14 (.alt 17 (.alt 18 (.alt 19 (.take 20 .done) .none) .none) .none) .none) .none)) (.alt 16 (.alt 14 (.alt 15 (.alt 17 (.alt 18 (.alt 19 (.take 20 .done) .none) .none) .none) .none) (.alt 15 (.alt 14 (.alt 17 (.alt 18 (.alt 19 (.take 20 .done) .none) .none) .none) .none) .none)) .none)))))))) (.alt 14 (.alt 8 (.take 9 (.take 10 (.take 11 (.take 12 (.take 13 (.alt 15 (.alt 16 (.alt 17 (.alt 18 (.alt 19 (.take 20 .done) .none) .none) .none) .none) (.alt 16 (.alt 15 (.alt 17 (.alt 18 (.alt 19 (.take 20 .done) .none) .none) .none) .none) .none))))))) (.alt 15 (.alt 8 (.take 9 (.take 10 (.take 11 (.take 12 (.take 13 (.alt 16 (.alt 17 (.alt 18 (.alt 19 (.take 20 .done) .none) .none) .none) .none)))))) (.alt 16 (.alt 8 (.take 9 (.take 10 (.take 11 (.take 12 (.take 13 (.alt 17 (.alt 18 (.alt 19 (.take 20 .done) .none) .none) .none)))))) .none) .none)) (.alt 16 (.alt 8 (.take 9 (.take 10 (.take 11 (.take 12 (.take 13 (.alt 15 (.alt 17 (.alt 18 (.alt 19 (.take 20 .done) .none) .none) .none) .none)))))) (.alt 15 (.alt 8 (.take 9 (.take 10 (.take 11 (.take 12 (.take 13 (.alt 17 (.alt 18 (.alt 19 (.take 20 .done) .none) .none) .none)))))) .none) .none)) .none))) (.alt 15 (.alt 8 (.take 9 (.take 10 (.take 11 (.take 12 (.take 13 (.alt 14 (.alt 16 (.alt 17 (.alt 18 (.alt 19 (.take 20 .done) .none) .none) .none) .none) (.alt 16 (.alt 14 (.alt 17 (.alt 18 (.alt 19 (.take 20 .done) .none) .none) .none) .none) .none))))))) (.alt 14 (.alt 8 (.take 9 (.take 10 (.take 11 (.take 12 (.take 13 (.alt 16 (.alt 17 (.alt 18 (.alt 19 (.take 20 .done) .none) .none) .none) .none)))))) (.alt 16 (.alt 8 (.take 9 (.take 10 (.take 11 (.take 12 (.take 13 (.alt 17 (.alt 18 (.alt 19 (.take 20 .done) .none) .none) .none)))))) .none) .none)) (.alt 16 (.alt 8 (.take 9 (.take 10 (.take 11 (.take 12 (.take 13 (.alt 14 (.alt 17 (.alt 18 (.alt 19 (.take 20 .done) .none) .none) .none) .none)))))) (.alt 14 (.alt 8 (.take 9 (.take 10 (.take 11 (.take 12 (.take 13 (.alt 17 (.alt 18 (.alt 19 (.take 20 .done) .none) .none) .none)))))) .none) .none)) .none))) (.alt 16 (.alt 8 (.take 9 (.take 10 (.take 11 (.take 12 (.take 13 (.alt 14 (.alt 15 (.alt 17 (.alt 18 (.alt 19 (.take 20 .done) .none) .none) .none) .none) (.alt 15 (.alt 14 (.alt 17 (.alt 18 (.alt 19 (.take 20 .done) .none) .none) .none) .none) .none))))))) (.alt 14 (.alt 8 (.take 9 (.take 10 (.take 11 (.take 12 (.take 13 (.alt 15 (.alt 17 (.alt 18 (.alt 19 (.take 20 .done) .none) .none) .none) .none)))))) (.alt 15 (.alt 8 (.take 9 (.take 10 (.take 11 (.take 12 (.take 13 (.alt 17 (.alt 18 (.alt 19 (.take 20 .done) .none) .none) .none)))))) .none) .none)) (.alt 15 (.alt 8 (.take 9 (.take 10 (.take 11 (.take 12 (.take 13 (.alt 14 (.alt 17 (.alt 18 (.alt 19 (.take 20 .done) .none) .none) .none) .none)))))) (.alt 14 (.alt 8 (.take 9 (.take 10 (.take 11 (.take 12 (.take 13 (.alt 17 (.alt 18 (.alt 19 (.take 20 .done) .none) .none) .none)))))) .none) .none)) .none))) .none)))))))))))) mixed (by kernel_rfl) <| pM (e 0) rfl rfl <| pM (e 1) rfl rfl <| pP rfl (R_fld TF_25_1) H fun _ H => pL rfl T1_23 H fun _ _ hat51 H => pM (e 12) rfl rfl <| pP rfl (R_idx TE_23) H fun _ H => tkL rfl <| R_loadN TN_25 H fun _ _ hat54 _ H _ hSt54 => tkL rfl <| R_loadN TN_27 H fun _ _ hat55 _ H _ hSt55 => ?_
      obtain ⟨HA0, HA1, HA2, HA3⟩ := H
      refine alt_n rfl ?_ ?_
      · have H := HA0
        clear HA0 HA1 HA2 HA3
        refine H_call HB_69 H fun t56 h H => ⟨(hskip rfl (hskip rfl (hskip rfl hnil))), ?_⟩
        refine pM t56 rfl rfl <| pP rfl R_ext H fun _ H => pP rfl R_ext H fun _ H => pP rfl R_ext H fun _ H => pP rfl R_ext H fun t60 H => ?_
        obtain ⟨HA0, HA1, HA2⟩ := H
        refine alt_n rfl ?_ ?_
        · have H := HA0
          clear HA0 HA1 HA2
          refine H_alloc TV_25 H fun _ h H => ⟨hnil, ?_⟩
          obtain ⟨HA0, HA1⟩ := H
          refine alt_n rfl ?_ ?_
          · have H := HA0
            clear HA0 HA1
            refine H_alloc TV_27 H fun _ h H => ⟨hnil, ?_⟩
            refine aE rfl <| H_alloc TV_25 H fun _ h H => ⟨hnil, aE rfl <| H_storeN TS_25 H fun h H => ⟨hnil, aE rfl <| H_storeN TS_27 H fun h H => ⟨hnil, aE rfl <| H_storeN TS_25 H fun h H => ⟨hnil, pS t60 rfl rfl <| vp_done ?_⟩⟩⟩⟩
            refine WPc_seq (fun e h => s_put.j5 (e 1) (e 6) (e 8) (e 9) (e 10) (e 12) (e 14) (e 16) (e 17) (e 18) h Q) ?_ (fun e h H => ?_)
            rotate_left
            · unfold s_put.j5 at H
              refine W_drawn [0, 0, 0, 6, 1, 31] (.take 0 (.take 1 (.take 2 (.alt 3 (.alt 4 (.take 5 .done) .none) (.alt 4 (.alt 3 (.take 5 .done) .none) .none))))) mixed (by kernel_rfl) <| tkL rfl <| R_loadN TN_27 H fun at73 xt73 hat73 _ H St73 hSt73 => tkL rfl <| R_loadN TN_25 H fun at74 xt74 hat74 _ H St74 hSt74 => tkL rfl <| R_loadN TN_25 H fun at75 xt75 hat75 _ H St75 hSt75 => ?_
              obtain ⟨HA0, HA1⟩ := H
              refine alt_n rfl ?_ ?_
              · have H := HA0
                clear HA0 HA1
                refine H_mkSl TZ_23 (by decide) rfl H rfl fun t76 h ⟨S, H⟩ => ⟨(hskip rfl (hskip rfl (hcons rfl (hSt73 _ (still_N S hat73 rfl)) hnil))), ?_⟩
                exact aE rfl <| H_storeN TS_27 H fun h H => ⟨(hskip rfl hnil), pS t76 rfl rfl <| vp_done <| H⟩
              refine alt_n rfl ?_ vp_none
              have H := HA1
              clear HA0 HA1
              refine H_storeN TS_27 H fun h ⟨S_2, S_3, H⟩ => ⟨(hcons rfl (hSt75 _ (still_N S_3 hat75 rfl)) (hcons rfl (hSt74 _ (still_N S_2 hat74 rfl)) (hskip rfl hnil))), ?_⟩
              exact aE rfl <| H_mkSl TZ_23 (by decide) rfl H rfl fun t76_2 h H => ⟨(hskip rfl (hskip rfl hnil)), pS t76_2 rfl rfl <| vp_done <| H⟩
            refine sR <| nM t60 rfl <| nP R_not H fun _ H => vl_e ?_
            refine cI H (fun H => ?_) fun H => ?_
            · refine WPc_seq' <| W_drawn [0, 1, 0, 4, 0, 0, 60, 127, 0, 0, 255, 1535, 4095, 8191] (.take 0 (.take 1 (.take 2 (.take 3 (.take 4 (.take 5 (.take 8 (.take 9 (.alt 6 (.take 7 (.alt 10 (.alt 11 (.alt 12 (.take 13 .done) .none) .none) .none)) .none))))))))) mixed (by kernel_rfl) <| pP rfl (R_fld TF_25_0) H fun _ H => pL rfl T1_22 H fun _ _ hat64 H => pP rfl (R_fld TF_25_1) H fun _ H => pL rfl T1_23 H fun _ _ _ H => pM (e 12) rfl rfl <| tkL rfl <| R_loadN TN_25 H fun _ _ _ _ H _ _ => pP rfl (R_build TB_27 rfl (by decide)) H fun _ H => pP rfl (R_build TB_25 rfl (by decide)) H fun _ H => aE rfl <| H_call HB_137 H fun _ h ⟨S, H⟩ => ⟨(hskip rfl (hskip rfl (hcons rfl (still_1 S hat64) hnil))), pP rfl (R_build TB_25 rfl (by decide)) H fun _ H => aE rfl <| H_storeN TS_25 H fun h H => ⟨(hskip rfl hnil), aE rfl <| H_storeN TS_27 H fun h H => ⟨hnil, ?_⟩⟩⟩
              exact aE rfl <| H_storeN TS_25 H fun h H => ⟨hnil, pS (.bool false) rfl rfl <| vp_done <| WPc_ret <| resH_of rfl <| resL_N TN_25 <| loadN_imp H fun r8 H => resL_N TN_27 <| loadN_imp H fun r9 H => resL_N TN_25 <| loadN_imp H fun r10 H => resL_t <| H⟩
            · exact WPc_skip <| H
          refine alt_n rfl ?_ vp_none
          have H := HA1
          clear HA0 HA1
          refine H_alloc TV_25 H fun _ h H => ⟨hnil, ?_⟩
          refine aE rfl <| H_alloc TV_27 H fun _ h H => ⟨hnil, aE rfl <| H_storeN TS_25 H fun h H => ⟨hnil, aE rfl <| H_storeN TS_27 H fun h H => ⟨hnil, aE rfl <| H_storeN TS_25 H fun h H => ⟨hnil, pS t60 rfl rfl <| vp_done ?_⟩⟩⟩⟩
          refine WPc_seq (fun e h => s_put.j6 (e 1) (e 6) (e 8) (e 9) (e 10) (e 12) (e 14) (e 16) (e 17) (e 18) h Q) ?_ (fun e h H => ?_)
          rotate_left
          · unfold s_put.j6 at H
            refine W_drawn [0, 0, 0, 6, 1, 31] (.take 0 (.take 1 (.take 2 (.alt 3 (.alt 4 (.take 5 .done) .none) (.alt 4 (.alt 3 (.take 5 .done) .none) .none))))) mixed (by kernel_rfl) <| tkL rfl <| R_loadN TN_27 H fun at73 xt73 hat73 _ H St73 hSt73 => tkL rfl <| R_loadN TN_25 H fun at74 xt74 hat74 _ H St74 hSt74 => tkL rfl <| R_loadN TN_25 H fun at75 xt75 hat75 _ H St75 hSt75 => ?_
            obtain ⟨HA0, HA1⟩ := H
            refine alt_n rfl ?_ ?_
            · have H := HA0
              clear HA0 HA1
              refine H_mkSl TZ_23 (by decide) rfl H rfl fun t76 h ⟨S, H⟩ => ⟨(hskip rfl (hskip rfl (hcons rfl (hSt73 _ (still_N S hat73 rfl)) hnil))), ?_⟩
              exact aE rfl <| H_storeN TS_27 H fun h H => ⟨(hskip rfl hnil), pS t76 rfl rfl <| vp_done <| H⟩
            refine alt_n rfl ?_ vp_none
            have H := HA1
            clear HA0 HA1
            refine H_storeN TS_27 H fun h ⟨S_2, S_3, H⟩ => ⟨(hcons rfl (hSt75 _ (still_N S_3 hat75 rfl)) (hcons rfl (hSt74 _ (still_N S_2 hat74 rfl)) (hskip rfl hnil))), ?_⟩
            exact aE rfl <| H_mkSl TZ_23 (by decide) rfl H rfl fun t76_2 h H => ⟨(hskip rfl (hskip rfl hnil)), pS t76_2 rfl rfl <| vp_done <| H⟩
          refine sR <| nM t60 rfl <| nP R_not H fun _ H => vl_e ?_
          refine cI H (fun H => ?_) fun H => ?_
          · refine WPc_seq' <| W_drawn [0, 1, 0, 4, 0, 0, 60, 127, 0, 0, 255, 1535, 4095, 8191] (.take 0 (.take 1 (.take 2 (.take 3 (.take 4 (.take 5 (.take 8 (.take 9 (.alt 6 (.take 7 (.alt 10 (.alt 11 (.alt 12 (.take 13 .done) .none) .none) .none)) .none))))))))) mixed (by kernel_rfl) <| pP rfl (R_fld TF_25_0) H fun _ H => pL rfl T1_22 H fun _ _ hat64_2 H => pP rfl (R_fld TF_25_1) H fun _ H => pL rfl T1_23 H fun _ _ _ H => pM (e 12) rfl rfl <| tkL rfl <| R_loadN TN_25 H fun _ _ _ _ H _ _ => pP rfl (R_build TB_27 rfl (by decide)) H fun _ H => pP rfl (R_build TB_25 rfl (by decide)) H fun _ H => aE rfl <| H_call HB_137 H fun _ h ⟨S_2, H⟩ => ⟨(hskip rfl (hskip rfl (hcons rfl (still_1 S_2 hat64_2) hnil))), pP rfl (R_build TB_25 rfl (by decide)) H fun _ H => aE rfl <| H_storeN TS_25 H fun h H => ⟨(hskip rfl hnil), aE rfl <| H_storeN TS_27 H fun h H => ⟨hnil, ?_⟩⟩⟩
            exact aE rfl <| H_storeN TS_25 H fun h H => ⟨hnil, pS (.bool false) rfl rfl <| vp_done <| WPc_ret <| resH_of rfl <| resL_N TN_25 <| loadN_imp H fun r8_2 H => resL_N TN_27 <| loadN_imp H fun r9_2 H => resL_N TN_25 <| loadN_imp H fun r10_2 H => resL_t <| H⟩
          · exact WPc_skip <| H
        refine alt_n rfl ?_ ?_
        · have H := HA1
          clear HA0 HA1 HA2
          refine H_alloc TV_27 H fun _ h H => ⟨hnil, ?_⟩
          obtain ⟨HA0, HA1⟩ := H
          refine alt_n rfl ?_ ?_
          · have H := HA0
            clear HA0 HA1
            refine H_alloc TV_25 H fun _ h H => ⟨hnil, ?_⟩
            refine aE rfl <| H_alloc TV_25 H fun _ h H => ⟨hnil, aE rfl <| H_storeN TS_25 H fun h H => ⟨hnil, aE rfl <| H_storeN TS_27 H fun h H => ⟨hnil, aE rfl <| H_storeN TS_25 H fun h H => ⟨hnil, pS t60 rfl rfl <| vp_done ?_⟩⟩⟩⟩
            refine WPc_seq (fun e h => s_put.j7 (e 1) (e 6) (e 8) (e 9) (e 10) (e 12) (e 14) (e 16) (e 17) (e 18) h Q) ?_ (fun e h H => ?_)
            rotate_left
            · unfold s_put.j7 at H
              refine W_drawn [0, 0, 0, 6, 1, 31] (.take 0 (.take 1 (.take 2 (.alt 3 (.alt 4 (.take 5 .done) .none) (.alt 4 (.alt 3 (.take 5 .done) .none) .none))))) mixed (by kernel_rfl) <| tkL rfl <| R_loadN TN_27 H fun at73 xt73 hat73 _ H St73 hSt73 => tkL rfl <| R_loadN TN_25 H fun at74 xt74 hat74 _ H St74 hSt74 => tkL rfl <| R_loadN TN_25 H fun at75 xt75 hat75 _ H St75 hSt75 => ?_
              obtain ⟨HA0, HA1⟩ := H
              refine alt_n rfl ?_ ?_
              · have H := HA0
                clear HA0 HA1
                refine H_mkSl TZ_23 (by decide) rfl H rfl fun t76 h ⟨S, H⟩ => ⟨(hskip rfl (hskip rfl (hcons rfl (hSt73 _ (still_N S hat73 rfl)) hnil))), ?_⟩
                exact aE rfl <| H_storeN TS_27 H fun h H => ⟨(hskip rfl hnil), pS t76 rfl rfl <| vp_done <| H⟩
              refine alt_n rfl ?_ vp_none
              have H := HA1
              clear HA0 HA1
              refine H_storeN TS_27 H fun h ⟨S_2, S_3, H⟩ => ⟨(hcons rfl (hSt75 _ (still_N S_3 hat75 rfl)) (hcons rfl (hSt74 _ (still_N S_2 hat74 rfl)) (hskip rfl hnil))), ?_⟩
              exact aE rfl <| H_mkSl TZ_23 (by decide) rfl H rfl fun t76_2 h H => ⟨(hskip rfl (hskip rfl hnil)), pS t76_2 rfl rfl <| vp_done <| H⟩
            refine sR <| nM t60 rfl <| nP R_not H fun _ H => vl_e ?_
            refine cI H (fun H => ?_) fun H => ?_
            · refine WPc_seq' <| W_drawn [0, 1, 0, 4, 0, 0, 60, 127, 0, 0, 255, 1535, 4095, 8191] (.take 0 (.take 1 (.take 2 (.take 3 (.take 4 (.take 5 (.take 8 (.take 9 (.alt 6 (.take 7 (.alt 10 (.alt 11 (.alt 12 (.take 13 .done) .none) .none) .none)) .none))))))))) mixed (by kernel_rfl) <| pP rfl (R_fld TF_25_0) H fun _ H => pL rfl T1_22 H fun _ _ hat64_3 H => pP rfl (R_fld TF_25_1) H fun _ H => pL rfl T1_23 H fun _ _ _ H => pM (e 12) rfl rfl <| tkL rfl <| R_loadN TN_25 H fun _ _ _ _ H _ _ => pP rfl (R_build TB_27 rfl (by decide)) H fun _ H => pP rfl (R_build TB_25 rfl (by decide)) H fun _ H => aE rfl <| H_call HB_137 H fun _ h ⟨S_3, H⟩ => ⟨(hskip rfl (hskip rfl (hcons rfl (still_1 S_3 hat64_3) hnil))), pP rfl (R_build TB_25 rfl (by decide)) H fun _ H => aE rfl <| H_storeN TS_25 H fun h H => ⟨(hskip rfl hnil), aE rfl <| H_storeN TS_27 H fun h H => ⟨hnil, ?_⟩⟩⟩
              exact aE rfl <| H_storeN TS_25 H fun h H => ⟨hnil, pS (.bool false) rfl rfl <| vp_done <| WPc_ret <| resH_of rfl <| resL_N TN_25 <| loadN_imp H fun r8_3 H => resL_N TN_27 <| loadN_imp H fun r9_3 H => resL_N TN_25 <| loadN_imp H fun r10_3 H => resL_t <| H⟩
            · exact WPc_skip <| H
          refine alt_n rfl ?_ vp_none
          have H := HA1
          clear HA0 HA1
          refine H_alloc TV_25 H fun _ h H => ⟨hnil, ?_⟩
          refine aE rfl <| H_alloc TV_25 H fun _ h H => ⟨hnil, aE rfl <| H_storeN TS_25 H fun h H => ⟨hnil, aE rfl <| H_storeN TS_27 H fun h H => ⟨hnil, aE rfl <| H_storeN TS_25 H fun h H => ⟨hnil, pS t60 rfl rfl <| vp_done ?_⟩⟩⟩⟩
          refine WPc_seq (fun e h => s_put.j8 (e 1) (e 6) (e 8) (e 9) (e 10) (e 12) (e 14) (e 16) (e 17) (e 18) h Q) ?_ (fun e h H => ?_)
          rotate_left
          · unfold s_put.j8 at H
            refine W_drawn [0, 0, 0, 6, 1, 31] (.take 0 (.take 1 (.take 2 (.alt 3 (.alt 4 (.take 5 .done) .none) (.alt 4 (.alt 3 (.take 5 .done) .none) .none))))) mixed (by kernel_rfl) <| tkL rfl <| R_loadN TN_27 H fun at73 xt73 hat73 _ H St73 hSt73 => tkL rfl <| R_loadN TN_25 H fun at74 xt74 hat74 _ H St74 hSt74 => tkL rfl <| R_loadN TN_25 H fun at75 xt75 hat75 _ H St75 hSt75 => ?_
            obtain ⟨HA0, HA1⟩ := H
            refine alt_n rfl ?_ ?_
            · have H := HA0
              clear HA0 HA1
              refine H_mkSl TZ_23 (by decide) rfl H rfl fun t76 h ⟨S, H⟩ => ⟨(hskip rfl (hskip rfl (hcons rfl (hSt73 _ (still_N S hat73 rfl)) hnil))), ?_⟩
              exact aE rfl <| H_storeN TS_27 H fun h H => ⟨(hskip rfl hnil), pS t76 rfl rfl <| vp_done <| H⟩
            refine alt_n rfl ?_ vp_none
            have H := HA1
            clear HA0 HA1
            refine H_storeN TS_27 H fun h ⟨S_2, S_3, H⟩ => ⟨(hcons rfl (hSt75 _ (still_N S_3 hat75 rfl)) (hcons rfl (hSt74 _ (still_N S_2 hat74 rfl)) (hskip rfl hnil))), ?_⟩
            exact aE rfl <| H_mkSl TZ_23 (by decide) rfl H rfl fun t76_2 h H => ⟨(hskip rfl (hskip rfl hnil)), pS t76_2 rfl rfl <| vp_done <| H⟩
          refine sR <| nM t60 rfl <| nP R_not H fun _ H => vl_e ?_
          refine cI H (fun H => ?_) fun H => ?_
          · refine WPc_seq' <| W_drawn [0, 1, 0, 4, 0, 0, 60, 127, 0, 0, 255, 1535, 4095, 8191] (.take 0 (.take 1 (.take 2 (.take 3 (.take 4 (.take 5 (.take 8 (.take 9 (.alt 6 (.take 7 (.alt 10 (.alt 11 (.alt 12 (.take 13 .done) .none) .none) .none)) .none))))))))) mixed (by kernel_rfl) <| pP rfl (R_fld TF_25_0) H fun _ H => pL rfl T1_22 H fun _ _ hat64_4 H => pP rfl (R_fld TF_25_1) H fun _ H => pL rfl T1_23 H fun _ _ _ H => pM (e 12) rfl rfl <| tkL rfl <| R_loadN TN_25 H fun _ _ _ _ H _ _ => pP rfl (R_build TB_27 rfl (by decide)) H fun _ H => pP rfl (R_build TB_25 rfl (by decide)) H fun _ H => aE rfl <| H_call HB_137 H fun _ h ⟨S_4, H⟩ => ⟨(hskip rfl (hskip rfl (hcons rfl (still_1 S_4 hat64_4) hnil))), pP rfl (R_build TB_25 rfl (by decide)) H fun _ H => aE rfl <| H_storeN TS_25 H fun h H => ⟨(hskip rfl hnil), aE rfl <| H_storeN TS_27 H fun h H => ⟨hnil, ?_⟩⟩⟩
            exact aE rfl <| H_storeN TS_25 H fun h H => ⟨hnil, pS (.bool false) rfl rfl <| vp_done <| WPc_ret <| resH_of rfl <| resL_N TN_25 <| loadN_imp H fun r8_4 H => resL_N TN_27 <| loadN_imp H fun r9_4 H => resL_N TN_25 <| loadN_imp H fun r10_4 H => resL_t <| H⟩
          · exact WPc_skip <| H
        refine alt_n rfl ?_ vp_none
        have H := HA2
        clear HA0 HA1 HA2
        refine H_alloc TV_25 H fun _ h H => ⟨hnil, ?_⟩
        obtain ⟨HA0, HA1⟩ := H
        refine alt_n rfl ?_ ?_
        · have H := HA0
          clear HA0 HA1
          refine H_alloc TV_25 H fun _ h H => ⟨hnil, ?_⟩
          refine aE rfl <| H_alloc TV_27 H fun _ h H => ⟨hnil, aE rfl <| H_storeN TS_25 H fun h H => ⟨hnil, aE rfl <| H_storeN TS_27 H fun h H => ⟨hnil, aE rfl <| H_storeN TS_25 H fun h H => ⟨hnil, pS t60 rfl rfl <| vp_done ?_⟩⟩⟩⟩
          refine WPc_seq (fun e h => s_put.j9 (e 1) (e 6) (e 8) (e 9) (e 10) (e 12) (e 14) (e 16) (e 17) (e 18) h Q) ?_ (fun e h H => ?_)
          rotate_left
          · unfold s_put.j9 at H
            refine W_drawn [0, 0, 0, 6, 1, 31] (.take 0 (.take 1 (.take 2 (.alt 3 (.alt 4 (.take 5 .done) .none) (.alt 4 (.alt 3 (.take 5 .done) .none) .none))))) mixed (by kernel_rfl) <| tkL rfl <| R_loadN TN_27 H fun at73 xt73 hat73 _ H St73 hSt73 => tkL rfl <| R_loadN TN_25 H fun at74 xt74 hat74 _ H St74 hSt74 => tkL rfl <| R_loadN TN_25 H fun at75 xt75 hat75 _ H St75 hSt75 => ?_
            obtain ⟨HA0, HA1⟩ := H
            refine alt_n rfl ?_ ?_
            · have H := HA0
              clear HA0 HA1
              refine H_mkSl TZ_23 (by decide) rfl H rfl fun t76 h ⟨S, H⟩ => ⟨(hskip rfl (hskip rfl (hcons rfl (hSt73 _ (still_N S hat73 rfl)) hnil))), ?_⟩
              exact aE rfl <| H_storeN TS_27 H fun h H => ⟨(hskip rfl hnil), pS t76 rfl rfl <| vp_done <| H⟩
            refine alt_n rfl ?_ vp_none
            have H := HA1
            clear HA0 HA1
            refine H_storeN TS_27 H fun h ⟨S_2, S_3, H⟩ => ⟨(hcons rfl (hSt75 _ (still_N S_3 hat75 rfl)) (hcons rfl (hSt74 _ (still_N S_2 hat74 rfl)) (hskip rfl hnil))), ?_⟩
            exact aE rfl <| H_mkSl TZ_23 (by decide) rfl H rfl fun t76_2 h H => ⟨(hskip rfl (hskip rfl hnil)), pS t76_2 rfl rfl <| vp_done <| H⟩
          refine sR <| nM t60 rfl <| nP R_not H fun _ H => vl_e ?_
          refine cI H (fun H => ?_) fun H => ?_
          · refine WPc_seq' <| W_drawn [0, 1, 0, 4, 0, 0, 60, 127, 0, 0, 255, 1535, 4095, 8191] (.take 0 (.take 1 (.take 2 (.take 3 (.take 4 (.take 5 (.take 8 (.take 9 (.alt 6 (.take 7 (.alt 10 (.alt 11 (.alt 12 (.take 13 .done) .none) .none) .none)) .none))))))))) mixed (by kernel_rfl) <| pP rfl (R_fld TF_25_0) H fun _ H => pL rfl T1_22 H fun _ _ hat64_5 H => pP rfl (R_fld TF_25_1) H fun _ H => pL rfl T1_23 H fun _ _ _ H => pM (e 12) rfl rfl <| tkL rfl <| R_loadN TN_25 H fun _ _ _ _ H _ _ => pP rfl (R_build TB_27 rfl (by decide)) H fun _ H => pP rfl (R_build TB_25 rfl (by decide)) H fun _ H => aE rfl <| H_call HB_137 H fun _ h ⟨S_5, H⟩ => ⟨(hskip rfl (hskip rfl (hcons rfl (still_1 S_5 hat64_5) hnil))), pP rfl (R_build TB_25 rfl (by decide)) H fun _ H => aE rfl <| H_storeN TS_25 H fun h H => ⟨(hskip rfl hnil), aE rfl <| H_storeN TS_27 H fun h H => ⟨hnil, ?_⟩⟩⟩
            exact aE rfl <| H_storeN TS_25 H fun h H => ⟨hnil, pS (.bool false) rfl rfl <| vp_done <| WPc_ret <| resH_of rfl <| resL_N TN_25 <| loadN_imp H fun r8_5 H => resL_N TN_27 <| loadN_imp H fun r9_5 H => resL_N TN_25 <| loadN_imp H fun r10_5 H => resL_t <| H⟩
          · exact WPc_skip <| H
        refine alt_n rfl ?_ vp_none
        have H := HA1
        clear HA0 HA1
        refine H_alloc TV_27 H fun _ h H => ⟨hnil, ?_⟩
        refine aE rfl <| H_alloc TV_25 H fun _ h H => ⟨hnil, aE rfl <| H_storeN TS_25 H fun h H => ⟨hnil, aE rfl <| H_storeN TS_27 H fun h H => ⟨hnil, aE rfl <| H_storeN TS_25 H fun h H => ⟨hnil, pS t60 rfl rfl <| vp_done ?_⟩⟩⟩⟩
        refine WPc_seq (fun e h => s_put.j10 (e 1) (e 6) (e 8) (e 9) (e 10) (e 12) (e 14) (e 16) (e 17) (e 18) h Q) ?_ (fun e h H => ?_)
        rotate_left
        · unfold s_put.j10 at H
          refine W_drawn [0, 0, 0, 6, 1, 31] (.take 0 (.take 1 (.take 2 (.alt 3 (.alt 4 (.take 5 .done) .none) (.alt 4 (.alt 3 (.take 5 .done) .none) .none))))) mixed (by kernel_rfl) <| tkL rfl <| R_loadN TN_27 H fun at73 xt73 hat73 _ H St73 hSt73 => tkL rfl <| R_loadN TN_25 H fun at74 xt74 hat74 _ H St74 hSt74 => tkL rfl <| R_loadN TN_25 H fun at75 xt75 hat75 _ H St75 hSt75 => ?_
          obtain ⟨HA0, HA1⟩ := H
          refine alt_n rfl ?_ ?_
          · have H := HA0
            clear HA0 HA1
            refine H_mkSl TZ_23 (by decide) rfl H rfl fun t76 h ⟨S, H⟩ => ⟨(hskip rfl (hskip rfl (hcons rfl (hSt73 _ (still_N S hat73 rfl)) hnil))), ?_⟩
            exact aE rfl <| H_storeN TS_27 H fun h H => ⟨(hskip rfl hnil), pS t76 rfl rfl <| vp_done <| H⟩
          refine alt_n rfl ?_ vp_none
          have H := HA1
          clear HA0 HA1
          refine H_storeN TS_27 H fun h ⟨S_2, S_3, H⟩ => ⟨(hcons rfl (hSt75 _ (still_N S_3 hat75 rfl)) (hcons rfl (hSt74 _ (still_N S_2 hat74 rfl)) (hskip rfl hnil))), ?_⟩
          exact aE rfl <| H_mkSl TZ_23 (by decide) rfl H rfl fun t76_2 h H => ⟨(hskip rfl (hskip rfl hnil)), pS t76_2 rfl rfl <| vp_done <| H⟩
        refine sR <| nM t60 rfl <| nP R_not H fun _ H => vl_e ?_
        refine cI H (fun H => ?_) fun H => ?_
        · refine WPc_seq' <| W_drawn [0, 1, 0, 4, 0, 0, 60, 127, 0, 0, 255, 1535, 4095, 8191] (.take 0 (.take 1 (.take 2 (.take 3 (.take 4 (.take 5 (.take 8 (.take 9 (.alt 6 (.take 7 (.alt 10 (.alt 11 (.alt 12 (.take 13 .done) .none) .none) .none)) .none))))))))) mixed (by kernel_rfl) <| pP rfl (R_fld TF_25_0) H fun _ H => pL rfl T1_22 H fun _ _ hat64_6 H => pP rfl (R_fld TF_25_1) H fun _ H => pL rfl T1_23 H fun _ _ _ H => pM (e 12) rfl rfl <| tkL rfl <| R_loadN TN_25 H fun _ _ _ _ H _ _ => pP rfl (R_build TB_27 rfl (by decide)) H fun _ H => pP rfl (R_build TB_25 rfl (by decide)) H fun _ H => aE rfl <| H_call HB_137 H fun _ h ⟨S_6, H⟩ => ⟨(hskip rfl (hskip rfl (hcons rfl (still_1 S_6 hat64_6) hnil))), pP rfl (R_build TB_25 rfl (by decide)) H fun _ H => aE rfl <| H_storeN TS_25 H fun h H => ⟨(hskip rfl hnil), aE rfl <| H_storeN TS_27 H fun h H => ⟨hnil, ?_⟩⟩⟩
          exact aE rfl <| H_storeN TS_25 H fun h H => ⟨hnil, pS (.bool false) rfl rfl <| vp_done <| WPc_ret <| resH_of rfl <| resL_N TN_25 <| loadN_imp H fun r8_6 H => resL_N TN_27 <| loadN_imp H fun r9_6 H => resL_N TN_25 <| loadN_imp H fun r10_6 H => resL_t <| H⟩
        · exact WPc_skip <| H
      refine alt_n rfl ?_ ?_
      · have H := HA1
        clear HA0 HA1 HA2 HA3
        refine H_alloc TV_25 H fun _ h ⟨S_7, S_8, S_9, H⟩ => ⟨(hcons rfl (hSt55 _ (still_N S_9 hat55 rfl)) (hcons rfl (hSt54 _ (still_N S_8 hat54 rfl)) (hcons rfl (still_1 S_7 hat51) hnil))), ?_⟩
        obtain ⟨HA0, HA1, HA2⟩ := H
        refine alt_n rfl ?_ ?_
        · have H := HA0
          clear HA0 HA1 HA2
          refine H_call HB_69 H fun t56_2 h H => ⟨(hskip rfl (hskip rfl (hskip rfl hnil))), ?_⟩
          refine pM t56_2 rfl rfl <| pP rfl R_ext H fun _ H => pP rfl R_ext H fun _ H => pP rfl R_ext H fun _ H => pP rfl R_ext H fun t60_2 H => ?_
          obtain ⟨HA0, HA1⟩ := H
          refine alt_n rfl ?_ ?_
          · have H := HA0
            clear HA0 HA1
            refine H_alloc TV_27 H fun _ h H => ⟨hnil, ?_⟩
            refine aE rfl <| H_alloc TV_25 H fun _ h H => ⟨hnil, aE rfl <| H_storeN TS_25 H fun h H => ⟨hnil, aE rfl <| H_storeN TS_27 H fun h H => ⟨hnil, aE rfl <| H_storeN TS_25 H fun h H => ⟨hnil, pS t60_2 rfl rfl <| vp_done ?_⟩⟩⟩⟩
            refine WPc_seq (fun e h => s_put.j11 (e 1) (e 6) (e 8) (e 9) (e 10) (e 12) (e 14) (e 16) (e 17) (e 18) h Q) ?_ (fun e h H => ?_)
            rotate_left
            · unfold s_put.j11 at H
              refine W_drawn [0, 0, 0, 6, 1, 31] (.take 0 (.take 1 (.take 2 (.alt 3 (.alt 4 (.take 5 .done) .none) (.alt 4 (.alt 3 (.take 5 .done) .none) .none))))) mixed (by kernel_rfl) <| tkL rfl <| R_loadN TN_27 H fun at73 xt73 hat73 _ H St73 hSt73 => tkL rfl <| R_loadN TN_25 H fun at74 xt74 hat74 _ H St74 hSt74 => tkL rfl <| R_loadN TN_25 H fun at75 xt75 hat75 _ H St75 hSt75 => ?_
              obtain ⟨HA0, HA1⟩ := H
              refine alt_n rfl ?_ ?_
              · have H := HA0
                clear HA0 HA1
                refine H_mkSl TZ_23 (by decide) rfl H rfl fun t76 h ⟨S, H⟩ => ⟨(hskip rfl (hskip rfl (hcons rfl (hSt73 _ (still_N S hat73 rfl)) hnil))), ?_⟩
                exact aE rfl <| H_storeN TS_27 H fun h H => ⟨(hskip rfl hnil), pS t76 rfl rfl <| vp_done <| H⟩
              refine alt_n rfl ?_ vp_none
              have H := HA1
              clear HA0 HA1
              refine H_storeN TS_27 H fun h ⟨S_2, S_3, H⟩ => ⟨(hcons rfl (hSt75 _ (still_N S_3 hat75 rfl)) (hcons rfl (hSt74 _ (still_N S_2 hat74 rfl)) (hskip rfl hnil))), ?_⟩
              exact aE rfl <| H_mkSl TZ_23 (by decide) rfl H rfl fun t76_2 h H => ⟨(hskip rfl (hskip rfl hnil)), pS t76_2 rfl rfl <| vp_done <| H⟩
            refine sR <| nM t60_2 rfl <| nP R_not H fun _ H => vl_e ?_
            refine cI H (fun H => ?_) fun H => ?_
            · refine WPc_seq' <| W_drawn [0, 1, 0, 4, 0, 0, 60, 127, 0, 0, 255, 1535, 4095, 8191] (.take 0 (.take 1 (.take 2 (.take 3 (.take 4 (.take 5 (.take 8 (.take 9 (.alt 6 (.take 7 (.alt 10 (.alt 11 (.alt 12 (.take 13 .done) .none) .none) .none)) .none))))))))) mixed (by kernel_rfl) <| pP rfl (R_fld TF_25_0) H fun _ H => pL rfl T1_22 H fun _ _ hat64_7 H => pP rfl (R_fld TF_25_1) H fun _ H => pL rfl T1_23 H fun _ _ _ H => pM (e 12) rfl rfl <| tkL rfl <| R_loadN TN_25 H fun _ _ _ _ H _ _ => pP rfl (R_build TB_27 rfl (by decide)) H fun _ H => pP rfl (R_build TB_25 rfl (by decide)) H fun _ H => aE rfl <| H_call HB_137 H fun _ h ⟨S_10, H⟩ => ⟨(hskip rfl (hskip rfl (hcons rfl (still_1 S_10 hat64_7) hnil))), pP rfl (R_build TB_25 rfl (by decide)) H fun _ H => aE rfl <| H_storeN TS_25 H fun h H => ⟨(hskip rfl hnil), aE rfl <| H_storeN TS_27 H fun h H => ⟨hnil, ?_⟩⟩⟩
              exact aE rfl <| H_storeN TS_25 H fun h H => ⟨hnil, pS (.bool false) rfl rfl <| vp_done <| WPc_ret <| resH_of rfl <| resL_N TN_25 <| loadN_imp H fun r8_7 H => resL_N TN_27 <| loadN_imp H fun r9_7 H => resL_N TN_25 <| loadN_imp H fun r10_7 H => resL_t <| H⟩
            · exact WPc_skip <| H
          refine alt_n rfl ?_ vp_none
          have H := HA1
          clear HA0 HA1
          refine H_alloc TV_25 H fun _ h H => ⟨hnil, ?_⟩
          refine aE rfl <| H_alloc TV_27 H fun _ h H => ⟨hnil, aE rfl <| H_storeN TS_25 H fun h H => ⟨hnil, aE rfl <| H_storeN TS_27 H fun h H => ⟨hnil, aE rfl <| H_storeN TS_25 H fun h H => ⟨hnil, pS t60_2 rfl rfl <| vp_done ?_⟩⟩⟩⟩
          refine WPc_seq (fun e h => s_put.j12 (e 1) (e 6) (e 8) (e 9) (e 10) (e 12) (e 14) (e 16) (e 17) (e 18) h Q) ?_ (fun e h H => ?_)
          rotate_left
          · unfold s_put.j12 at H
            refine W_drawn [0, 0, 0, 6, 1, 31] (.take 0 (.take 1 (.take 2 (.alt 3 (.alt 4 (.take 5 .done) .none) (.alt 4 (.alt 3 (.take 5 .done) .none) .none))))) mixed (by kernel_rfl) <| tkL rfl <| R_loadN TN_27 H fun at73 xt73 hat73 _ H St73 hSt73 => tkL rfl <| R_loadN TN_25 H fun at74 xt74 hat74 _ H St74 hSt74 => tkL rfl <| R_loadN TN_25 H fun at75 xt75 hat75 _ H St75 hSt75 => ?_
            obtain ⟨HA0, HA1⟩ := H
            refine alt_n rfl ?_ ?_
            · have H := HA0
              clear HA0 HA1
              refine H_mkSl TZ_23 (by decide) rfl H rfl fun t76 h ⟨S, H⟩ => ⟨(hskip rfl (hskip rfl (hcons rfl (hSt73 _ (still_N S hat73 rfl)) hnil))), ?_⟩
              exact aE rfl <| H_storeN TS_27 H fun h H => ⟨(hskip rfl hnil), pS t76 rfl rfl <| vp_done <| H⟩
            refine alt_n rfl ?_ vp_none
            have H := HA1
            clear HA0 HA1
            refine H_storeN TS_27 H fun h ⟨S_2, S_3, H⟩ => ⟨(hcons rfl (hSt75 _ (still_N S_3 hat75 rfl)) (hcons rfl (hSt74 _ (still_N S_2 hat74 rfl)) (hskip rfl hnil))), ?_⟩
            exact aE rfl <| H_mkSl TZ_23 (by decide) rfl H rfl fun t76_2 h H => ⟨(hskip rfl (hskip rfl hnil)), pS t76_2 rfl rfl <| vp_done <| H⟩
          refine sR <| nM t60_2 rfl <| nP R_not H fun _ H => vl_e ?_
          refine cI H (fun H => ?_) fun H => ?_
          · refine WPc_seq' <| W_drawn [0, 1, 0, 4, 0, 0, 60, 127, 0, 0, 255, 1535, 4095, 8191] (.take 0 (.take 1 (.take 2 (.take 3 (.take 4 (.take 5 (.take 8 (.take 9 (.alt 6 (.take 7 (.alt 10 (.alt 11 (.alt 12 (.take 13 .done) .none) .none) .none)) .none))))))))) mixed (by kernel_rfl) <| pP rfl (R_fld TF_25_0) H fun _ H => pL rfl T1_22 H fun _ _ hat64_8 H => pP rfl (R_fld TF_25_1) H fun _ H => pL rfl T1_23 H fun _ _ _ H => pM (e 12) rfl rfl <| tkL rfl <| R_loadN TN_25 H fun _ _ _ _ H _ _ => pP rfl (R_build TB_27 rfl (by decide)) H fun _ H => pP rfl (R_build TB_25 rfl (by decide)) H fun _ H => aE rfl <| H_call HB_137 H fun _ h ⟨S_11, H⟩ => ⟨(hskip rfl (hskip rfl (hcons rfl (still_1 S_11 hat64_8) hnil))), pP rfl (R_build TB_25 rfl (by decide)) H fun _ H => aE rfl <| H_storeN TS_25 H fun h H => ⟨(hskip rfl hnil), aE rfl <| H_storeN TS_27 H fun h H => ⟨hnil, ?_⟩⟩⟩
            exact aE rfl <| H_storeN TS_25 H fun h H => ⟨hnil, pS (.bool false) rfl rfl <| vp_done <| WPc_ret <| resH_of rfl <| resL_N TN_25 <| loadN_imp H fun r8_8 H => resL_N TN_27 <| loadN_imp H fun r9_8 H => resL_N TN_25 <| loadN_imp H fun r10_8 H => resL_t <| H⟩
          · exact WPc_skip <| H
        refine alt_n rfl ?_ ?_
        · have H := HA1
          clear HA0 HA1 HA2
          refine H_alloc TV_27 H fun _ h ⟨S_12, S_13, S_14, H⟩ => ⟨(hcons rfl (hSt55 _ (still_N S_14 hat55 rfl)) (hcons rfl (hSt54 _ (still_N S_13 hat54 rfl)) (hcons rfl (still_1 S_12 hat51) hnil))), ?_⟩
          obtain ⟨HA0, HA1⟩ := H
          refine alt_n rfl ?_ ?_
          · have H := HA0
            clear HA0 HA1
            refine H_call HB_69 H fun t56_3 h H => ⟨(hskip rfl (hskip rfl (hskip rfl hnil))), ?_⟩
            refine pM t56_3 rfl rfl <| pP rfl R_ext H fun _ H => pP rfl R_ext H fun _ H => pP rfl R_ext H fun _ H => pP rfl R_ext H fun t60_3 H => aE rfl <| H_alloc TV_25 H fun _ h H => ⟨hnil, aE rfl <| H_storeN TS_25 H fun h H => ⟨hnil, aE rfl <| H_storeN TS_27 H fun h H => ⟨hnil, aE rfl <| H_storeN TS_25 H fun h H => ⟨hnil, pS t60_3 rfl rfl <| vp_done ?_⟩⟩⟩⟩
            refine WPc_seq (fun e h => s_put.j13 (e 1) (e 6) (e 8) (e 9) (e 10) (e 12) (e 14) (e 16) (e 17) (e 18) h Q) ?_ (fun e h H => ?_)
            rotate_left
            · unfold s_put.j13 at H
              refine W_drawn [0, 0, 0, 6, 1, 31] (.take 0 (.take 1 (.take 2 (.alt 3 (.alt 4 (.take 5 .done) .none) (.alt 4 (.alt 3 (.take 5 .done) .none) .none))))) mixed (by kernel_rfl) <| tkL rfl <| R_loadN TN_27 H fun at73 xt73 hat73 _ H St73 hSt73 => tkL rfl <| R_loadN TN_25 H fun at74 xt74 hat74 _ H St74 hSt74 => tkL rfl <| R_loadN TN_25 H fun at75 xt75 hat75 _ H St75 hSt75 => ?_
              obtain ⟨HA0, HA1⟩ := H
              refine alt_n rfl ?_ ?_
              · have H := HA0
                clear HA0 HA1
                refine H_mkSl TZ_23 (by decide) rfl H rfl fun t76 h ⟨S, H⟩ => ⟨(hskip rfl (hskip rfl (hcons rfl (hSt73 _ (still_N S hat73 rfl)) hnil))), ?_⟩
                exact aE rfl <| H_storeN TS_27 H fun h H => ⟨(hskip rfl hnil), pS t76 rfl rfl <| vp_done <| H⟩
              refine alt_n rfl ?_ vp_none
              have H := HA1
              clear HA0 HA1
              refine H_storeN TS_27 H fun h ⟨S_2, S_3, H⟩ => ⟨(hcons rfl (hSt75 _ (still_N S_3 hat75 rfl)) (hcons rfl (hSt74 _ (still_N S_2 hat74 rfl)) (hskip rfl hnil))), ?_⟩
              exact aE rfl <| H_mkSl TZ_23 (by decide) rfl H rfl fun t76_2 h H => ⟨(hskip rfl (hskip rfl hnil)), pS t76_2 rfl rfl <| vp_done <| H⟩
            refine sR <| nM t60_3 rfl <| nP R_not H fun _ H => vl_e ?_
            refine cI H (fun H => ?_) fun H => ?_
            · refine WPc_seq' <| W_drawn [0, 1, 0, 4, 0, 0, 60, 127, 0, 0, 255, 1535, 4095, 8191] (.take 0 (.take 1 (.take 2 (.take 3 (.take 4 (.take 5 (.take 8 (.take 9 (.alt 6 (.take 7 (.alt 10 (.alt 11 (.alt 12 (.take 13 .done) .none) .none) .none)) .none))))))))) mixed (by kernel_rfl) <| pP rfl (R_fld TF_25_0) H fun _ H => pL rfl T1_22 H fun _ _ hat64_9 H => pP rfl (R_fld TF_25_1) H fun _ H => pL rfl T1_23 H fun _ _ _ H => pM (e 12) rfl rfl <| tkL rfl <| R_loadN TN_25 H fun _ _ _ _ H _ _ => pP rfl (R_build TB_27 rfl (by decide)) H fun _ H => pP rfl (R_build TB_25 rfl (by decide)) H fun _ H => aE rfl <| H_call HB_137 H fun _ h ⟨S_15, H⟩ => ⟨(hskip rfl (hskip rfl (hcons rfl (still_1 S_15 hat64_9) hnil))), pP rfl (R_build TB_25 rfl (by decide)) H fun _ H => aE rfl <| H_storeN TS_25 H fun h H => ⟨(hskip rfl hnil), aE rfl <| H_storeN TS_27 H fun h H => ⟨hnil, ?_⟩⟩⟩
              exact aE rfl <| H_storeN TS_25 H fun h H => ⟨hnil, pS (.bool false) rfl rfl <| vp_done <| WPc_ret <| resH_of rfl <| resL_N TN_25 <| loadN_imp H fun r8_9 H => resL_N TN_27 <| loadN_imp H fun r9_9 H => resL_N TN_25 <| loadN_imp H fun r10_9 H => resL_t <| H⟩
            · exact WPc_skip <| H
          refine alt_n rfl ?_ vp_none
          have H := HA1
          clear HA0 HA1
          refine H_alloc TV_25 H fun _ h ⟨S_16, S_17, S_18, H⟩ => ⟨(hcons rfl (hSt55 _ (still_N S_18 hat55 rfl)) (hcons rfl (hSt54 _ (still_N S_17 hat54 rfl)) (hcons rfl (still_1 S_16 hat51) hnil))), ?_⟩
          refine aE rfl <| H_call HB_69 H fun t56_4 h H => ⟨(hskip rfl (hskip rfl (hskip rfl hnil))), pM t56_4 rfl rfl <| pP rfl R_ext H fun _ H => pP rfl R_ext H fun _ H => pP rfl R_ext H fun _ H => pP rfl R_ext H fun t60_4 H => aE rfl <| H_storeN TS_25 H fun h H => ⟨hnil, aE rfl <| H_storeN TS_27 H fun h H => ⟨hnil, aE rfl <| H_storeN TS_25 H fun h H => ⟨hnil, pS t60_4 rfl rfl <| vp_done ?_⟩⟩⟩⟩
          refine WPc_seq (fun e h => s_put.j14 (e 1) (e 6) (e 8) (e 9) (e 10) (e 12) (e 14) (e 16) (e 17) (e 18) h Q) ?_ (fun e h H => ?_)
          rotate_left
          · unfold s_put.j14 at H
            refine W_drawn [0, 0, 0, 6, 1, 31] (.take 0 (.take 1 (.take 2 (.alt 3 (.alt 4 (.take 5 .done) .none) (.alt 4 (.alt 3 (.take 5 .done) .none) .none))))) mixed (by kernel_rfl) <| tkL rfl <| R_loadN TN_27 H fun at73 xt73 hat73 _ H St73 hSt73 => tkL rfl <| R_loadN TN_25 H fun at74 xt74 hat74 _ H St74 hSt74 => tkL rfl <| R_loadN TN_25 H fun at75 xt75 hat75 _ H St75 hSt75 => ?_
            obtain ⟨HA0, HA1⟩ := H
            refine alt_n rfl ?_ ?_
            · have H := HA0
              clear HA0 HA1
              refine H_mkSl TZ_23 (by decide) rfl H rfl fun t76 h ⟨S, H⟩ => ⟨(hskip rfl (hskip rfl (hcons rfl (hSt73 _ (still_N S hat73 rfl)) hnil))), ?_⟩
              exact aE rfl <| H_storeN TS_27 H fun h H => ⟨(hskip rfl hnil), pS t76 rfl rfl <| vp_done <| H⟩
            refine alt_n rfl ?_ vp_none
            have H := HA1
            clear HA0 HA1
            refine H_storeN TS_27 H fun h ⟨S_2, S_3, H⟩ => ⟨(hcons rfl (hSt75 _ (still_N S_3 hat75 rfl)) (hcons rfl (hSt74 _ (still_N S_2 hat74 rfl)) (hskip rfl hnil))), ?_⟩
            exact aE rfl <| H_mkSl TZ_23 (by decide) rfl H rfl fun t76_2 h H => ⟨(hskip rfl (hskip rfl hnil)), pS t76_2 rfl rfl <| vp_done <| H⟩
          refine sR <| nM t60_4 rfl <| nP R_not H fun _ H => vl_e ?_
          refine cI H (fun H => ?_) fun H => ?_
          · refine WPc_seq' <| W_drawn [0, 1, 0, 4, 0, 0, 60, 127, 0, 0, 255, 1535, 4095, 8191] (.take 0 (.take 1 (.take 2 (.take 3 (.take 4 (.take 5 (.take 8 (.take 9 (.alt 6 (.take 7 (.alt 10 (.alt 11 (.alt 12 (.take 13 .done) .none) .none) .none)) .none))))))))) mixed (by kernel_rfl) <| pP rfl (R_fld TF_25_0) H fun _ H => pL rfl T1_22 H fun _ _ hat64_10 H => pP rfl (R_fld TF_25_1) H fun _ H => pL rfl T1_23 H fun _ _ _ H => pM (e 12) rfl rfl <| tkL rfl <| R_loadN TN_25 H fun _ _ _ _ H _ _ => pP rfl (R_build TB_27 rfl (by decide)) H fun _ H => pP rfl (R_build TB_25 rfl (by decide)) H fun _ H => aE rfl <| H_call HB_137 H fun _ h ⟨S_19, H⟩ => ⟨(hskip rfl (hskip rfl (hcons rfl (still_1 S_19 hat64_10) hnil))), pP rfl (R_build TB_25 rfl (by decide)) H fun _ H => aE rfl <| H_storeN TS_25 H fun h H => ⟨(hskip rfl hnil), aE rfl <| H_storeN TS_27 H fun h H => ⟨hnil, ?_⟩⟩⟩
            exact aE rfl <| H_storeN TS_25 H fun h H => ⟨hnil, pS (.bool false) rfl rfl <| vp_done <| WPc_ret <| resH_of rfl <| resL_N TN_25 <| loadN_imp H fun r8_10 H => resL_N TN_27 <| loadN_imp H fun r9_10 H => resL_N TN_25 <| loadN_imp H fun r10_10 H => resL_t <| H⟩
          · exact WPc_skip <| H
        refine alt_n rfl ?_ vp_none
        have H := HA2
        clear HA0 HA1 HA2
        refine H_alloc TV_25 H fun _ h ⟨S_20, S_21, S_22, H⟩ => ⟨(hcons rfl (hSt55 _ (still_N S_22 hat55 rfl)) (hcons rfl (hSt54 _ (still_N S_21 hat54 rfl)) (hcons rfl (still_1 S_20 hat51) hnil))), ?_⟩
        obtain ⟨HA0, HA1⟩ := H
        refine alt_n rfl ?_ ?_
        · have H := HA0
          clear HA0 HA1
          refine H_call HB_69 H fun t56_5 h H => ⟨(hskip rfl (hskip rfl (hskip rfl hnil))), ?_⟩
          refine pM t56_5 rfl rfl <| pP rfl R_ext H fun _ H => pP rfl R_ext H fun _ H => pP rfl R_ext H fun _ H => pP rfl R_ext H fun t60_5 H => aE rfl <| H_alloc TV_27 H fun _ h H => ⟨hnil, aE rfl <| H_storeN TS_25 H fun h H => ⟨hnil, aE rfl <| H_storeN TS_27 H fun h H => ⟨hnil, aE rfl <| H_storeN TS_25 H fun h H => ⟨hnil, pS t60_5 rfl rfl <| vp_done ?_⟩⟩⟩⟩
          refine WPc_seq (fun e h => s_put.j15 (e 1) (e 6) (e 8) (e 9) (e 10) (e 12) (e 14) (e 16) (e 17) (e 18) h Q) ?_ (fun e h H => ?_)
          rotate_left
          · unfold s_put.j15 at H
            refine W_drawn [0, 0, 0, 6, 1, 31] (.take 0 (.take 1 (.take 2 (.alt 3 (.alt 4 (.take 5 .done) .none) (.alt 4 (.alt 3 (.take 5 .done) .none) .none))))) mixed (by kernel_rfl) <| tkL rfl <| R_loadN TN_27 H fun at73 xt73 hat73 _ H St73 hSt73 => tkL rfl <| R_loadN TN_25 H fun at74 xt74 hat74 _ H St74 hSt74 => tkL rfl <| R_loadN TN_25 H fun at75 xt75 hat75 _ H St75 hSt75 => ?_
            obtain ⟨HA0, HA1⟩ := H
            refine alt_n rfl ?_ ?_
            · have H := HA0
              clear HA0 HA1
              refine H_mkSl TZ_23 (by decide) rfl H rfl fun t76 h ⟨S, H⟩ => ⟨(hskip rfl (hskip rfl (hcons rfl (hSt73 _ (still_N S hat73 rfl)) hnil))), ?_⟩
              exact aE rfl <| H_storeN TS_27 H fun h H => ⟨(hskip rfl hnil), pS t76 rfl rfl <| vp_done <| H⟩
            refine alt_n rfl ?_ vp_none
            have H := HA1
            clear HA0 HA1
            refine H_storeN TS_27 H fun h ⟨S_2, S_3, H⟩ => ⟨(hcons rfl (hSt75 _ (still_N S_3 hat75 rfl)) (hcons rfl (hSt74 _ (still_N S_2 hat74 rfl)) (hskip rfl hnil))), ?_⟩
            exact aE rfl <| H_mkSl TZ_23 (by decide) rfl H rfl fun t76_2 h H => ⟨(hskip rfl (hskip rfl hnil)), pS t76_2 rfl rfl <| vp_done <| H⟩
          refine sR <| nM t60_5 rfl <| nP R_not H fun _ H => vl_e ?_
          refine cI H (fun H => ?_) fun H => ?_
          · refine WPc_seq' <| W_drawn [0, 1, 0, 4, 0, 0, 60, 127, 0, 0, 255, 1535, 4095, 8191] (.take 0 (.take 1 (.take 2 (.take 3 (.take 4 (.take 5 (.take 8 (.take 9 (.alt 6 (.take 7 (.alt 10 (.alt 11 (.alt 12 (.take 13 .done) .none) .none) .none)) .none))))))))) mixed (by kernel_rfl) <| pP rfl (R_fld TF_25_0) H fun _ H => pL rfl T1_22 H fun _ _ hat64_11 H => pP rfl (R_fld TF_25_1) H fun _ H => pL rfl T1_23 H fun _ _ _ H => pM (e 12) rfl rfl <| tkL rfl <| R_loadN TN_25 H fun _ _ _ _ H _ _ => pP rfl (R_build TB_27 rfl (by decide)) H fun _ H => pP rfl (R_build TB_25 rfl (by decide)) H fun _ H => aE rfl <| H_call HB_137 H fun _ h ⟨S_23, H⟩ => ⟨(hskip rfl (hskip rfl (hcons rfl (still_1 S_23 hat64_11) hnil))), pP rfl (R_build TB_25 rfl (by decide)) H fun _ H => aE rfl <| H_storeN TS_25 H fun h H => ⟨(hskip rfl hnil), aE rfl <| H_storeN TS_27 H fun h H => ⟨hnil, ?_⟩⟩⟩
            exact aE rfl <| H_storeN TS_25 H fun h H => ⟨hnil, pS (.bool false) rfl rfl <| vp_done <| WPc_ret <| resH_of rfl <| resL_N TN_25 <| loadN_imp H fun r8_11 H => resL_N TN_27 <| loadN_imp H fun r9_11 H => resL_N TN_25 <| loadN_imp H fun r10_11 H => resL_t <| H⟩
          · exact WPc_skip <| H
        refine alt_n rfl ?_ vp_none
        have H := HA1
        clear HA0 HA1
        refine H_alloc TV_27 H fun _ h ⟨S_24, S_25, S_26, H⟩ => ⟨(hcons rfl (hSt55 _ (still_N S_26 hat55 rfl)) (hcons rfl (hSt54 _ (still_N S_25 hat54 rfl)) (hcons rfl (still_1 S_24 hat51) hnil))), ?_⟩
        refine aE rfl <| H_call HB_69 H fun t56_6 h H => ⟨(hskip rfl (hskip rfl (hskip rfl hnil))), pM t56_6 rfl rfl <| pP rfl R_ext H fun _ H => pP rfl R_ext H fun _ H => pP rfl R_ext H fun _ H => pP rfl R_ext H fun t60_6 H => aE rfl <| H_storeN TS_25 H fun h H => ⟨hnil, aE rfl <| H_storeN TS_27 H fun h H => ⟨hnil, aE rfl <| H_storeN TS_25 H fun h H => ⟨hnil, pS t60_6 rfl rfl <| vp_done ?_⟩⟩⟩⟩
        refine WPc_seq (fun e h => s_put.j16 (e 1) (e 6) (e 8) (e 9) (e 10) (e 12) (e 14) (e 16) (e 17) (e 18) h Q) ?_ (fun e h H => ?_)
        rotate_left
        · unfold s_put.j16 at H
          refine W_drawn [0, 0, 0, 6, 1, 31] (.take 0 (.take 1 (.take 2 (.alt 3 (.alt 4 (.take 5 .done) .none) (.alt 4 (.alt 3 (.take 5 .done) .none) .none))))) mixed (by kernel_rfl) <| tkL rfl <| R_loadN TN_27 H fun at73 xt73 hat73 _ H St73 hSt73 => tkL rfl <| R_loadN TN_25 H fun at74 xt74 hat74 _ H St74 hSt74 => tkL rfl <| R_loadN TN_25 H fun at75 xt75 hat75 _ H St75 hSt75 => ?_
          obtain ⟨HA0, HA1⟩ := H
          refine alt_n rfl ?_ ?_
          · have H := HA0
            clear HA0 HA1
            refine H_mkSl TZ_23 (by decide) rfl H rfl fun t76 h ⟨S, H⟩ => ⟨(hskip rfl (hskip rfl (hcons rfl (hSt73 _ (still_N S hat73 rfl)) hnil))), ?_⟩
            exact aE rfl <| H_storeN TS_27 H fun h H => ⟨(hskip rfl hnil), pS t76 rfl rfl <| vp_done <| H⟩
          refine alt_n rfl ?_ vp_none
          have H := HA1
          clear HA0 HA1
          refine H_storeN TS_27 H fun h ⟨S_2, S_3, H⟩ => ⟨(hcons rfl (hSt75 _ (still_N S_3 hat75 rfl)) (hcons rfl (hSt74 _ (still_N S_2 hat74 rfl)) (hskip rfl hnil))), ?_⟩
          exact aE rfl <| H_mkSl TZ_23 (by decide) rfl H rfl fun t76_2 h H => ⟨(hskip rfl (hskip rfl hnil)), pS t76_2 rfl rfl <| vp_done <| H⟩
        refine sR <| nM t60_6 rfl <| nP R_not H fun _ H => vl_e ?_
        refine cI H (fun H => ?_) fun H => ?_
        · refine WPc_seq' <| W_drawn [0, 1, 0, 4, 0, 0, 60, 127, 0, 0, 255, 1535, 4095, 8191] (.take 0 (.take 1 (.take 2 (.take 3 (.take 4 (.take 5 (.take 8 (.take 9 (.alt 6 (.take 7 (.alt 10 (.alt 11 (.alt 12 (.take 13 .done) .none) .none) .none)) .none))))))))) mixed (by kernel_rfl) <| pP rfl (R_fld TF_25_0) H fun _ H => pL rfl T1_22 H fun _ _ hat64_12 H => pP rfl (R_fld TF_25_1) H fun _ H => pL rfl T1_23 H fun _ _ _ H => pM (e 12) rfl rfl <| tkL rfl <| R_loadN TN_25 H fun _ _ _ _ H _ _ => pP rfl (R_build TB_27 rfl (by decide)) H fun _ H => pP rfl (R_build TB_25 rfl (by decide)) H fun _ H => aE rfl <| H_call HB_137 H fun _ h ⟨S_27, H⟩ => ⟨(hskip rfl (hskip rfl (hcons rfl (still_1 S_27 hat64_12) hnil))), pP rfl (R_build TB_25 rfl (by decide)) H fun _ H => aE rfl <| H_storeN TS_25 H fun h H => ⟨(hskip rfl hnil), aE rfl <| H_storeN TS_27 H fun h H => ⟨hnil, ?_⟩⟩⟩
          exact aE rfl <| H_storeN TS_25 H fun h H => ⟨hnil, pS (.bool false) rfl rfl <| vp_done <| WPc_ret <| resH_of rfl <| resL_N TN_25 <| loadN_imp H fun r8_12 H => resL_N TN_27 <| loadN_imp H fun r9_12 H => resL_N TN_25 <| loadN_imp H fun r10_12 H => resL_t <| H⟩
        · exact WPc_skip <| H
      refine alt_n rfl ?_ ?_
      · have H := HA2
        clear HA0 HA1 HA2 HA3
        refine H_alloc TV_27 H fun _ h ⟨S_28, S_29, S_30, H⟩ => ⟨(hcons rfl (hSt55 _ (still_N S_30 hat55 rfl)) (hcons rfl (hSt54 _ (still_N S_29 hat54 rfl)) (hcons rfl (still_1 S_28 hat51) hnil))), ?_⟩
        obtain ⟨HA0, HA1, HA2⟩ := H
        refine alt_n rfl ?_ ?_
        · have H := HA0
          clear HA0 HA1 HA2
          refine H_call HB_69 H fun t56_7 h H => ⟨(hskip rfl (hskip rfl (hskip rfl hnil))), ?_⟩
          refine pM t56_7 rfl rfl <| pP rfl R_ext H fun _ H => pP rfl R_ext H fun _ H => pP rfl R_ext H fun _ H => pP rfl R_ext H fun t60_7 H => ?_
          obtain ⟨HA0, HA1⟩ := H
          refine alt_n rfl ?_ ?_
          · have H := HA0
            clear HA0 HA1
            refine H_alloc TV_25 H fun _ h H => ⟨hnil, ?_⟩
            refine aE rfl <| H_alloc TV_25 H fun _ h H => ⟨hnil, aE rfl <| H_storeN TS_25 H fun h H => ⟨hnil, aE rfl <| H_storeN TS_27 H fun h H => ⟨hnil, aE rfl <| H_storeN TS_25 H fun h H => ⟨hnil, pS t60_7 rfl rfl <| vp_done ?_⟩⟩⟩⟩
            refine WPc_seq (fun e h => s_put.j17 (e 1) (e 6) (e 8) (e 9) (e 10) (e 12) (e 14) (e 16) (e 17) (e 18) h Q) ?_ (fun e h H => ?_)
            rotate_left
            · unfold s_put.j17 at H
              refine W_drawn [0, 0, 0, 6, 1, 31] (.take 0 (.take 1 (.take 2 (.alt 3 (.alt 4 (.take 5 .done) .none) (.alt 4 (.alt 3 (.take 5 .done) .none) .none))))) mixed (by kernel_rfl) <| tkL rfl <| R_loadN TN_27 H fun at73 xt73 hat73 _ H St73 hSt73 => tkL rfl <| R_loadN TN_25 H fun at74 xt74 hat74 _ H St74 hSt74 => tkL rfl <| R_loadN TN_25 H fun at75 xt75 hat75 _ H St75 hSt75 => ?_
              obtain ⟨HA0, HA1⟩ := H
              refine alt_n rfl ?_ ?_
              · have H := HA0
                clear HA0 HA1
                refine H_mkSl TZ_23 (by decide) rfl H rfl fun t76 h ⟨S, H⟩ => ⟨(hskip rfl (hskip rfl (hcons rfl (hSt73 _ (still_N S hat73 rfl)) hnil))), ?_⟩
                exact aE rfl <| H_storeN TS_27 H fun h H => ⟨(hskip rfl hnil), pS t76 rfl rfl <| vp_done <| H⟩
              refine alt_n rfl ?_ vp_none
              have H := HA1
              clear HA0 HA1
              refine H_storeN TS_27 H fun h ⟨S_2, S_3, H⟩ => ⟨(hcons rfl (hSt75 _ (still_N S_3 hat75 rfl)) (hcons rfl (hSt74 _ (still_N S_2 hat74 rfl)) (hskip rfl hnil))), ?_⟩
              exact aE rfl <| H_mkSl TZ_23 (by decide) rfl H rfl fun t76_2 h H => ⟨(hskip rfl (hskip rfl hnil)), pS t76_2 rfl rfl <| vp_done <| H⟩
            refine sR <| nM t60_7 rfl <| nP R_not H fun _ H => vl_e ?_
            refine cI H (fun H => ?_) fun H => ?_
            · refine WPc_seq' <| W_drawn [0, 1, 0, 4, 0, 0, 60, 127, 0, 0, 255, 1535, 4095, 8191] (.take 0 (.take 1 (.take 2 (.take 3 (.take 4 (.take 5 (.take 8 (.take 9 (.alt 6 (.take 7 (.alt 10 (.alt 11 (.alt 12 (.take 13 .done) .none) .none) .none)) .none))))))))) mixed (by kernel_rfl) <| pP rfl (R_fld TF_25_0) H fun _ H => pL rfl T1_22 H fun _ _ hat64_13 H => pP rfl (R_fld TF_25_1) H fun _ H => pL rfl T1_23 H fun _ _ _ H => pM (e 12) rfl rfl <| tkL rfl <| R_loadN TN_25 H fun _ _ _ _ H _ _ => pP rfl (R_build TB_27 rfl (by decide)) H fun _ H => pP rfl (R_build TB_25 rfl (by decide)) H fun _ H => aE rfl <| H_call HB_137 H fun _ h ⟨S_31, H⟩ => ⟨(hskip rfl (hskip rfl (hcons rfl (still_1 S_31 hat64_13) hnil))), pP rfl (R_build TB_25 rfl (by decide)) H fun _ H => aE rfl <| H_storeN TS_25 H fun h H => ⟨(hskip rfl hnil), aE rfl <| H_storeN TS_27 H fun h H => ⟨hnil, ?_⟩⟩⟩
              exact aE rfl <| H_storeN TS_25 H fun h H => ⟨hnil, pS (.bool false) rfl rfl <| vp_done <| WPc_ret <| resH_of rfl <| resL_N TN_25 <| loadN_imp H fun r8_13 H => resL_N TN_27 <| loadN_imp H fun r9_13 H => resL_N TN_25 <| loadN_imp H fun r10_13 H => resL_t <| H⟩
            · exact WPc_skip <| H
          refine alt_n rfl ?_ vp_none
          have H := HA1
          clear HA0 HA1
          refine H_alloc TV_25 H fun _ h H => ⟨hnil, ?_⟩
          refine aE rfl <| H_alloc TV_25 H fun _ h H => ⟨hnil, aE rfl <| H_storeN TS_25 H fun h H => ⟨hnil, aE rfl <| H_storeN TS_27 H fun h H => ⟨hnil, aE rfl <| H_storeN TS_25 H fun h H => ⟨hnil, pS t60_7 rfl rfl <| vp_done ?_⟩⟩⟩⟩
          refine WPc_seq (fun e h => s_put.j18 (e 1) (e 6) (e 8) (e 9) (e 10) (e 12) (e 14) (e 16) (e 17) (e 18) h Q) ?_ (fun e h H => ?_)
          rotate_left
          · unfold s_put.j18 at H
            refine W_drawn [0, 0, 0, 6, 1, 31] (.take 0 (.take 1 (.take 2 (.alt 3 (.alt 4 (.take 5 .done) .none) (.alt 4 (.alt 3 (.take 5 .done) .none) .none))))) mixed (by kernel_rfl) <| tkL rfl <| R_loadN TN_27 H fun at73 xt73 hat73 _ H St73 hSt73 => tkL rfl <| R_loadN TN_25 H fun at74 xt74 hat74 _ H St74 hSt74 => tkL rfl <| R_loadN TN_25 H fun at75 xt75 hat75 _ H St75 hSt75 => ?_
            obtain ⟨HA0, HA1⟩ := H
            refine alt_n rfl ?_ ?_
            · have H := HA0
              clear HA0 HA1
              refine H_mkSl TZ_23 (by decide) rfl H rfl fun t76 h ⟨S, H⟩ => ⟨(hskip rfl (hskip rfl (hcons rfl (hSt73 _ (still_N S hat73 rfl)) hnil))), ?_⟩
              exact aE rfl <| H_storeN TS_27 H fun h H => ⟨(hskip rfl hnil), pS t76 rfl rfl <| vp_done <| H⟩
            refine alt_n rfl ?_ vp_none
            have H := HA1
            clear HA0 HA1
            refine H_storeN TS_27 H fun h ⟨S_2, S_3, H⟩ => ⟨(hcons rfl (hSt75 _ (still_N S_3 hat75 rfl)) (hcons rfl (hSt74 _ (still_N S_2 hat74 rfl)) (hskip rfl hnil))), ?_⟩
            exact aE rfl <| H_mkSl TZ_23 (by decide) rfl H rfl fun t76_2 h H => ⟨(hskip rfl (hskip rfl hnil)), pS t76_2 rfl rfl <| vp_done <| H⟩
          refine sR <| nM t60_7 rfl <| nP R_not H fun _ H => vl_e ?_
          refine cI H (fun H => ?_) fun H => ?_
          · refine WPc_seq' <| W_drawn [0, 1, 0, 4, 0, 0, 60, 127, 0, 0, 255, 1535, 4095, 8191] (.take 0 (.take 1 (.take 2 (.take 3 (.take 4 (.take 5 (.take 8 (.take 9 (.alt 6 (.take 7 (.alt 10 (.alt 11 (.alt 12 (.take 13 .done) .none) .none) .none)) .none))))))))) mixed (by kernel_rfl) <| pP rfl (R_fld TF_25_0) H fun _ H => pL rfl T1_22 H fun _ _ hat64_14 H => pP rfl (R_fld TF_25_1) H fun _ H => pL rfl T1_23 H fun _ _ _ H => pM (e 12) rfl rfl <| tkL rfl <| R_loadN TN_25 H fun _ _ _ _ H _ _ => pP rfl (R_build TB_27 rfl (by decide)) H fun _ H => pP rfl (R_build TB_25 rfl (by decide)) H fun _ H => aE rfl <| H_call HB_137 H fun _ h ⟨S_32, H⟩ => ⟨(hskip rfl (hskip rfl (hcons rfl (still_1 S_32 hat64_14) hnil))), pP rfl (R_build TB_25 rfl (by decide)) H fun _ H => aE rfl <| H_storeN TS_25 H fun h H => ⟨(hskip rfl hnil), aE rfl <| H_storeN TS_27 H fun h H => ⟨hnil, ?_⟩⟩⟩
            exact aE rfl <| H_storeN TS_25 H fun h H => ⟨hnil, pS (.bool false) rfl rfl <| vp_done <| WPc_ret <| resH_of rfl <| resL_N TN_25 <| loadN_imp H fun r8_14 H => resL_N TN_27 <| loadN_imp H fun r9_14 H => resL_N TN_25 <| loadN_imp H fun r10_14 H => resL_t <| H⟩
          · exact WPc_skip <| H
        refine alt_n rfl ?_ ?_
        · have H := HA1
          clear HA0 HA1 HA2
          refine H_alloc TV_25 H fun _ h ⟨S_33, S_34, S_35, H⟩ => ⟨(hcons rfl (hSt55 _ (still_N S_35 hat55 rfl)) (hcons rfl (hSt54 _ (still_N S_34 hat54 rfl)) (hcons rfl (still_1 S_33 hat51) hnil))), ?_⟩
          obtain ⟨HA0, HA1⟩ := H
          refine alt_n rfl ?_ ?_
          · have H := HA0
            clear HA0 HA1
            refine H_call HB_69 H fun t56_8 h H => ⟨(hskip rfl (hskip rfl (hskip rfl hnil))), ?_⟩
            refine pM t56_8 rfl rfl <| pP rfl R_ext H fun _ H => pP rfl R_ext H fun _ H => pP rfl R_ext H fun _ H => pP rfl R_ext H fun t60_8 H => aE rfl <| H_alloc TV_25 H fun _ h H => ⟨hnil, aE rfl <| H_storeN TS_25 H fun h H => ⟨hnil, aE rfl <| H_storeN TS_27 H fun h H => ⟨hnil, aE rfl <| H_storeN TS_25 H fun h H => ⟨hnil, pS t60_8 rfl rfl <| vp_done ?_⟩⟩⟩⟩
            refine WPc_seq (fun e h => s_put.j19 (e 1) (e 6) (e 8) (e 9) (e 10) (e 12) (e 14) (e 16) (e 17) (e 18) h Q) ?_ (fun e h H => ?_)
            rotate_left
            · unfold s_put.j19 at H
              refine W_drawn [0, 0, 0, 6, 1, 31] (.take 0 (.take 1 (.take 2 (.alt 3 (.alt 4 (.take 5 .done) .none) (.alt 4 (.alt 3 (.take 5 .done) .none) .none))))) mixed (by kernel_rfl) <| tkL rfl <| R_loadN TN_27 H fun at73 xt73 hat73 _ H St73 hSt73 => tkL rfl <| R_loadN TN_25 H fun at74 xt74 hat74 _ H St74 hSt74 => tkL rfl <| R_loadN TN_25 H fun at75 xt75 hat75 _ H St75 hSt75 => ?_
              obtain ⟨HA0, HA1⟩ := H
              refine alt_n rfl ?_ ?_
              · have H := HA0
                clear HA0 HA1
                refine H_mkSl TZ_23 (by decide) rfl H rfl fun t76 h ⟨S, H⟩ => ⟨(hskip rfl (hskip rfl (hcons rfl (hSt73 _ (still_N S hat73 rfl)) hnil))), ?_⟩
                exact aE rfl <| H_storeN TS_27 H fun h H => ⟨(hskip rfl hnil), pS t76 rfl rfl <| vp_done <| H⟩
              refine alt_n rfl ?_ vp_none
              have H := HA1
              clear HA0 HA1
              refine H_storeN TS_27 H fun h ⟨S_2, S_3, H⟩ => ⟨(hcons rfl (hSt75 _ (still_N S_3 hat75 rfl)) (hcons rfl (hSt74 _ (still_N S_2 hat74 rfl)) (hskip rfl hnil))), ?_⟩
              exact aE rfl <| H_mkSl TZ_23 (by decide) rfl H rfl fun t76_2 h H => ⟨(hskip rfl (hskip rfl hnil)), pS t76_2 rfl rfl <| vp_done <| H⟩
            refine sR <| nM t60_8 rfl <| nP R_not H fun _ H => vl_e ?_
            refine cI H (fun H => ?_) fun H => ?_
            · refine WPc_seq' <| W_drawn [0, 1, 0, 4, 0, 0, 60, 127, 0, 0, 255, 1535, 4095, 8191] (.take 0 (.take 1 (.take 2 (.take 3 (.take 4 (.take 5 (.take 8 (.take 9 (.alt 6 (.take 7 (.alt 10 (.alt 11 (.alt 12 (.take 13 .done) .none) .none) .none)) .none))))))))) mixed (by kernel_rfl) <| pP rfl (R_fld TF_25_0) H fun _ H => pL rfl T1_22 H fun _ _ hat64_15 H => pP rfl (R_fld TF_25_1) H fun _ H => pL rfl T1_23 H fun _ _ _ H => pM (e 12) rfl rfl <| tkL rfl <| R_loadN TN_25 H fun _ _ _ _ H _ _ => pP rfl (R_build TB_27 rfl (by decide)) H fun _ H => pP rfl (R_build TB_25 rfl (by decide)) H fun _ H => aE rfl <| H_call HB_137 H fun _ h ⟨S_36, H⟩ => ⟨(hskip rfl (hskip rfl (hcons rfl (still_1 S_36 hat64_15) hnil))), pP rfl (R_build TB_25 rfl (by decide)) H fun _ H => aE rfl <| H_storeN TS_25 H fun h H => ⟨(hskip rfl hnil), aE rfl <| H_storeN TS_27 H fun h H => ⟨hnil, ?_⟩⟩⟩
              exact aE rfl <| H_storeN TS_25 H fun h H => ⟨hnil, pS (.bool false) rfl rfl <| vp_done <| WPc_ret <| resH_of rfl <| resL_N TN_25 <| loadN_imp H fun r8_15 H => resL_N TN_27 <| loadN_imp H fun r9_15 H => resL_N TN_25 <| loadN_imp H fun r10_15 H => resL_t <| H⟩
            · exact WPc_skip <| H
          refine alt_n rfl ?_ vp_none
          have H := HA1
          clear HA0 HA1
          refine H_alloc TV_25 H fun _ h ⟨S_37, S_38, S_39, H⟩ => ⟨(hcons rfl (hSt55 _ (still_N S_39 hat55 rfl)) (hcons rfl (hSt54 _ (still_N S_38 hat54 rfl)) (hcons rfl (still_1 S_37 hat51) hnil))), ?_⟩
          refine aE rfl <| H_call HB_69 H fun t56_9 h H => ⟨(hskip rfl (hskip rfl (hskip rfl hnil))), pM t56_9 rfl rfl <| pP rfl R_ext H fun _ H => pP rfl R_ext H fun _ H => pP rfl R_ext H fun _ H => pP rfl R_ext H fun t60_9 H => aE rfl <| H_storeN TS_25 H fun h H => ⟨hnil, aE rfl <| H_storeN TS_27 H fun h H => ⟨hnil, aE rfl <| H_storeN TS_25 H fun h H => ⟨hnil, pS t60_9 rfl rfl <| vp_done ?_⟩⟩⟩⟩
          refine WPc_seq (fun e h => s_put.j20 (e 1) (e 6) (e 8) (e 9) (e 10) (e 12) (e 14) (e 16) (e 17) (e 18) h Q) ?_ (fun e h H => ?_)
          rotate_left
          · unfold s_put.j20 at H
            refine W_drawn [0, 0, 0, 6, 1, 31] (.take 0 (.take 1 (.take 2 (.alt 3 (.alt 4 (.take 5 .done) .none) (.alt 4 (.alt 3 (.take 5 .done) .none) .none))))) mixed (by kernel_rfl) <| tkL rfl <| R_loadN TN_27 H fun at73 xt73 hat73 _ H St73 hSt73 => tkL rfl <| R_loadN TN_25 H fun at74 xt74 hat74 _ H St74 hSt74 => tkL rfl <| R_loadN TN_25 H fun at75 xt75 hat75 _ H St75 hSt75 => ?_
            obtain ⟨HA0, HA1⟩ := H
            refine alt_n rfl ?_ ?_
            · have H := HA0
              clear HA0 HA1
              refine H_mkSl TZ_23 (by decide) rfl H rfl fun t76 h ⟨S, H⟩ => ⟨(hskip rfl (hskip rfl (hcons rfl (hSt73 _ (still_N S hat73 rfl)) hnil))), ?_⟩
              exact aE rfl <| H_storeN TS_27 H fun h H => ⟨(hskip rfl hnil), pS t76 rfl rfl <| vp_done <| H⟩
            refine alt_n rfl ?_ vp_none
            have H := HA1
            clear HA0 HA1
            refine H_storeN TS_27 H fun h ⟨S_2, S_3, H⟩ => ⟨(hcons rfl (hSt75 _ (still_N S_3 hat75 rfl)) (hcons rfl (hSt74 _ (still_N S_2 hat74 rfl)) (hskip rfl hnil))), ?_⟩
            exact aE rfl <| H_mkSl TZ_23 (by decide) rfl H rfl fun t76_2 h H => ⟨(hskip rfl (hskip rfl hnil)), pS t76_2 rfl rfl <| vp_done <| H⟩
          refine sR <| nM t60_9 rfl <| nP R_not H fun _ H => vl_e ?_
          refine cI H (fun H => ?_) fun H => ?_
          · refine WPc_seq' <| W_drawn [0, 1, 0, 4, 0, 0, 60, 127, 0, 0, 255, 1535, 4095, 8191] (.take 0 (.take 1 (.take 2 (.take 3 (.take 4 (.take 5 (.take 8 (.take 9 (.alt 6 (.take 7 (.alt 10 (.alt 11 (.alt 12 (.take 13 .done) .none) .none) .none)) .none))))))))) mixed (by kernel_rfl) <| pP rfl (R_fld TF_25_0) H fun _ H => pL rfl T1_22 H fun _ _ hat64_16 H => pP rfl (R_fld TF_25_1) H fun _ H => pL rfl T1_23 H fun _ _ _ H => pM (e 12) rfl rfl <| tkL rfl <| R_loadN TN_25 H fun _ _ _ _ H _ _ => pP rfl (R_build TB_27 rfl (by decide)) H fun _ H => pP rfl (R_build TB_25 rfl (by decide)) H fun _ H => aE rfl <| H_call HB_137 H fun _ h ⟨S_40, H⟩ => ⟨(hskip rfl (hskip rfl (hcons rfl (still_1 S_40 hat64_16) hnil))), pP rfl (R_build TB_25 rfl (by decide)) H fun _ H => aE rfl <| H_storeN TS_25 H fun h H => ⟨(hskip rfl hnil), aE rfl <| H_storeN TS_27 H fun h H => ⟨hnil, ?_⟩⟩⟩
            exact aE rfl <| H_storeN TS_25 H fun h H => ⟨hnil, pS (.bool false) rfl rfl <| vp_done <| WPc_ret <| resH_of rfl <| resL_N TN_25 <| loadN_imp H fun r8_16 H => resL_N TN_27 <| loadN_imp H fun r9_16 H => resL_N TN_25 <| loadN_imp H fun r10_16 H => resL_t <| H⟩
          · exact WPc_skip <| H
        refine alt_n rfl ?_ vp_none
        have H := HA2
        clear HA0 HA1 HA2
        refine H_alloc TV_25 H fun _ h ⟨S_41, S_42, S_43, H⟩ => ⟨(hcons rfl (hSt55 _ (still_N S_43 hat55 rfl)) (hcons rfl (hSt54 _ (still_N S_42 hat54 rfl)) (hcons rfl (still_1 S_41 hat51) hnil))), ?_⟩
        obtain ⟨HA0, HA1⟩ := H
        refine alt_n rfl ?_ ?_
        · have H := HA0
          clear HA0 HA1
          refine H_call HB_69 H fun t56_10 h H => ⟨(hskip rfl (hskip rfl (hskip rfl hnil))), ?_⟩
          refine pM t56_10 rfl rfl <| pP rfl R_ext H fun _ H => pP rfl R_ext H fun _ H => pP rfl R_ext H fun _ H => pP rfl R_ext H fun t60_10 H => aE rfl <| H_alloc TV_25 H fun _ h H => ⟨hnil, aE rfl <| H_storeN TS_25 H fun h H => ⟨hnil, aE rfl <| H_storeN TS_27 H fun h H => ⟨hnil, aE rfl <| H_storeN TS_25 H fun h H => ⟨hnil, pS t60_10 rfl rfl <| vp_done ?_⟩⟩⟩⟩
          refine WPc_seq (fun e h => s_put.j21 (e 1) (e 6) (e 8) (e 9) (e 10) (e 12) (e 14) (e 16) (e 17) (e 18) h Q) ?_ (fun e h H => ?_)
          rotate_left
          · unfold s_put.j21 at H
            refine W_drawn [0, 0, 0, 6, 1, 31] (.take 0 (.take 1 (.take 2 (.alt 3 (.alt 4 (.take 5 .done) .none) (.alt 4 (.alt 3 (.take 5 .done) .none) .none))))) mixed (by kernel_rfl) <| tkL rfl <| R_loadN TN_27 H fun at73 xt73 hat73 _ H St73 hSt73 => tkL rfl <| R_loadN TN_25 H fun at74 xt74 hat74 _ H St74 hSt74 => tkL rfl <| R_loadN TN_25 H fun at75 xt75 hat75 _ H St75 hSt75 => ?_
            obtain ⟨HA0, HA1⟩ := H
            refine alt_n rfl ?_ ?_
            · have H := HA0
              clear HA0 HA1
              refine H_mkSl TZ_23 (by decide) rfl H rfl fun t76 h ⟨S, H⟩ => ⟨(hskip rfl (hskip rfl (hcons rfl (hSt73 _ (still_N S hat73 rfl)) hnil))), ?_⟩
              exact aE rfl <| H_storeN TS_27 H fun h H => ⟨(hskip rfl hnil), pS t76 rfl rfl <| vp_done <| H⟩
            refine alt_n rfl ?_ vp_none
            have H := HA1
            clear HA0 HA1
            refine H_storeN TS_27 H fun h ⟨S_2, S_3, H⟩ => ⟨(hcons rfl (hSt75 _ (still_N S_3 hat75 rfl)) (hcons rfl (hSt74 _ (still_N S_2 hat74 rfl)) (hskip rfl hnil))), ?_⟩
            exact aE rfl <| H_mkSl TZ_23 (by decide) rfl H rfl fun t76_2 h H => ⟨(hskip rfl (hskip rfl hnil)), pS t76_2 rfl rfl <| vp_done <| H⟩
          refine sR <| nM t60_10 rfl <| nP R_not H fun _ H => vl_e ?_
          refine cI H (fun H => ?_) fun H => ?_
          · refine WPc_seq' <| W_drawn [0, 1, 0, 4, 0, 0, 60, 127, 0, 0, 255, 1535, 4095, 8191] (.take 0 (.take 1 (.take 2 (.take 3 (.take 4 (.take 5 (.take 8 (.take 9 (.alt 6 (.take 7 (.alt 10 (.alt 11 (.alt 12 (.take 13 .done) .none) .none) .none)) .none))))))))) mixed (by kernel_rfl) <| pP rfl (R_fld TF_25_0) H fun _ H => pL rfl T1_22 H fun _ _ hat64_17 H => pP rfl (R_fld TF_25_1) H fun _ H => pL rfl T1_23 H fun _ _ _ H => pM (e 12) rfl rfl <| tkL rfl <| R_loadN TN_25 H fun _ _ _ _ H _ _ => pP rfl (R_build TB_27 rfl (by decide)) H fun _ H => pP rfl (R_build TB_25 rfl (by decide)) H fun _ H => aE rfl <| H_call HB_137 H fun _ h ⟨S_44, H⟩ => ⟨(hskip rfl (hskip rfl (hcons rfl (still_1 S_44 hat64_17) hnil))), pP rfl (R_build TB_25 rfl (by decide)) H fun _ H => aE rfl <| H_storeN TS_25 H fun h H => ⟨(hskip rfl hnil), aE rfl <| H_storeN TS_27 H fun h H => ⟨hnil, ?_⟩⟩⟩
            exact aE rfl <| H_storeN TS_25 H fun h H => ⟨hnil, pS (.bool false) rfl rfl <| vp_done <| WPc_ret <| resH_of rfl <| resL_N TN_25 <| loadN_imp H fun r8_17 H => resL_N TN_27 <| loadN_imp H fun r9_17 H => resL_N TN_25 <| loadN_imp H fun r10_17 H => resL_t <| H⟩
          · exact WPc_skip <| H
        refine alt_n rfl ?_ vp_none
        have H := HA1
        clear HA0 HA1
        refine H_alloc TV_25 H fun _ h ⟨S_45, S_46, S_47, H⟩ => ⟨(hcons rfl (hSt55 _ (still_N S_47 hat55 rfl)) (hcons rfl (hSt54 _ (still_N S_46 hat54 rfl)) (hcons rfl (still_1 S_45 hat51) hnil))), ?_⟩
        refine aE rfl <| H_call HB_69 H fun t56_11 h H => ⟨(hskip rfl (hskip rfl (hskip rfl hnil))), pM t56_11 rfl rfl <| pP rfl R_ext H fun _ H => pP rfl R_ext H fun _ H => pP rfl R_ext H fun _ H => pP rfl R_ext H fun t60_11 H => aE rfl <| H_storeN TS_25 H fun h H => ⟨hnil, aE rfl <| H_storeN TS_27 H fun h H => ⟨hnil, aE rfl <| H_storeN TS_25 H fun h H => ⟨hnil, pS t60_11 rfl rfl <| vp_done ?_⟩⟩⟩⟩
        refine WPc_seq (fun e h => s_put.j22 (e 1) (e 6) (e 8) (e 9) (e 10) (e 12) (e 14) (e 16) (e 17) (e 18) h Q) ?_ (fun e h H => ?_)
        rotate_left
        · unfold s_put.j22 at H
          refine W_drawn [0, 0, 0, 6, 1, 31] (.take 0 (.take 1 (.take 2 (.alt 3 (.alt 4 (.take 5 .done) .none) (.alt 4 (.alt 3 (.take 5 .done) .none) .none))))) mixed (by kernel_rfl) <| tkL rfl <| R_loadN TN_27 H fun at73 xt73 hat73 _ H St73 hSt73 => tkL rfl <| R_loadN TN_25 H fun at74 xt74 hat74 _ H St74 hSt74 => tkL rfl <| R_loadN TN_25 H fun at75 xt75 hat75 _ H St75 hSt75 => ?_
          obtain ⟨HA0, HA1⟩ := H
          refine alt_n rfl ?_ ?_
          · have H := HA0
            clear HA0 HA1
            refine H_mkSl TZ_23 (by decide) rfl H rfl fun t76 h ⟨S, H⟩ => ⟨(hskip rfl (hskip rfl (hcons rfl (hSt73 _ (still_N S hat73 rfl)) hnil))), ?_⟩
            exact aE rfl <| H_storeN TS_27 H fun h H => ⟨(hskip rfl hnil), pS t76 rfl rfl <| vp_done <| H⟩
          refine alt_n rfl ?_ vp_none
          have H := HA1
          clear HA0 HA1
          refine H_storeN TS_27 H fun h ⟨S_2, S_3, H⟩ => ⟨(hcons rfl (hSt75 _ (still_N S_3 hat75 rfl)) (hcons rfl (hSt74 _ (still_N S_2 hat74 rfl)) (hskip rfl hnil))), ?_⟩
          exact aE rfl <| H_mkSl TZ_23 (by decide) rfl H rfl fun t76_2 h H => ⟨(hskip rfl (hskip rfl hnil)), pS t76_2 rfl rfl <| vp_done <| H⟩
        refine sR <| nM t60_11 rfl <| nP R_not H fun _ H => vl_e ?_
        refine cI H (fun H => ?_) fun H => ?_
        · refine WPc_seq' <| W_drawn [0, 1, 0, 4, 0, 0, 60, 127, 0, 0, 255, 1535, 4095, 8191] (.take 0 (.take 1 (.take 2 (.take 3 (.take 4 (.take 5 (.take 8 (.take 9 (.alt 6 (.take 7 (.alt 10 (.alt 11 (.alt 12 (.take 13 .done) .none) .none) .none)) .none))))))))) mixed (by kernel_rfl) <| pP rfl (R_fld TF_25_0) H fun _ H => pL rfl T1_22 H fun _ _ hat64_18 H => pP rfl (R_fld TF_25_1) H fun _ H => pL rfl T1_23 H fun _ _ _ H => pM (e 12) rfl rfl <| tkL rfl <| R_loadN TN_25 H fun _ _ _ _ H _ _ => pP rfl (R_build TB_27 rfl (by decide)) H fun _ H => pP rfl (R_build TB_25 rfl (by decide)) H fun _ H => aE rfl <| H_call HB_137 H fun _ h ⟨S_48, H⟩ => ⟨(hskip rfl (hskip rfl (hcons rfl (still_1 S_48 hat64_18) hnil))), pP rfl (R_build TB_25 rfl (by decide)) H fun _ H => aE rfl <| H_storeN TS_25 H fun h H => ⟨(hskip rfl hnil), aE rfl <| H_storeN TS_27 H fun h H => ⟨hnil, ?_⟩⟩⟩
          exact aE rfl <| H_storeN TS_25 H fun h H => ⟨hnil, pS (.bool false) rfl rfl <| vp_done <| WPc_ret <| resH_of rfl <| resL_N TN_25 <| loadN_imp H fun r8_18 H => resL_N TN_27 <| loadN_imp H fun r9_18 H => resL_N TN_25 <| loadN_imp H fun r10_18 H => resL_t <| H⟩
        · exact WPc_skip <| H
      refine alt_n rfl ?_ vp_none
      have H := HA3
      clear HA0 HA1 HA2 HA3
      refine H_alloc TV_25 H fun _ h ⟨S_49, S_50, S_51, H⟩ => ⟨(hcons rfl (hSt55 _ (still_N S_51 hat55 rfl)) (hcons rfl (hSt54 _ (still_N S_50 hat54 rfl)) (hcons rfl (still_1 S_49 hat51) hnil))), ?_⟩
      obtain ⟨HA0, HA1, HA2⟩ := H
      refine alt_n rfl ?_ ?_
      · have H := HA0
        clear HA0 HA1 HA2
        refine H_call HB_69 H fun t56_12 h H => ⟨(hskip rfl (hskip rfl (hskip rfl hnil))), ?_⟩
        refine pM t56_12 rfl rfl <| pP rfl R_ext H fun _ H => pP rfl R_ext H fun _ H => pP rfl R_ext H fun _ H => pP rfl R_ext H fun t60_12 H => ?_
        obtain ⟨HA0, HA1⟩ := H
        refine alt_n rfl ?_ ?_
        · have H := HA0
          clear HA0 HA1
          refine H_alloc TV_25 H fun _ h H => ⟨hnil, ?_⟩
          refine aE rfl <| H_alloc TV_27 H fun _ h H => ⟨hnil, aE rfl <| H_storeN TS_25 H fun h H => ⟨hnil, aE rfl <| H_storeN TS_27 H fun h H => ⟨hnil, aE rfl <| H_storeN TS_25 H fun h H => ⟨hnil, pS t60_12 rfl rfl <| vp_done ?_⟩⟩⟩⟩
          refine WPc_seq (fun e h => s_put.j23 (e 1) (e 6) (e 8) (e 9) (e 10) (e 12) (e 14) (e 16) (e 17) (e 18) h Q) ?_ (fun e h H => ?_)
          rotate_left
          · unfold s_put.j23 at H
            refine W_drawn [0, 0, 0, 6, 1, 31] (.take 0 (.take 1 (.take 2 (.alt 3 (.alt 4 (.take 5 .done) .none) (.alt 4 (.alt 3 (.take 5 .done) .none) .none))))) mixed (by kernel_rfl) <| tkL rfl <| R_loadN TN_27 H fun at73 xt73 hat73 _ H St73 hSt73 => tkL rfl <| R_loadN TN_25 H fun at74 xt74 hat74 _ H St74 hSt74 => tkL rfl <| R_loadN TN_25 H fun at75 xt75 hat75 _ H St75 hSt75 => ?_
            obtain ⟨HA0, HA1⟩ := H
            refine alt_n rfl ?_ ?_
            · have H := HA0
              clear HA0 HA1
              refine H_mkSl TZ_23 (by decide) rfl H rfl fun t76 h ⟨S, H⟩ => ⟨(hskip rfl (hskip rfl (hcons rfl (hSt73 _ (still_N S hat73 rfl)) hnil))), ?_⟩
              exact aE rfl <| H_storeN TS_27 H fun h H => ⟨(hskip rfl hnil), pS t76 rfl rfl <| vp_done <| H⟩
            refine alt_n rfl ?_ vp_none
            have H := HA1
            clear HA0 HA1
            refine H_storeN TS_27 H fun h ⟨S_2, S_3, H⟩ => ⟨(hcons rfl (hSt75 _ (still_N S_3 hat75 rfl)) (hcons rfl (hSt74 _ (still_N S_2 hat74 rfl)) (hskip rfl hnil))), ?_⟩
            exact aE rfl <| H_mkSl TZ_23 (by decide) rfl H rfl fun t76_2 h H => ⟨(hskip rfl (hskip rfl hnil)), pS t76_2 rfl rfl <| vp_done <| H⟩
          refine sR <| nM t60_12 rfl <| nP R_not H fun _ H => vl_e ?_
          refine cI H (fun H => ?_) fun H => ?_
          · refine WPc_seq' <| W_drawn [0, 1, 0, 4, 0, 0, 60, 127, 0, 0, 255, 1535, 4095, 8191] (.take 0 (.take 1 (.take 2 (.take 3 (.take 4 (.take 5 (.take 8 (.take 9 (.alt 6 (.take 7 (.alt 10 (.alt 11 (.alt 12 (.take 13 .done) .none) .none) .none)) .none))))))))) mixed (by kernel_rfl) <| pP rfl (R_fld TF_25_0) H fun _ H => pL rfl T1_22 H fun _ _ hat64_19 H => pP rfl (R_fld TF_25_1) H fun _ H => pL rfl T1_23 H fun _ _ _ H => pM (e 12) rfl rfl <| tkL rfl <| R_loadN TN_25 H fun _ _ _ _ H _ _ => pP rfl (R_build TB_27 rfl (by decide)) H fun _ H => pP rfl (R_build TB_25 rfl (by decide)) H fun _ H => aE rfl <| H_call HB_137 H fun _ h ⟨S_52, H⟩ => ⟨(hskip rfl (hskip rfl (hcons rfl (still_1 S_52 hat64_19) hnil))), pP rfl (R_build TB_25 rfl (by decide)) H fun _ H => aE rfl <| H_storeN TS_25 H fun h H => ⟨(hskip rfl hnil), aE rfl <| H_storeN TS_27 H fun h H => ⟨hnil, ?_⟩⟩⟩
            exact aE rfl <| H_storeN TS_25 H fun h H => ⟨hnil, pS (.bool false) rfl rfl <| vp_done <| WPc_ret <| resH_of rfl <| resL_N TN_25 <| loadN_imp H fun r8_19 H => resL_N TN_27 <| loadN_imp H fun r9_19 H => resL_N TN_25 <| loadN_imp H fun r10_19 H => resL_t <| H⟩
          · exact WPc_skip <| H
        refine alt_n rfl ?_ vp_none
        have H := HA1
        clear HA0 HA1
        refine H_alloc TV_27 H fun _ h H => ⟨hnil, ?_⟩
        refine aE rfl <| H_alloc TV_25 H fun _ h H => ⟨hnil, aE rfl <| H_storeN TS_25 H fun h H => ⟨hnil, aE rfl <| H_storeN TS_27 H fun h H => ⟨hnil, aE rfl <| H_storeN TS_25 H fun h H => ⟨hnil, pS t60_12 rfl rfl <| vp_done ?_⟩⟩⟩⟩
        refine WPc_seq (fun e h => s_put.j24 (e 1) (e 6) (e 8) (e 9) (e 10) (e 12) (e 14) (e 16) (e 17) (e 18) h Q) ?_ (fun e h H => ?_)
        rotate_left
        · unfold s_put.j24 at H
          refine W_drawn [0, 0, 0, 6, 1, 31] (.take 0 (.take 1 (.take 2 (.alt 3 (.alt 4 (.take 5 .done) .none) (.alt 4 (.alt 3 (.take 5 .done) .none) .none))))) mixed (by kernel_rfl) <| tkL rfl <| R_loadN TN_27 H fun at73 xt73 hat73 _ H St73 hSt73 => tkL rfl <| R_loadN TN_25 H fun at74 xt74 hat74 _ H St74 hSt74 => tkL rfl <| R_loadN TN_25 H fun at75 xt75 hat75 _ H St75 hSt75 => ?_
          obtain ⟨HA0, HA1⟩ := H
          refine alt_n rfl ?_ ?_
          · have H := HA0
            clear HA0 HA1
            refine H_mkSl TZ_23 (by decide) rfl H rfl fun t76 h ⟨S, H⟩ => ⟨(hskip rfl (hskip rfl (hcons rfl (hSt73 _ (still_N S hat73 rfl)) hnil))), ?_⟩
            exact aE rfl <| H_storeN TS_27 H fun h H => ⟨(hskip rfl hnil), pS t76 rfl rfl <| vp_done <| H⟩
          refine alt_n rfl ?_ vp_none
          have H := HA1
          clear HA0 HA1
          refine H_storeN TS_27 H fun h ⟨S_2, S_3, H⟩ => ⟨(hcons rfl (hSt75 _ (still_N S_3 hat75 rfl)) (hcons rfl (hSt74 _ (still_N S_2 hat74 rfl)) (hskip rfl hnil))), ?_⟩
          exact aE rfl <| H_mkSl TZ_23 (by decide) rfl H rfl fun t76_2 h H => ⟨(hskip rfl (hskip rfl hnil)), pS t76_2 rfl rfl <| vp_done <| H⟩
        refine sR <| nM t60_12 rfl <| nP R_not H fun _ H => vl_e ?_
        refine cI H (fun H => ?_) fun H => ?_
        · refine WPc_seq' <| W_drawn [0, 1, 0, 4, 0, 0, 60, 127, 0, 0, 255, 1535, 4095, 8191] (.take 0 (.take 1 (.take 2 (.take 3 (.take 4 (.take 5 (.take 8 (.take 9 (.alt 6 (.take 7 (.alt 10 (.alt 11 (.alt 12 (.take 13 .done) .none) .none) .none)) .none))))))))) mixed (by kernel_rfl) <| pP rfl (R_fld TF_25_0) H fun _ H => pL rfl T1_22 H fun _ _ hat64_20 H => pP rfl (R_fld TF_25_1) H fun _ H => pL rfl T1_23 H fun _ _ _ H => pM (e 12) rfl rfl <| tkL rfl <| R_loadN TN_25 H fun _ _ _ _ H _ _ => pP rfl (R_build TB_27 rfl (by decide)) H fun _ H => pP rfl (R_build TB_25 rfl (by decide)) H fun _ H => aE rfl <| H_call HB_137 H fun _ h ⟨S_53, H⟩ => ⟨(hskip rfl (hskip rfl (hcons rfl (still_1 S_53 hat64_20) hnil))), pP rfl (R_build TB_25 rfl (by decide)) H fun _ H => aE rfl <| H_storeN TS_25 H fun h H => ⟨(hskip rfl hnil), aE rfl <| H_storeN TS_27 H fun h H => ⟨hnil, ?_⟩⟩⟩
          exact aE rfl <| H_storeN TS_25 H fun h H => ⟨hnil, pS (.bool false) rfl rfl <| vp_done <| WPc_ret <| resH_of rfl <| resL_N TN_25 <| loadN_imp H fun r8_20 H => resL_N TN_27 <| loadN_imp H fun r9_20 H => resL_N TN_25 <| loadN_imp H fun r10_20 H => resL_t <| H⟩
        · exact WPc_skip <| H
      refine alt_n rfl ?_ ?_
      · have H := HA1
        clear HA0 HA1 HA2
        refine H_alloc TV_25 H fun _ h ⟨S_54, S_55, S_56, H⟩ => ⟨(hcons rfl (hSt55 _ (still_N S_56 hat55 rfl)) (hcons rfl (hSt54 _ (still_N S_55 hat54 rfl)) (hcons rfl (still_1 S_54 hat51) hnil))), ?_⟩
        obtain ⟨HA0, HA1⟩ := H
        refine alt_n rfl ?_ ?_
        · have H := HA0
          clear HA0 HA1
          refine H_call HB_69 H fun t56_13 h H => ⟨(hskip rfl (hskip rfl (hskip rfl hnil))), ?_⟩
          refine pM t56_13 rfl rfl <| pP rfl R_ext H fun _ H => pP rfl R_ext H fun _ H => pP rfl R_ext H fun _ H => pP rfl R_ext H fun t60_13 H => aE rfl <| H_alloc TV_27 H fun _ h H => ⟨hnil, aE rfl <| H_storeN TS_25 H fun h H => ⟨hnil, aE rfl <| H_storeN TS_27 H fun h H => ⟨hnil, aE rfl <| H_storeN TS_25 H fun h H => ⟨hnil, pS t60_13 rfl rfl <| vp_done ?_⟩⟩⟩⟩
          refine WPc_seq (fun e h => s_put.j25 (e 1) (e 6) (e 8) (e 9) (e 10) (e 12) (e 14) (e 16) (e 17) (e 18) h Q) ?_ (fun e h H => ?_)
          rotate_left
          · unfold s_put.j25 at H
            refine W_drawn [0, 0, 0, 6, 1, 31] (.take 0 (.take 1 (.take 2 (.alt 3 (.alt 4 (.take 5 .done) .none) (.alt 4 (.alt 3 (.take 5 .done) .none) .none))))) mixed (by kernel_rfl) <| tkL rfl <| R_loadN TN_27 H fun at73 xt73 hat73 _ H St73 hSt73 => tkL rfl <| R_loadN TN_25 H fun at74 xt74 hat74 _ H St74 hSt74 => tkL rfl <| R_loadN TN_25 H fun at75 xt75 hat75 _ H St75 hSt75 => ?_
            obtain ⟨HA0, HA1⟩ := H
            refine alt_n rfl ?_ ?_
            · have H := HA0
              clear HA0 HA1
              refine H_mkSl TZ_23 (by decide) rfl H rfl fun t76 h ⟨S, H⟩ => ⟨(hskip rfl (hskip rfl (hcons rfl (hSt73 _ (still_N S hat73 rfl)) hnil))), ?_⟩
              exact aE rfl <| H_storeN TS_27 H fun h H => ⟨(hskip rfl hnil), pS t76 rfl rfl <| vp_done <| H⟩
            refine alt_n rfl ?_ vp_none
            have H := HA1
            clear HA0 HA1
            refine H_storeN TS_27 H fun h ⟨S_2, S_3, H⟩ => ⟨(hcons rfl (hSt75 _ (still_N S_3 hat75 rfl)) (hcons rfl (hSt74 _ (still_N S_2 hat74 rfl)) (hskip rfl hnil))), ?_⟩
            exact aE rfl <| H_mkSl TZ_23 (by decide) rfl H rfl fun t76_2 h H => ⟨(hskip rfl (hskip rfl hnil)), pS t76_2 rfl rfl <| vp_done <| H⟩
          refine sR <| nM t60_13 rfl <| nP R_not H fun _ H => vl_e ?_
          refine cI H (fun H => ?_) fun H => ?_
          · refine WPc_seq' <| W_drawn [0, 1, 0, 4, 0, 0, 60, 127, 0, 0, 255, 1535, 4095, 8191] (.take 0 (.take 1 (.take 2 (.take 3 (.take 4 (.take 5 (.take 8 (.take 9 (.alt 6 (.take 7 (.alt 10 (.alt 11 (.alt 12 (.take 13 .done) .none) .none) .none)) .none))))))))) mixed (by kernel_rfl) <| pP rfl (R_fld TF_25_0) H fun _ H => pL rfl T1_22 H fun _ _ hat64_21 H => pP rfl (R_fld TF_25_1) H fun _ H => pL rfl T1_23 H fun _ _ _ H => pM (e 12) rfl rfl <| tkL rfl <| R_loadN TN_25 H fun _ _ _ _ H _ _ => pP rfl (R_build TB_27 rfl (by decide)) H fun _ H => pP rfl (R_build TB_25 rfl (by decide)) H fun _ H => aE rfl <| H_call HB_137 H fun _ h ⟨S_57, H⟩ => ⟨(hskip rfl (hskip rfl (hcons rfl (still_1 S_57 hat64_21) hnil))), pP rfl (R_build TB_25 rfl (by decide)) H fun _ H => aE rfl <| H_storeN TS_25 H fun h H => ⟨(hskip rfl hnil), aE rfl <| H_storeN TS_27 H fun h H => ⟨hnil, ?_⟩⟩⟩
            exact aE rfl <| H_storeN TS_25 H fun h H => ⟨hnil, pS (.bool false) rfl rfl <| vp_done <| WPc_ret <| resH_of rfl <| resL_N TN_25 <| loadN_imp H fun r8_21 H => resL_N TN_27 <| loadN_imp H fun r9_21 H => resL_N TN_25 <| loadN_imp H fun r10_21 H => resL_t <| H⟩
          · exact WPc_skip <| H
        refine alt_n rfl ?_ vp_none
        have H := HA1
        clear HA0 HA1
        refine H_alloc TV_27 H fun _ h ⟨S_58, S_59, S_60, H⟩ => ⟨(hcons rfl (hSt55 _ (still_N S_60 hat55 rfl)) (hcons rfl (hSt54 _ (still_N S_59 hat54 rfl)) (hcons rfl (still_1 S_58 hat51) hnil))), ?_⟩
        refine aE rfl <| H_call HB_69 H fun t56_14 h H => ⟨(hskip rfl (hskip rfl (hskip rfl hnil))), pM t56_14 rfl rfl <| pP rfl R_ext H fun _ H => pP rfl R_ext H fun _ H => pP rfl R_ext H fun _ H => pP rfl R_ext H fun t60_14 H => aE rfl <| H_storeN TS_25 H fun h H => ⟨hnil, aE rfl <| H_storeN TS_27 H fun h H => ⟨hnil, aE rfl <| H_storeN TS_25 H fun h H => ⟨hnil, pS t60_14 rfl rfl <| vp_done ?_⟩⟩⟩⟩
        refine WPc_seq (fun e h => s_put.j26 (e 1) (e 6) (e 8) (e 9) (e 10) (e 12) (e 14) (e 16) (e 17) (e 18) h Q) ?_ (fun e h H => ?_)
        rotate_left
        · unfold s_put.j26 at H
          refine W_drawn [0, 0, 0, 6, 1, 31] (.take 0 (.take 1 (.take 2 (.alt 3 (.alt 4 (.take 5 .done) .none) (.alt 4 (.alt 3 (.take 5 .done) .none) .none))))) mixed (by kernel_rfl) <| tkL rfl <| R_loadN TN_27 H fun at73 xt73 hat73 _ H St73 hSt73 => tkL rfl <| R_loadN TN_25 H fun at74 xt74 hat74 _ H St74 hSt74 => tkL rfl <| R_loadN TN_25 H fun at75 xt75 hat75 _ H St75 hSt75 => ?_
          obtain ⟨HA0, HA1⟩ := H
          refine alt_n rfl ?_ ?_
          · have H := HA0
            clear HA0 HA1
            refine H_mkSl TZ_23 (by decide) rfl H rfl fun t76 h ⟨S, H⟩ => ⟨(hskip rfl (hskip rfl (hcons rfl (hSt73 _ (still_N S hat73 rfl)) hnil))), ?_⟩
            exact aE rfl <| H_storeN TS_27 H fun h H => ⟨(hskip rfl hnil), pS t76 rfl rfl <| vp_done <| H⟩
          refine alt_n rfl ?_ vp_none
          have H := HA1
          clear HA0 HA1
          refine H_storeN TS_27 H fun h ⟨S_2, S_3, H⟩ => ⟨(hcons rfl (hSt75 _ (still_N S_3 hat75 rfl)) (hcons rfl (hSt74 _ (still_N S_2 hat74 rfl)) (hskip rfl hnil))), ?_⟩
          exact aE rfl <| H_mkSl TZ_23 (by decide) rfl H rfl fun t76_2 h H => ⟨(hskip rfl (hskip rfl hnil)), pS t76_2 rfl rfl <| vp_done <| H⟩
        refine sR <| nM t60_14 rfl <| nP R_not H fun _ H => vl_e ?_
        refine cI H (fun H => ?_) fun H => ?_
        · refine WPc_seq' <| W_drawn [0, 1, 0, 4, 0, 0, 60, 127, 0, 0, 255, 1535, 4095, 8191] (.take 0 (.take 1 (.take 2 (.take 3 (.take 4 (.take 5 (.take 8 (.take 9 (.alt 6 (.take 7 (.alt 10 (.alt 11 (.alt 12 (.take 13 .done) .none) .none) .none)) .none))))))))) mixed (by kernel_rfl) <| pP rfl (R_fld TF_25_0) H fun _ H => pL rfl T1_22 H fun _ _ hat64_22 H => pP rfl (R_fld TF_25_1) H fun _ H => pL rfl T1_23 H fun _ _ _ H => pM (e 12) rfl rfl <| tkL rfl <| R_loadN TN_25 H fun _ _ _ _ H _ _ => pP rfl (R_build TB_27 rfl (by decide)) H fun _ H => pP rfl (R_build TB_25 rfl (by decide)) H fun _ H => aE rfl <| H_call HB_137 H fun _ h ⟨S_61, H⟩ => ⟨(hskip rfl (hskip rfl (hcons rfl (still_1 S_61 hat64_22) hnil))), pP rfl (R_build TB_25 rfl (by decide)) H fun _ H => aE rfl <| H_storeN TS_25 H fun h H => ⟨(hskip rfl hnil), aE rfl <| H_storeN TS_27 H fun h H => ⟨hnil, ?_⟩⟩⟩
          exact aE rfl <| H_storeN TS_25 H fun h H => ⟨hnil, pS (.bool false) rfl rfl <| vp_done <| WPc_ret <| resH_of rfl <| resL_N TN_25 <| loadN_imp H fun r8_22 H => resL_N TN_27 <| loadN_imp H fun r9_22 H => resL_N TN_25 <| loadN_imp H fun r10_22 H => resL_t <| H⟩
        · exact WPc_skip <| H
      refine alt_n rfl ?_ vp_none
      have H := HA2
      clear HA0 HA1 HA2
      refine H_alloc TV_27 H fun _ h ⟨S_62, S_63, S_64, H⟩ => ⟨(hcons rfl (hSt55 _ (still_N S_64 hat55 rfl)) (hcons rfl (hSt54 _ (still_N S_63 hat54 rfl)) (hcons rfl (still_1 S_62 hat51) hnil))), ?_⟩
      obtain ⟨HA0, HA1⟩ := H
      refine alt_n rfl ?_ ?_
      · have H := HA0
        clear HA0 HA1
        refine H_call HB_69 H fun t56_15 h H => ⟨(hskip rfl (hskip rfl (hskip rfl hnil))), ?_⟩
        refine pM t56_15 rfl rfl <| pP rfl R_ext H fun _ H => pP rfl R_ext H fun _ H => pP rfl R_ext H fun _ H => pP rfl R_ext H fun t60_15 H => aE rfl <| H_alloc TV_25 H fun _ h H => ⟨hnil, aE rfl <| H_storeN TS_25 H fun h H => ⟨hnil, aE rfl <| H_storeN TS_27 H fun h H => ⟨hnil, aE rfl <| H_storeN TS_25 H fun h H => ⟨hnil, pS t60_15 rfl rfl <| vp_done ?_⟩⟩⟩⟩
        refine WPc_seq (fun e h => s_put.j27 (e 1) (e 6) (e 8) (e 9) (e 10) (e 12) (e 14) (e 16) (e 17) (e 18) h Q) ?_ (fun e h H => ?_)
        rotate_left
        · unfold s_put.j27 at H
          refine W_drawn [0, 0, 0, 6, 1, 31] (.take 0 (.take 1 (.take 2 (.alt 3 (.alt 4 (.take 5 .done) .none) (.alt 4 (.alt 3 (.take 5 .done) .none) .none))))) mixed (by kernel_rfl) <| tkL rfl <| R_loadN TN_27 H fun at73 xt73 hat73 _ H St73 hSt73 => tkL rfl <| R_loadN TN_25 H fun at74 xt74 hat74 _ H St74 hSt74 => tkL rfl <| R_loadN TN_25 H fun at75 xt75 hat75 _ H St75 hSt75 => ?_
          obtain ⟨HA0, HA1⟩ := H
          refine alt_n rfl ?_ ?_
          · have H := HA0
            clear HA0 HA1
            refine H_mkSl TZ_23 (by decide) rfl H rfl fun t76 h ⟨S, H⟩ => ⟨(hskip rfl (hskip rfl (hcons rfl (hSt73 _ (still_N S hat73 rfl)) hnil))), ?_⟩
            exact aE rfl <| H_storeN TS_27 H fun h H => ⟨(hskip rfl hnil), pS t76 rfl rfl <| vp_done <| H⟩
          refine alt_n rfl ?_ vp_none
          have H := HA1
          clear HA0 HA1
          refine H_storeN TS_27 H fun h ⟨S_2, S_3, H⟩ => ⟨(hcons rfl (hSt75 _ (still_N S_3 hat75 rfl)) (hcons rfl (hSt74 _ (still_N S_2 hat74 rfl)) (hskip rfl hnil))), ?_⟩
          exact aE rfl <| H_mkSl TZ_23 (by decide) rfl H rfl fun t76_2 h H => ⟨(hskip rfl (hskip rfl hnil)), pS t76_2 rfl rfl <| vp_done <| H⟩
        refine sR <| nM t60_15 rfl <| nP R_not H fun _ H => vl_e ?_
        refine cI H (fun H => ?_) fun H => ?_
        · refine WPc_seq' <| W_drawn [0, 1, 0, 4, 0, 0, 60, 127, 0, 0, 255, 1535, 4095, 8191] (.take 0 (.take 1 (.take 2 (.take 3 (.take 4 (.take 5 (.take 8 (.take 9 (.alt 6 (.take 7 (.alt 10 (.alt 11 (.alt 12 (.take 13 .done) .none) .none) .none)) .none))))))))) mixed (by kernel_rfl) <| pP rfl (R_fld TF_25_0) H fun _ H => pL rfl T1_22 H fun _ _ hat64_23 H => pP rfl (R_fld TF_25_1) H fun _ H => pL rfl T1_23 H fun _ _ _ H => pM (e 12) rfl rfl <| tkL rfl <| R_loadN TN_25 H fun _ _ _ _ H _ _ => pP rfl (R_build TB_27 rfl (by decide)) H fun _ H => pP rfl (R_build TB_25 rfl (by decide)) H fun _ H => aE rfl <| H_call HB_137 H fun _ h ⟨S_65, H⟩ => ⟨(hskip rfl (hskip rfl (hcons rfl (still_1 S_65 hat64_23) hnil))), pP rfl (R_build TB_25 rfl (by decide)) H fun _ H => aE rfl <| H_storeN TS_25 H fun h H => ⟨(hskip rfl hnil), aE rfl <| H_storeN TS_27 H fun h H => ⟨hnil, ?_⟩⟩⟩
          exact aE rfl <| H_storeN TS_25 H fun h H => ⟨hnil, pS (.bool false) rfl rfl <| vp_done <| WPc_ret <| resH_of rfl <| resL_N TN_25 <| loadN_imp H fun r8_23 H => resL_N TN_27 <| loadN_imp H fun r9_23 H => resL_N TN_25 <| loadN_imp H fun r10_23 H => resL_t <| H⟩
        · exact WPc_skip <| H
      refine alt_n rfl ?_ vp_none
      have H := HA1
      clear HA0 HA1
      refine H_alloc TV_25 H fun _ h ⟨S_66, S_67, S_68, H⟩ => ⟨(hcons rfl (hSt55 _ (still_N S_68 hat55 rfl)) (hcons rfl (hSt54 _ (still_N S_67 hat54 rfl)) (hcons rfl (still_1 S_66 hat51) hnil))), ?_⟩
      refine aE rfl <| H_call HB_69 H fun t56_16 h H => ⟨(hskip rfl (hskip rfl (hskip rfl hnil))), pM t56_16 rfl rfl <| pP rfl R_ext H fun _ H => pP rfl R_ext H fun _ H => pP rfl R_ext H fun _ H => pP rfl R_ext H fun t60_16 H => aE rfl <| H_storeN TS_25 H fun h H => ⟨hnil, aE rfl <| H_storeN TS_27 H fun h H => ⟨hnil, aE rfl <| H_storeN TS_25 H fun h H => ⟨hnil, pS t60_16 rfl rfl <| vp_done ?_⟩⟩⟩⟩
      refine WPc_seq (fun e h => s_put.j28 (e 1) (e 6) (e 8) (e 9) (e 10) (e 12) (e 14) (e 16) (e 17) (e 18) h Q) ?_ (fun e h H => ?_)
      rotate_left
      · unfold s_put.j28 at H
        refine W_drawn [0, 0, 0, 6, 1, 31] (.take 0 (.take 1 (.take 2 (.alt 3 (.alt 4 (.take 5 .done) .none) (.alt 4 (.alt 3 (.take 5 .done) .none) .none))))) mixed (by kernel_rfl) <| tkL rfl <| R_loadN TN_27 H fun at73 xt73 hat73 _ H St73 hSt73 => tkL rfl <| R_loadN TN_25 H fun at74 xt74 hat74 _ H St74 hSt74 => tkL rfl <| R_loadN TN_25 H fun at75 xt75 hat75 _ H St75 hSt75 => ?_
        obtain ⟨HA0, HA1⟩ := H
        refine alt_n rfl ?_ ?_
        · have H := HA0
          clear HA0 HA1
          refine H_mkSl TZ_23 (by decide) rfl H rfl fun t76 h ⟨S, H⟩ => ⟨(hskip rfl (hskip rfl (hcons rfl (hSt73 _ (still_N S hat73 rfl)) hnil))), ?_⟩
          exact aE rfl <| H_storeN TS_27 H fun h H => ⟨(hskip rfl hnil), pS t76 rfl rfl <| vp_done <| H⟩
        refine alt_n rfl ?_ vp_none
        have H := HA1
        clear HA0 HA1
        refine H_storeN TS_27 H fun h ⟨S_2, S_3, H⟩ => ⟨(hcons rfl (hSt75 _ (still_N S_3 hat75 rfl)) (hcons rfl (hSt74 _ (still_N S_2 hat74 rfl)) (hskip rfl hnil))), ?_⟩
        exact aE rfl <| H_mkSl TZ_23 (by decide) rfl H rfl fun t76_2 h H => ⟨(hskip rfl (hskip rfl hnil)), pS t76_2 rfl rfl <| vp_done <| H⟩
      refine sR <| nM t60_16 rfl <| nP R_not H fun _ H => vl_e ?_
      refine cI H (fun H => ?_) fun H => ?_
      · refine WPc_seq' <| W_drawn [0, 1, 0, 4, 0, 0, 60, 127, 0, 0, 255, 1535, 4095, 8191] (.take 0 (.take 1 (.take 2 (.take 3 (.take 4 (.take 5 (.take 8 (.take 9 (.alt 6 (.take 7 (.alt 10 (.alt 11 (.alt 12 (.take 13 .done) .none) .none) .none)) .none))))))))) mixed (by kernel_rfl) <| pP rfl (R_fld TF_25_0) H fun _ H => pL rfl T1_22 H fun _ _ hat64_24 H => pP rfl (R_fld TF_25_1) H fun _ H => pL rfl T1_23 H fun _ _ _ H => pM (e 12) rfl rfl <| tkL rfl <| R_loadN TN_25 H fun _ _ _ _ H _ _ => pP rfl (R_build TB_27 rfl (by decide)) H fun _ H => pP rfl (R_build TB_25 rfl (by decide)) H fun _ H => aE rfl <| H_call HB_137 H fun _ h ⟨S_69, H⟩ => ⟨(hskip rfl (hskip rfl (hcons rfl (still_1 S_69 hat64_24) hnil))), pP rfl (R_build TB_25 rfl (by decide)) H fun _ H => aE rfl <| H_storeN TS_25 H fun h H => ⟨(hskip rfl hnil), aE rfl <| H_storeN TS_27 H fun h H => ⟨hnil, ?_⟩⟩⟩
        exact aE rfl <| H_storeN TS_25 H fun h H => ⟨hnil, pS (.bool false) rfl rfl <| vp_done <| WPc_ret <| resH_of rfl <| resL_N TN_25 <| loadN_imp H fun r8_24 H => resL_N TN_27 <| loadN_imp H fun r9_24 H => resL_N TN_25 <| loadN_imp H fun r10_24 H => resL_t <| H⟩
      · exact WPc_skip <| H
    · exact WPc_skip <| H
  refine sR <| nM t29 rfl <| vl_e ?_
  refine cI H (fun H => ?_) fun H => ?_
  · refine WPc_seq' <| W_drawn [0, 1, 0, 0, 15, 0, 32, 127, 0, 0, 255, 1535, 4095, 8191] (.take 0 (.take 1 (.take 2 (.take 3 (.take 5 (.take 6 (.take 8 (.take 9 (.alt 4 (.take 7 (.alt 10 (.alt 11 (.alt 12 (.take 13 .done) .none) .none) .none)) .none))))))))) mixed (by kernel_rfl) <| pP rfl (R_fld TF_25_0) H fun _ H => pL rfl T1_22 H fun _ _ _ H => pM t28 rfl rfl <| tkL rfl <| R_loadN TN_27 H fun _ _ _ _ H _ _ => pP rfl (R_fld TF_25_1) H fun _ H => pL rfl T1_23 H fun _ _ hat37 H => pP rfl (R_build TB_27 rfl (by decide)) H fun _ H => pP rfl (R_build TB_25 rfl (by decide)) H fun _ H => aE rfl <| H_call HB_136 H fun _ h ⟨S, H⟩ => ⟨(hcons rfl (still_1 S hat37) (hskip rfl (hskip rfl hnil))), pP rfl (R_build TB_25 rfl (by decide)) H fun _ H => aE rfl <| H_storeN TS_25 H fun h H => ⟨(hskip rfl hnil), aE rfl <| H_storeN TS_27 H fun h H => ⟨hnil, ?_⟩⟩⟩
    exact aE rfl <| H_storeN TS_25 H fun h H => ⟨hnil, pS (.bool false) rfl rfl <| vp_done <| WPc_ret <| resH_of rfl <| resL_N TN_25 <| loadN_imp H fun r8 H => resL_N TN_27 <| loadN_imp H fun r9 H => resL_N TN_25 <| loadN_imp H fun r10 H => resL_t <| H⟩
  · exact WPc_skip <| H

end Go.Proofs.Ytkkappjbcgnacaa
end
section
namespace Go.Proofs.Ytkkappjbcgnacaa.Ii
open Go.Hp Go.Proofs.Ytkkappjbcgnacaa
set_option linter.unusedVariables false
set_option linter.unusedSimpArgs false
variable {h0 h : Heap} {Z E : List Rg} {Q : Value → Heap → Prop}
theorem Rank_nil {k : Int} (H : Q (.int .i64 k) h) : s_Rank.call #[.slice none 0 0, .int .i64 k] h Q := by
  refine s_Rank.body _ _ _ _ ?_
  unfold s_Rank.sh
  refine r_len ?_
  refine r_cmpI ?_
  exact r_if (fun _ => H) (fun e => absurd e (by simp))
theorem Before_nil {p q : It} (H : ∀ E' h', St h [] E' h' → Q (.bool (lt p q)) h') : s_Before.call #[.slice none 0 0, .agg (encA p).toArray, .agg (encA q).toArray] h Q := by
  refine s_Before.body _ _ _ _ _ ?_
  unfold s_Before.sh
  have s := St.start h
  refine s.r_box fun t4 h s => ?_
  refine s.r_box fun t5 h s => ?_
  refine r_fld ?_
  refine St.r_load0 s 1 rfl rfl ?_
  refine r_fld ?_
  refine St.r_load0 s 0 rfl rfl ?_
  refine Rank_nil ?_
  refine ⟨St.r_still0 s 0 rfl rfl, ?_⟩
  refine Rank_nil ?_
  refine r_cmpI ?_
  exact H _ _ s
theorem Place_nil {l : List It} {v : Value} {x : It} (hr : Rdl 2 h v l.length (l.flatMap encA)) (hl : l.length ≤ 2147483647)
    (H : ∀ E' h', St h [] E' h' → Q (.tuple #[.int .i64 (pos lt l x), .bool (lget lt l x).isSome]) h') : s_Place.call #[.slice none 0 0, v, .agg (encA x).toArray] h Q := by
  refine s_Place.body _ _ _ _ _ ?_
  unfold s_Place.sh
  have s := St.start h
  refine s.r_box fun t5 h' s => ?_
  have hple := pos_le (lt := lt) l x
  refine loop_ghost (fun q st h' => ∃ (j : Nat) (E' : List Rg), q = l.length - j ∧ j ≤ pos lt l x ∧ st = [.int .i64 (j : Nat)] ∧ St h [] ((t5, 0, encA x) :: E') h') (n0 := l.length)
    ⟨0, [], rfl, Nat.zero_le _, rfl, s⟩ ?_
  clear s
  rintro q st h' ⟨j, E', rfl, hj, rfl, s⟩ K HK
  have fin : j = pos lt l x → s_Place.j1 (.slice none 0 0) v (ptr t5 0) (.int .i64 j) h' Q := fun ej => by
    subst ej
    unfold s_Place.j1
    refine (hr.st s).lenV ?_
    refine r_cmpI ?_
    refine r_br (fun e => ?_) (fun e => ?_)
    · have e : pos lt l x < l.length := by have := of_decide_eq_true e; omega
      refine St.r_loadN0 s 0 rfl (by simp) ?_
      refine (hr.st s).at (n := pos lt l x) rfl encAl rfl rfl e fun b o hb => ?_
      refine hb.loadN rfl ?_
      refine Before_nil (p := x) fun E2 h s2 => ?_
      refine r_not ?_
      have e3 : (lget lt l x).isSome = !(lt x l[pos lt l x]) := by
        unfold lget
        rw [List.getElem?_eq_getElem e, Option.bind_some]
        cases lt x l[pos lt l x] <;> rfl
      rw [e3] at H
      exact H _ _ (s.join s2)
    · have e : ¬ pos lt l x < l.length := by have := of_decide_eq_false e; omega
      have e3 : (lget lt l x).isSome = false := by
        unfold lget
        rw [List.getElem?_eq_none (by omega)]; rfl
      rw [e3] at H
      exact H _ _ s
  unfold s_Place.l2.b
  refine (hr.st s).lenV ?_
  refine r_cmpI ?_
  refine r_br (fun e => ?_) (fun e => ?_)
  · have e : j < l.length := by have := of_decide_eq_true e; omega
    refine (hr.st s).at (n := j) rfl encAl rfl rfl e fun b o hb => ?_
    refine hb.loadN rfl ?_
    refine St.r_loadN0 s 0 rfl (by simp) ?_
    refine Before_nil (q := x) fun E2 h2 s2 => ?_
    have s := (s.join s2).perm List.perm_append_comm
    refine r_if (fun e2 => ?_) (fun e2 => ?_)
    · have hlt : j < pos lt l x := by
        rcases Nat.lt_or_ge j (pos lt l x) with h | h
        · exact h
        · have : j = pos lt l x := by omega
          subst this
          rw [pos_at e] at e2; cases e2
      unfold s_Place.j3
      refine r_add1 (by omega) ?_
      exact HK (l.length - (j + 1)) _ _ (by omega) ⟨j + 1, _, rfl, hlt, rfl, s⟩
    · have : j = pos lt l x := by
        rcases Nat.lt_or_ge j (pos lt l x) with h | h
        · have := pos_lt h
          rw [e2] at this; cases this
        · omega
      subst this
      unfold s_Place.j1
      have s : St h [] ((t5, 0, encA x) :: (E' ++ E2)) h2 := s
      refine (hr.st s).lenV ?_
      refine r_cmpI ?_
      refine r_br (fun _ => ?_) (fun e3 => absurd e3 (by simp; omega))
      refine St.r_loadN0 s 0 rfl (by simp) ?_
      refine (hr.st s).at (n := pos lt l x) rfl encAl rfl rfl e fun b o hb => ?_
      refine hb.loadN rfl ?_
      refine Before_nil (p := x) fun E3 h3 s3 => ?_
      refine r_not ?_
      have e3 : (lget lt l x).isSome = !(lt x l[pos lt l x]) := by
        unfold lget
        rw [List.getElem?_eq_getElem e, Option.bind_some]
        cases lt x l[pos lt l x] <;> rfl
      rw [e3] at H
      exact H _ _ (s.join s3)
  · exact fin (by have := of_decide_eq_false e; omega)
theorem eqItem (a i : Int) (d : Nat) : EqV Try.prog (d + 2) 27 (.agg #[.int .i64 a, .int .i64 i]) (.agg #[.int .i64 a, .int .i64 i]) true := by
  refine .inr (.inr (.inr ⟨_, _, _, Try.underlying27, by kernel_rfl, rfl, rfl, ?_⟩))
  refine ⟨by decide, .int .i64 a, .int .i64 a, true, ⟨_, Try.underlying3, .inr ⟨by kernel_rfl, rfl⟩⟩, ⟨_, Try.underlying3, .inr ⟨by kernel_rfl, rfl⟩⟩, .inl ⟨_, _, a, a, Try.underlying3, rfl, rfl, by simp⟩, .inr ⟨rfl, ?_⟩⟩
  exact ⟨by decide, .int .i64 i, .int .i64 i, true, ⟨_, Try.underlying3, .inr ⟨by kernel_rfl, rfl⟩⟩, ⟨_, Try.underlying3, .inr ⟨by kernel_rfl, rfl⟩⟩, .inl ⟨_, _, i, i, Try.underlying3, rfl, rfl, by simp⟩, .inr ⟨rfl, rfl⟩⟩
end Go.Proofs.Ytkkappjbcgnacaa.Ii
end
section
namespace Go.Proofs.Ytkkappjbcgnacaa
open Go.Hp
set_option linter.unusedVariables false
set_option linter.unusedSimpArgs false
variable {h0 h : Heap} {Z E : List Rg} {Q : Value → Heap → Prop}

abbrev enc (p : Int × Int) : List Value := [.int .i64 p.2, .int .i64 p.1]
/-- The cells of a map's head. -/
abbrev hdr (iso : Int) (ctr root : Option Addr) (cnt mn mx : Int) : List Value := [.int .u64 iso, .pointer ctr, .pointer root, .int .i64 cnt, .int .i64 0, .int .i64 0, .int .i64 mn, .int .i64 mx, .bool false, .bool false]

theorem degreeToMinMax_ok {d : Int} (h1 : 2 ≤ d) (h2 : d ≤ 1073741824) (H : Q (.tuple #[.int .i64 (d - 1), .int .i64 (2 * d - 1)]) h) : degreeToMinMax.call #[.int .i64 d] h Q := by
  refine degreeToMinMax.body _ _ _ ?_
  unfold degreeToMinMax.sh
  simp only [w_load1, w_loadN, w_nil, w_fld, w_idx, w_len, w_lenStr, w_cap, w_arith, w_divi, w_remi, w_cmpI, w_cmpS, w_not, w_ext, w_eqNilP, w_neNilP, w_eqB, w_pick, w_max, w_ifV, w_br, w_store1, w_storeN, w_alloc, w_box, add_mk, Nat.zero_add, Nat.add_zero, Option.some.injEq, exists_eq_left', List.getElem?_cons_zero, List.getElem?_cons_succ, List.getD_cons_zero, List.getD_cons_succ]
  refine ⟨fun e => absurd e (by simp; omega), fun _ => ⟨fun e => absurd e (by simp; omega), fun _ => ?_⟩⟩
  unfold degreeToMinMax.j1
  simp only [w_load1, w_loadN, w_nil, w_fld, w_idx, w_len, w_lenStr, w_cap, w_arith, w_divi, w_remi, w_cmpI, w_cmpS, w_not, w_ext, w_eqNilP, w_neNilP, w_eqB, w_pick, w_max, w_ifV, w_br, w_store1, w_storeN, w_alloc, w_box, add_mk, Nat.zero_add, Nat.add_zero, Option.some.injEq, exists_eq_left', List.getElem?_cons_zero, List.getElem?_cons_succ, List.getD_cons_zero, List.getD_cons_succ]
  rw [i64w (n := d * 2) (by omega) (by omega), i64w (n := d * 2 - 1) (by omega) (by omega)]
  have hd : (d * 2 - 1).tdiv 2 = d - 1 := by rw [Int.tdiv_eq_ediv_of_nonneg (by omega)]; omega
  rw [hd, i64w (n := d - 1) (by omega) (by omega), show d * 2 - 1 = 2 * d - 1 by omega]
  exact ⟨by decide, H⟩

theorem Map_ii_init_ok (s : St h0 Z E h) {b : Nat} {d : Int} {E' : List Rg} (hE : E = (b, 0, hdr 0 none none 0 0 0) :: E') (h1 : 2 ≤ d) (h2 : d ≤ 1073741824)
    (H : ∀ h', St h0 Z ((b, 0, hdr 0 none none 0 (d - 1) (2 * d - 1)) :: E') h' → Q (.tuple #[]) h') : Map_ii_init.call #[ptr b 0, .int .i64 d] h Q := by
  subst hE
  refine Map_ii_init.body _ _ _ _ ?_
  unfold Map_ii_init.sh
  refine r_nil ?_
  refine r_fld ?_
  refine St.r_load0 s 0 rfl rfl ?_
  refine r_cmpI ?_
  refine r_if (fun e => absurd e (by decide)) (fun _ => ?_)
  unfold Map_ii_init.j1
  refine degreeToMinMax_ok h1 h2 ?_
  refine r_ext rfl ?_
  refine r_ext rfl ?_
  refine r_nil ?_
  refine r_fld ?_
  refine St.r_store0 s 0 rfl (by simp) rfl ?_
  intro h s
  try simp only [List.set_cons_zero, List.set_cons_succ] at s
  refine r_nil ?_
  refine r_fld ?_
  refine St.r_store0 s 0 rfl (by simp) rfl ?_
  intro h s
  try simp only [List.set_cons_zero, List.set_cons_succ] at s
  refine r_nil ?_
  refine r_fld ?_
  refine r_fld ?_
  refine St.r_load0 s 0 rfl rfl ?_
  refine r_ext rfl ?_
  refine r_ext rfl ?_
  refine r_nil ?_
  refine r_fld ?_
  refine St.r_store0 s 0 rfl (by simp) rfl ?_
  intro h s
  try simp only [List.set_cons_zero, List.set_cons_succ] at s
  refine r_nil ?_
  refine r_fld ?_
  refine St.r_load0 s 0 rfl rfl ?_
  refine r_not ?_
  refine r_if (fun _ => ?_) (fun e => absurd e (by decide))
  refine r_nil ?_
  refine r_fld ?_
  refine r_fld ?_
  refine St.r_load0 s 0 rfl rfl ?_
  refine r_ext rfl ?_
  refine r_ext rfl ?_
  refine r_nil ?_
  refine r_fld ?_
  refine St.r_store0 s 0 rfl (by simp) rfl ?_
  intro h s
  try simp only [List.set_cons_zero, List.set_cons_succ] at s
  exact H _ s

theorem NewMap_ii_ok (s : St h0 Z E h) {d : Int} (h1 : 2 ≤ d) (h2 : d ≤ 1073741824) (H : ∀ b h', St h0 Z ((b, 0, hdr 0 none none 0 (d - 1) (2 * d - 1)) :: E) h' → Q (ptr b 0) h') : NewMap_ii.call #[.int .i64 d] h Q := by
  refine NewMap_ii.body _ _ _ ?_
  unfold NewMap_ii.sh
  refine s.r_alloc fun b h s => ?_
  exact Map_ii_init_ok s rfl h1 h2 fun h' s => H b h' s
end Go.Proofs.Ytkkappjbcgnacaa
end
section
namespace Go.Proofs.Ytkkappjbcgnacaa
open Go.Hp
set_option linter.unusedVariables false
set_option linter.unusedSimpArgs false
variable {h0 h : Heap} {Z E : List Rg} {Q : Value → Heap → Prop}

theorem Map_ii_newNode_leaf {tb : Nat} {iso : Int} (hi : cl h tb 0 = some (.int .u64 iso)) (H : ∀ n h', St h [] [(n, 0, [.int .u64 iso, .int .i64 0, .slice none 0 0, .pointer none])] h' → Q (ptr n 0) h') : Map_ii_newNode.call #[ptr tb 0, .bool true] h Q := by
  refine Map_ii_newNode.body _ _ _ _ ?_
  unfold Map_ii_newNode.sh
  have s := St.start h
  refine s.r_alloc fun n h s => ?_
  refine r_nil ?_
  refine r_fld ?_
  refine s.r_loadB hi ?_
  refine r_nil ?_
  refine r_fld ?_
  refine St.r_store0 s 0 rfl (by simp) rfl ?_
  intro h s
  try simp only [List.set_cons_zero, List.set_cons_succ] at s
  refine r_not ?_
  refine r_if (fun e => absurd e (by decide)) (fun _ => ?_)
  unfold Map_ii_newNode.j1
  exact H n h s

theorem Map_ii_newNode_inner {tb : Nat} {iso : Int} (hi : cl h tb 0 = some (.int .u64 iso)) (H : ∀ n kb h', St h [] [(n, 0, [.int .u64 iso, .int .i64 0, .slice none 0 0, ptr kb 0]), (kb, 0, [.slice none 0 0])] h' → Q (ptr n 0) h') : Map_ii_newNode.call #[ptr tb 0, .bool false] h Q := by
  refine Map_ii_newNode.body _ _ _ _ ?_
  unfold Map_ii_newNode.sh
  have s := St.start h
  refine s.r_alloc fun n h s => ?_
  refine r_nil ?_
  refine r_fld ?_
  refine s.r_loadB hi ?_
  refine r_nil ?_
  refine r_fld ?_
  refine St.r_store0 s 0 rfl (by simp) rfl ?_
  intro h s
  try simp only [List.set_cons_zero, List.set_cons_succ] at s
  refine r_not ?_
  refine r_if (fun _ => ?_) (fun e => absurd e (by decide))
  refine s.r_alloc fun kb h s => ?_
  refine r_nil ?_
  refine r_fld ?_
  refine St.r_store0 s 1 rfl (by simp) rfl ?_; intro h s
  unfold Map_ii_newNode.j1
  exact H n kb h (s.perm (by ((apply perm_rg; intro f; simp only [List.set_cons_zero, List.set_cons_succ, List.eraseIdx_cons_zero, List.eraseIdx_cons_succ, List.cons_append, List.nil_append, List.map_append, List.map_cons, List.map_nil, List.sum_append, List.sum_cons, List.sum_nil, List.map_flatMap, Nat.add_zero, Nat.zero_add]; ac_rfl))))

theorem Map_ii_DoorLeaf_ok {tb : Nat} {iso : Int} (hi : cl h tb 0 = some (.int .u64 iso)) (H : ∀ n h', St h [] [(n, 0, [.int .u64 iso, .int .i64 0, .slice none 0 0, .pointer none])] h' → Q (.agg #[ptr n 0]) h') : Map_ii_DoorLeaf.call #[ptr tb 0] h Q := by
  refine Map_ii_DoorLeaf.body _ _ _ ?_
  unfold Map_ii_DoorLeaf.sh
  have s := St.start h
  refine s.r_alloc fun b h s => ?_
  refine Map_ii_newNode_leaf (s.base hi) fun n h s1 => ?_
  have s := s.join s1
  (apply r_build; (simp only [fillV, fill1, Value.cells, zeros_succ, zeros_zero, List.size_toArray, List.length_cons, List.length_nil, List.length_append, List.take_succ_cons, List.take_zero, List.take_nil, List.drop_succ_cons, List.drop_zero, List.drop_nil, List.cons_append, List.nil_append, List.append_nil, Nat.reduceAdd, Nat.reduceMul, Nat.reduceLeDiff, Nat.reduceEqDiff, and_self, and_true, true_and, if_true, Nat.le_refl, Nat.zero_add, Nat.add_zero, Nat.zero_mul, reduceIte, if_false] <;> rfl))
  refine St.r_storeN0 s 1 rfl rfl (by simp) (by simp [one1]) ?_; intro h s
  refine St.r_loadN0 s 1 rfl (by simp) ?_
  exact H n h (s.sub (by simp))

theorem Map_ii_DoorInner_ok {tb : Nat} {iso : Int} (hi : cl h tb 0 = some (.int .u64 iso)) (H : ∀ n kb h', St h [] [(n, 0, [.int .u64 iso, .int .i64 0, .slice none 0 0, ptr kb 0]), (kb, 0, [.slice none 0 0])] h' → Q (.agg #[ptr n 0]) h') : Map_ii_DoorInner.call #[ptr tb 0] h Q := by
  refine Map_ii_DoorInner.body _ _ _ ?_
  unfold Map_ii_DoorInner.sh
  have s := St.start h
  refine s.r_alloc fun b h s => ?_
  refine Map_ii_newNode_inner (s.base hi) fun n kb h s1 => ?_
  have s := s.join s1
  (apply r_build; (simp only [fillV, fill1, Value.cells, zeros_succ, zeros_zero, List.size_toArray, List.length_cons, List.length_nil, List.length_append, List.take_succ_cons, List.take_zero, List.take_nil, List.drop_succ_cons, List.drop_zero, List.drop_nil, List.cons_append, List.nil_append, List.append_nil, Nat.reduceAdd, Nat.reduceMul, Nat.reduceLeDiff, Nat.reduceEqDiff, and_self, and_true, true_and, if_true, Nat.le_refl, Nat.zero_add, Nat.add_zero, Nat.zero_mul, reduceIte, if_false] <;> rfl))
  refine St.r_storeN0 s 2 rfl rfl (by simp) (by simp [one1]) ?_; intro h s
  refine St.r_loadN0 s 2 rfl (by simp) ?_
  exact H n kb h (s.sub (by simp))

theorem mapNode_ii_leaf_ok {n : Nat} {a : Option Addr} (hn : cl h n 3 = some (.pointer a)) (H : Q (.bool a.isNone) h) : mapNode_ii_leaf.call #[ptr n 0] h Q := by
  refine mapNode_ii_leaf.body _ _ _ ?_
  unfold mapNode_ii_leaf.sh
  have s := St.start h
  refine r_nil ?_
  refine r_fld ?_
  refine s.r_loadB hn ?_
  refine r_eqNilP ?_
  exact H

theorem DoorItem_ok {n b o len : Nat} {c1 c2 iv kp : Value} {xs sp : List Value} {x y : Int} (s : St h0 Z ((n, 0, [c1, c2, iv, kp]) :: (b, o, xs ++ sp) :: E) h) (w : Own 2 iv len b o xs sp) (hl : len ≤ 2147483647)
    (H : ∀ iv' b' o' sp' h', St h0 Z ((n, 0, [c1, c2, iv', kp]) :: (b', o', (xs ++ [.int .i64 y, .int .i64 x]) ++ sp') :: E) h' → Own 2 iv' (len + 1) b' o' (xs ++ [.int .i64 y, .int .i64 x]) sp' → Q (.tuple #[]) h') :
    DoorMapNode_ii_DoorItem.call #[.agg #[ptr n 0], .int .i64 x, .int .i64 y] h Q := by
  refine DoorMapNode_ii_DoorItem.body _ _ _ _ _ ?_
  unfold DoorMapNode_ii_DoorItem.sh
  refine St.r_box (cs := [ptr n 0]) s fun t h s => ?_
  refine r_fld ?_
  refine St.r_load0 s 0 rfl rfl ?_
  refine r_fld ?_
  refine St.r_load0 s 0 rfl rfl ?_
  refine r_nil ?_
  refine r_fld ?_
  refine St.r_load0 s 1 rfl rfl ?_
  (apply r_build; (simp only [fillV, fill1, Value.cells, zeros_succ, zeros_zero, List.size_toArray, List.length_cons, List.length_nil, List.length_append, List.take_succ_cons, List.take_zero, List.take_nil, List.drop_succ_cons, List.drop_zero, List.drop_nil, List.cons_append, List.nil_append, List.append_nil, Nat.reduceAdd, Nat.reduceMul, Nat.reduceLeDiff, Nat.reduceEqDiff, and_self, and_true, true_and, if_true, Nat.le_refl, Nat.zero_add, Nat.add_zero, Nat.zero_mul, reduceIte, if_false] <;> rfl))
  refine St.r_mkSl (sz := 2) (cs := [.int .i64 y, .int .i64 x]) s (by ((simp only [fillV, fill1, Value.cells, zeros_succ, zeros_zero, List.size_toArray, List.length_cons, List.length_nil, List.length_append, List.take_succ_cons, List.take_zero, List.take_nil, List.drop_succ_cons, List.drop_zero, List.drop_nil, List.cons_append, List.nil_append, List.append_nil, Nat.reduceAdd, Nat.reduceMul, Nat.reduceLeDiff, Nat.reduceEqDiff, and_self, and_true, true_and, if_true, Nat.le_refl, Nat.zero_add, Nat.add_zero, Nat.zero_mul, reduceIte, if_false] <;> rfl))) rfl fun q h s w1 => ?_
  refine And.intro (by exact St.r_still0 s 1 rfl rfl) ?_
  refine And.intro (by exact St.r_still0 s 1 rfl rfl) ?_
  refine And.intro (by exact St.r_still0 s 2 rfl rfl) ?_
  refine St.r_app s 3 (sz := 2) (n := 1) (new := [.int .i64 y, .int .i64 x]) rfl w rfl (w1.rdl s 0 rfl) (by simp [one1]) (by omega) (by omega) fun v' b' o' sp' h s w' => ?_
  refine And.intro (by exact St.r_still0 s 1 rfl rfl) ?_
  refine r_nil ?_
  refine r_fld ?_
  refine St.r_store0 s 2 rfl (by simp) w'.one ?_; intro h s
  exact H v' b' o' sp' h (s.sub (by simp)) w'

theorem DoorAppend_ok {n kb b o len m : Nat} {c1 c2 iv kv : Value} {xs sp : List Value} (s : St h0 Z ((n, 0, [c1, c2, iv, ptr kb 0]) :: (kb, 0, [kv]) :: (b, o, xs ++ sp) :: E) h) (w : Own 1 kv len b o xs sp) (hl : len ≤ 2147483647)
    (H : ∀ kv' b' o' sp' h', St h0 Z ((n, 0, [c1, c2, iv, ptr kb 0]) :: (kb, 0, [kv']) :: (b', o', (xs ++ [ptr m 0]) ++ sp') :: E) h' → Own 1 kv' (len + 1) b' o' (xs ++ [ptr m 0]) sp' → Q (.tuple #[]) h') :
    DoorMapNode_ii_DoorAppend.call #[.agg #[ptr n 0], .agg #[ptr m 0]] h Q := by
  refine DoorMapNode_ii_DoorAppend.body _ _ _ _ ?_
  unfold DoorMapNode_ii_DoorAppend.sh
  refine St.r_box (cs := [ptr n 0]) s fun t h s => ?_
  refine St.r_box (cs := [ptr m 0]) s fun t2 h s => ?_
  refine r_fld ?_
  refine St.r_load0 s 1 rfl rfl ?_
  refine r_nil ?_
  refine r_fld ?_
  refine St.r_load0 s 2 rfl rfl ?_
  refine r_fld ?_
  refine St.r_load0 s 1 rfl rfl ?_
  refine r_nil ?_
  refine r_fld ?_
  refine St.r_load0 s 2 rfl rfl ?_
  refine r_nil ?_
  refine St.r_load0 s 3 rfl rfl ?_
  refine r_fld ?_
  refine St.r_load0 s 0 rfl rfl ?_
  refine St.r_mkSl (sz := 1) (cs := [ptr m 0]) s (by ((simp only [fillV, fill1, Value.cells, zeros_succ, zeros_zero, List.size_toArray, List.length_cons, List.length_nil, List.length_append, List.take_succ_cons, List.take_zero, List.take_nil, List.drop_succ_cons, List.drop_zero, List.drop_nil, List.cons_append, List.nil_append, List.append_nil, Nat.reduceAdd, Nat.reduceMul, Nat.reduceLeDiff, Nat.reduceEqDiff, and_self, and_true, true_and, if_true, Nat.le_refl, Nat.zero_add, Nat.add_zero, Nat.zero_mul, reduceIte, if_false] <;> rfl))) rfl fun q h s w1 => ?_
  refine And.intro (by exact St.r_still0 s 2 rfl rfl) ?_
  refine And.intro (by exact St.r_still0 s 3 rfl rfl) ?_
  refine And.intro (by exact St.r_still0 s 2 rfl rfl) ?_
  refine And.intro (by exact St.r_still0 s 3 rfl rfl) ?_
  refine And.intro (by exact St.r_still0 s 4 rfl rfl) ?_
  refine St.r_app s 5 (sz := 1) (n := 1) (new := [ptr m 0]) rfl w rfl (w1.rdl s 0 rfl) (by simp [one1]) (by omega) (by omega) fun v' b' o' sp' h s w' => ?_
  refine And.intro (by exact St.r_still0 s 2 rfl rfl) ?_
  refine And.intro (by exact St.r_still0 s 3 rfl rfl) ?_
  refine r_nil ?_
  refine St.r_store0 s 4 rfl (by simp) w'.one ?_; intro h s
  exact H v' b' o' sp' h (s.drop 3) w'

theorem updateCount_leaf {n b o len : Nat} {c1 c2 iv : Value} {xs sp : List Value} (s : St h0 Z ((n, 0, [c1, c2, iv, .pointer none]) :: E) h) (w : Own 2 iv len b o xs sp)
    (H : ∀ h', St h0 Z ((n, 0, [c1, .int .i64 len, iv, .pointer none]) :: E) h' → Q (.tuple #[]) h') : mapNode_ii_updateCount.call #[ptr n 0] h Q := by
  refine mapNode_ii_updateCount.body _ _ _ ?_
  unfold mapNode_ii_updateCount.sh
  refine r_nil ?_
  refine r_fld ?_
  refine St.r_load0 s 0 rfl rfl ?_
  refine w.lenV ?_
  refine r_nil ?_
  refine r_fld ?_
  refine St.r_store0 s 0 rfl (by simp) rfl ?_
  intro h s
  try simp only [List.set_cons_zero, List.set_cons_succ] at s
  refine mapNode_ii_leaf_ok (a := none) (s.get (k := 0) (j := 3) rfl (by simp)) ?_
  refine r_not ?_
  refine r_if (fun e => absurd e (by decide)) (fun _ => ?_)
  exact H _ s

theorem updateCount_inner {n kb b o rb ro len : Nat} {c1 c2 iv kv : Value} {xs sp ksp : List Value} {ids : List Nat} {c : Nat → Int} (s : St h0 Z ((n, 0, [c1, c2, iv, ptr kb 0]) :: (kb, 0, [kv]) :: (rb, ro, (ids.map fun m => ptr m 0) ++ ksp) :: E) h)
    (w : Own 2 iv len b o xs sp) (wkid : Own 1 kv ids.length rb ro (ids.map fun m => ptr m 0) ksp) (hids : ids.length ≤ 4294967296)
    (hc : ∀ j (hj : j < ids.length), ∃ a1 a2 a3, (ids[j], 0, [a1, .int .i64 (c j), a2, a3]) ∈ E ++ Z) (hb : ∀ j, j ≤ ids.length → 0 ≤ (len : Int) + ((List.range j).map c).sum ∧ (len : Int) + ((List.range j).map c).sum ≤ 9223372036854775807)
    (H : ∀ h', St h0 Z ((n, 0, [c1, .int .i64 ((len : Int) + ((List.range ids.length).map c).sum), iv, ptr kb 0]) :: (kb, 0, [kv]) :: (rb, ro, (ids.map fun m => ptr m 0) ++ ksp) :: E) h' → Q (.tuple #[]) h') : mapNode_ii_updateCount.call #[ptr n 0] h Q := by
  refine mapNode_ii_updateCount.body _ _ _ ?_
  unfold mapNode_ii_updateCount.sh
  refine r_nil ?_
  refine r_fld ?_
  refine St.r_load0 s 0 rfl rfl ?_
  refine w.lenV ?_
  refine r_nil ?_
  refine r_fld ?_
  refine St.r_store0 s 0 rfl (by simp) rfl ?_
  intro h s
  try simp only [List.set_cons_zero, List.set_cons_succ] at s
  refine mapNode_ii_leaf_ok (a := some ⟨kb, 0, none⟩) (s.get (k := 0) (j := 3) rfl (by simp)) ?_
  refine r_not ?_
  refine r_if (fun _ => ?_) (fun e => absurd e (by simp))
  refine loop_intro (fun t h => ∃ j : Nat, t = [.int .i64 j] ∧ j ≤ ids.length ∧ St h0 Z ((n, 0, [c1, .int .i64 ((len : Int) + ((List.range j).map c).sum), iv, ptr kb 0]) :: (kb, 0, [kv]) :: (rb, ro, (ids.map fun m => ptr m 0) ++ ksp) :: E) h)
    (fun t _ => ids.length - (Hp.iv (t.getD 0 undef)).toNat) ⟨0, rfl, by omega, by simpa using s⟩ ?_
  rintro t h ⟨j, rfl, hj, s⟩
  unfold mapNode_ii_updateCount.l1.b
  refine r_nil ?_
  refine r_fld ?_
  refine St.r_load0 s 0 rfl rfl ?_
  refine r_nil ?_
  refine St.r_load0 s 1 rfl rfl ?_
  refine wkid.lenV ?_
  refine r_cmpI ?_
  refine r_if (fun hlt => ?_) (fun hge => ?_)
  · have hlt : j < ids.length := by simpa using hlt
    unfold mapNode_ii_updateCount.j2
    refine r_nil ?_
    refine r_fld ?_
    refine St.r_load0 s 0 rfl rfl ?_
    refine r_nil ?_
    refine r_fld ?_
    refine St.r_load0 s 0 rfl rfl ?_
    refine r_nil ?_
    refine St.r_load0 s 1 rfl rfl ?_
    refine wkid.idx (n := j) rfl hlt ?_
    refine s.r_load1 2 rfl (v := ptr ids[j] 0) (by rw [Nat.mul_one, List.getElem?_append_left (by simpa using hlt), List.getElem?_map, List.getElem?_eq_getElem hlt]; rfl) ?_
    obtain ⟨a1, a2, a3, hm⟩ := hc j hlt
    refine r_nil ?_
    refine r_fld ?_
    refine s.r_loadM (xs := [a1, .int .i64 (c j), a2, a3]) (by simp only [List.cons_append, List.mem_cons]; exact .inr (.inr (.inr hm))) rfl ?_
    refine r_add (z := (len : Int) + ((List.range (j + 1)).map c).sum) ?_ ?_
    · have := hb (j + 1) hlt
      rw [List.range_succ, List.map_append, List.sum_append] at this ⊢
      simp only [List.map_cons, List.map_nil, List.sum_cons, List.sum_nil] at this ⊢
      rw [i64w (by omega) (by omega)]; omega
    · refine r_nil ?_
      refine r_fld ?_
      refine St.r_store0 s 0 rfl (by simp) rfl ?_
      intro h s
      try simp only [List.set_cons_zero, List.set_cons_succ] at s
      unfold mapNode_ii_updateCount.j3
      refine r_add (z := ((j + 1 : Nat) : Int)) (by rw [i64w (by omega) (by omega)]; omega) ?_
      exact ⟨⟨j + 1, rfl, hlt, s⟩, by simp; omega⟩
  · have hge : j = ids.length := by simp at hge; omega
    subst hge
    exact H h s

theorem DoorUpdateCount_leaf {n b o len : Nat} {c1 c2 iv : Value} {xs sp : List Value} (s : St h0 Z ((n, 0, [c1, c2, iv, .pointer none]) :: E) h) (w : Own 2 iv len b o xs sp)
    (H : ∀ h', St h0 Z ((n, 0, [c1, .int .i64 len, iv, .pointer none]) :: E) h' → Q (.tuple #[]) h') : DoorMapNode_ii_DoorUpdateCount.call #[.agg #[ptr n 0]] h Q := by
  refine DoorMapNode_ii_DoorUpdateCount.body _ _ _ ?_
  unfold DoorMapNode_ii_DoorUpdateCount.sh
  refine St.r_box (cs := [ptr n 0]) s fun t h s => ?_
  refine r_fld ?_
  refine St.r_load0 s 0 rfl rfl ?_
  refine updateCount_leaf (s.front 1 rfl) w fun h s => ?_
  exact H h ((s.front 1 rfl).drop 1)

theorem DoorUpdateCount_inner {n kb b o rb ro len : Nat} {c1 c2 iv kv : Value} {xs sp ksp : List Value} {ids : List Nat} {c : Nat → Int} (s : St h0 Z ((n, 0, [c1, c2, iv, ptr kb 0]) :: (kb, 0, [kv]) :: (rb, ro, (ids.map fun m => ptr m 0) ++ ksp) :: E) h)
    (w : Own 2 iv len b o xs sp) (wkid : Own 1 kv ids.length rb ro (ids.map fun m => ptr m 0) ksp) (hids : ids.length ≤ 4294967296)
    (hc : ∀ j (hj : j < ids.length), ∃ a1 a2 a3, (ids[j], 0, [a1, .int .i64 (c j), a2, a3]) ∈ E ++ Z) (hb : ∀ j, j ≤ ids.length → 0 ≤ (len : Int) + ((List.range j).map c).sum ∧ (len : Int) + ((List.range j).map c).sum ≤ 9223372036854775807)
    (H : ∀ h', St h0 Z ((n, 0, [c1, .int .i64 ((len : Int) + ((List.range ids.length).map c).sum), iv, ptr kb 0]) :: (kb, 0, [kv]) :: (rb, ro, (ids.map fun m => ptr m 0) ++ ksp) :: E) h' → Q (.tuple #[]) h') : DoorMapNode_ii_DoorUpdateCount.call #[.agg #[ptr n 0]] h Q := by
  refine DoorMapNode_ii_DoorUpdateCount.body _ _ _ ?_
  unfold DoorMapNode_ii_DoorUpdateCount.sh
  refine St.r_box (cs := [ptr n 0]) s fun t h s => ?_
  refine r_fld ?_
  refine St.r_load0 s 0 rfl rfl ?_
  refine updateCount_inner (((s.front 3 rfl).front 3 rfl).front 3 rfl) w wkid hids (fun j hj => ?_) hb fun h s => ?_
  · obtain ⟨a1, a2, a3, hm⟩ := hc j hj
    exact ⟨a1, a2, a3, List.mem_cons_of_mem _ hm⟩
  · exact H h ((s.front 3 rfl).drop 1)
end Go.Proofs.Ytkkappjbcgnacaa
end
section
namespace Go.Proofs.Ytkkappjbcgnacaa
open Go.Hp
set_option linter.unusedVariables false
set_option linter.unusedSimpArgs false
variable {h0 h : Heap} {Z E : List Rg} {Q : Value → Heap → Prop}

abbrev It := Int × Int
/-- An item as the laws have it. -/
abbrev encA (p : It) : List Value := [.int .i64 p.1, .int .i64 p.2]
/-- A node as data in memory: its items and its kids. -/
def ArgT (h : Heap) : {k : Nat} → PT It k → Value → Value → Prop
  | 0, its, vi, vk => Rdl 2 h vi (its : List It).length ((its : List It).flatMap encA) ∧ ∃ a cap, vk = .slice a 0 cap
  | k + 1, t, vi, vk => Rdl 2 h vi t.1.length (t.1.flatMap encA) ∧ t.2 ≠ [] ∧ ∃ cs : List (Value × Value × Int), cs.length = t.2.length ∧ Rdl 3 h vk cs.length (cs.flatMap fun c => [c.1, c.2.1, .int .i64 c.2.2]) ∧
      ∀ j (h1 : j < t.2.length) (h2 : j < cs.length), ArgT h t.2[j] cs[j].1 cs[j].2.1
theorem ArgT.fr {h h' : Heap} (f : Fr (fun _ _ => False) h h') : ∀ {k : Nat} {x : PT It k} {vi vk : Value}, ArgT h x vi vk → ArgT h' x vi vk
  | 0, _, _, _, ⟨h1, h2⟩ => ⟨h1.fr f (fun _ _ e => e), h2⟩
  | k + 1, _, _, _, ⟨h1, h2, cs, h3, h4, h5⟩ => ⟨h1.fr f (fun _ _ e => e), h2, cs, h3, h4.fr f (fun _ _ e => e), fun j j1 j2 => ArgT.fr f (h5 j j1 j2)⟩

theorem ArgT.one {h : Heap} : ∀ {k : Nat} {x : PT It k} {vi vk : Value}, ArgT h x vi vk → one1 vi = true ∧ one1 vk = true
  | 0, _, _, _, ⟨h1, _, _, h2⟩ => ⟨h1.one, by rw [h2]; rfl⟩
  | k + 1, _, _, _, ⟨h1, h2, cs, h3, h4, h5⟩ => ⟨h1.one, h4.one⟩
theorem plant_items {t3 t5 n : Nat} {a0 t4 vi vk vc c1 c2 kp : Value} {its : List It} (hr : Rdl 2 h0 vi its.length (its.flatMap encA)) (hl : its.length ≤ 2147483647)
    (s : St h0 Z ((t5, 0, [ptr n 0]) :: (t3, 0, [vi, vk, vc]) :: (n, 0, [c1, c2, .slice none 0 0, kp]) :: E) h)
    (H : ∀ iv ib io isp h', St h0 Z ((t5, 0, [ptr n 0]) :: (t3, 0, [vi, vk, vc]) :: (n, 0, [c1, c2, iv, kp]) :: (ib, io, its.flatMap enc ++ isp) :: E) h' → Own 2 iv its.length ib io (its.flatMap enc) isp → i_plantedMap.j2 a0 (ptr t3 0) t4 (ptr t5 0) h' Q) :
    i_plantedMap.j1 a0 (ptr t3 0) t4 (ptr t5 0) h Q := by
  unfold i_plantedMap.j1
  refine r_fld ?_
  refine St.r_load0 s 1 rfl rfl ?_
  refine (hr.st s).lenV ?_
  refine loop_intro (fun t h => ∃ j : Nat, t = [.int .i64 j] ∧ j ≤ its.length ∧ ∃ iv ib io isp, St h0 Z ((t5, 0, [ptr n 0]) :: (t3, 0, [vi, vk, vc]) :: (n, 0, [c1, c2, iv, kp]) :: (ib, io, (its.take j).flatMap enc ++ isp) :: E) h ∧ Own 2 iv j ib io ((its.take j).flatMap enc) isp)
    (fun t _ => its.length - (Hp.iv (t.getD 0 undef)).toNat) ⟨0, rfl, by omega, _, 0, 0, [], (s.empty 0 0).perm (by ((apply perm_rg; intro f; simp only [List.set_cons_zero, List.set_cons_succ, List.eraseIdx_cons_zero, List.eraseIdx_cons_succ, List.cons_append, List.nil_append, List.map_append, List.map_cons, List.map_nil, List.sum_append, List.sum_cons, List.sum_nil, List.map_flatMap, Nat.add_zero, Nat.zero_add]; ac_rfl))), Own.nil 2 0 0⟩ ?_
  rintro t h ⟨j, rfl, hj, iv, ib, io, isp, s, w⟩
  unfold i_plantedMap.l7.b
  refine r_cmpI ?_
  refine r_if (fun hlt => ?_) (fun hge => ?_)
  · have hlt : j < its.length := by simpa using hlt
    unfold i_plantedMap.j8
    refine (hr.st s).at rfl (fun _ => rfl) rfl rfl hlt fun b o hb => ?_
    refine hb.loadN rfl ?_
    refine s.r_alloc fun t7 h s => ?_
    refine St.r_storeN0 s 0 rfl rfl (by simp) (by simp [one1]) ?_
    intro h s
    try simp only [List.set_cons_zero, List.set_cons_succ] at s
    refine St.r_loadN0 s 1 rfl (by simp) ?_
    refine r_fld ?_
    refine St.r_load0 s 0 rfl rfl ?_
    refine r_fld ?_
    refine St.r_load0 s 0 rfl rfl ?_
    refine DoorItem_ok ((s.front 4 rfl).front 4 rfl) w (by omega) fun iv' b' o' sp' h s w' => ?_
    unfold i_plantedMap.j9
    refine r_add (z := ((j + 1 : Nat) : Int)) (by rw [i64w (by omega) (by omega)]; omega) ?_
    have ht : (its.take (j + 1)).flatMap enc = (its.take j).flatMap enc ++ enc its[j] := by
      rw [List.take_succ_eq_append_getElem hlt, List.flatMap_append]; simp
    refine ⟨⟨j + 1, rfl, hlt, iv', b', o', sp', ?_, by rw [ht]; exact w'⟩, by simp; omega⟩
    rw [ht]
    exact (s.perm (E' := (t7, 0, encA its[j]) :: (t5, 0, [ptr n 0]) :: (t3, 0, [vi, vk, vc]) :: (n, 0, [c1, c2, iv', kp]) :: (b', o', ((its.take j).flatMap enc ++ enc its[j]) ++ sp') :: E) (by ((apply perm_rg; intro f; simp only [List.set_cons_zero, List.set_cons_succ, List.eraseIdx_cons_zero, List.eraseIdx_cons_succ, List.cons_append, List.nil_append, List.map_append, List.map_cons, List.map_nil, List.sum_append, List.sum_cons, List.sum_nil, List.map_flatMap, Nat.add_zero, Nat.zero_add]; ac_rfl)))).drop 1
  · have hge : j = its.length := by simp at hge; omega
    subst hge
    rw [List.take_length] at s w
    exact H _ _ _ _ h s w

theorem i_plantedMap_ok : ∀ {k : Nat} (x : PT It k) {h : Heap} {tb : Nat} {iso : Int} {vi vk vc : Value} {Q : Value → Heap → Prop}, cl h tb 0 = some (.int .u64 iso) → ArgT h x vi vk → x.Sh 2147483647 → x.items.length ≤ 4611686018427387903 → one1 vc = true →
    (∀ (t : GT It k) h', t.pt = x → t.Wf enc 2 iso → t.Cn → t.Mine → St h [] (t.rgs enc true) h' → Q (.agg #[ptr t.id 0]) h') → i_plantedMap.call #[ptr tb 0, .agg #[vi, vk, vc]] h Q
  | 0, its, h, tb, iso, vi, vk, vc, Q, hi, ⟨hr, ⟨a, cap, hvk⟩⟩, hsh, hsz, hvc, H => by
    subst hvk
    refine i_plantedMap.body _ _ _ _ ?_
    unfold i_plantedMap.sh
    have s := St.start h
    refine St.r_box (cs := [vi, .slice a 0 cap, vc]) s fun t3 h s => ?_
    refine s.r_alloc fun t4 h s => ?_
    refine Map_ii_DoorLeaf_ok (s.base hi) fun n h s1 => ?_
    have s := s.join s1
    refine s.r_alloc fun t5 h s => ?_
    refine St.r_storeN0 s 0 rfl rfl (by simp) (by simp [one1]) ?_; intro h s
    refine r_fld ?_
    refine St.r_load0 s 3 rfl rfl ?_
    refine r_len ?_
    refine r_cmpI ?_
    refine r_if (fun e => absurd e (by decide)) (fun _ => ?_)
    refine plant_items (E := [(t4, 0, [.pointer none])]) (vi := vi) (vk := .slice a 0 cap) (vc := vc) (c1 := .int .u64 iso) (c2 := .int .i64 0) (kp := .pointer none) (n := n) hr (Nat.le_trans hsh (by decide)) (s.perm (by ((apply perm_rg; intro f; simp only [List.set_cons_zero, List.set_cons_succ, List.eraseIdx_cons_zero, List.eraseIdx_cons_succ, List.cons_append, List.nil_append, List.map_append, List.map_cons, List.map_nil, List.sum_append, List.sum_cons, List.sum_nil, List.map_flatMap, Nat.add_zero, Nat.zero_add]; ac_rfl)))) fun iv ib io isp h s w => ?_
    unfold i_plantedMap.j2
    refine r_fld ?_
    refine St.r_load0 s 1 rfl rfl ?_
    refine r_len ?_
    refine loop_intro (fun t h' => t = [.int .i64 0] ∧ h' = h) (fun _ _ => 0) ⟨rfl, rfl⟩ ?_
    rintro _ _ ⟨rfl, rfl⟩
    unfold i_plantedMap.l4.b
    refine r_cmpI ?_
    refine r_if (fun e => absurd e (by decide)) (fun _ => ?_)
    unfold i_plantedMap.j3
    refine St.r_loadN0 s 0 rfl (by simp) ?_
    refine DoorUpdateCount_leaf (s.front 2 rfl) w fun h s => ?_
    refine St.r_loadN0 s 1 rfl (by simp) ?_
    refine St.r_storeN0 s 4 rfl rfl (by simp) (by simp [one1]) ?_; intro h s
    refine St.r_loadN0 s 4 rfl (by simp) ?_
    refine H (⟨true, n, iso, (its : List It).length, its, iv, ib, io, isp, 0, .slice none 0 0, 0, 0, []⟩ : Nd It) h rfl ⟨w, by simp⟩ rfl rfl ?_
    exact (s.perm (E' := (t5, 0, [ptr n 0]) :: (t3, 0, [vi, .slice a 0 cap, vc]) :: (t4, 0, [ptr n 0]) :: (n, 0, [.int .u64 iso, .int .i64 (its : List It).length, iv, .pointer none]) :: (ib, io, (its : List It).flatMap enc ++ isp) :: []) (by ((apply perm_rg; intro f; simp only [List.set_cons_zero, List.set_cons_succ, List.eraseIdx_cons_zero, List.eraseIdx_cons_succ, List.cons_append, List.nil_append, List.map_append, List.map_cons, List.map_nil, List.sum_append, List.sum_cons, List.sum_nil, List.map_flatMap, Nat.add_zero, Nat.zero_add]; ac_rfl)))).drop 3
  | k + 1, x, h, tb, iso, vi, vk, vc, Q, hi, ⟨hr, hne, cs, hcl, hrk, hks⟩, hsh, hsz, hvc, H => by
    have hkl : x.2.length ≠ 0 := fun e => hne (List.length_eq_zero_iff.1 e)
    refine i_plantedMap.body _ _ _ _ ?_
    unfold i_plantedMap.sh
    have s := St.start h
    refine St.r_box (cs := [vi, vk, vc]) s fun t3 h s => ?_
    refine s.r_alloc fun t4 h s => ?_
    refine Map_ii_DoorLeaf_ok (s.base hi) fun n0 h s1 => ?_
    have s := s.join s1
    refine s.r_alloc fun t5 h s => ?_
    refine St.r_storeN0 s 0 rfl rfl (by simp) (by simp [one1]) ?_; intro h s
    refine r_fld ?_
    refine St.r_load0 s 3 rfl rfl ?_
    refine (hrk.st s).lenV ?_
    refine r_cmpI ?_
    refine r_if (fun _ => ?_) (fun e => absurd (of_decide_eq_false e) (by omega))
    refine Map_ii_DoorInner_ok (s.base hi) fun n kb h s1 => ?_
    have s := s.join s1
    refine St.r_storeN0 s 2 rfl rfl (by simp) (by simp [one1]) ?_; intro h s
    refine plant_items (its := x.1) (E := [(t4, 0, [.pointer none]), (kb, 0, [.slice none 0 0])]) (vi := vi) (vk := vk) (vc := vc) (c1 := .int .u64 iso) (c2 := .int .i64 0) (kp := ptr kb 0) (n := n) hr (Nat.le_trans hsh.1 (by decide))
      ((s.perm (E' := (n0, 0, [.int .u64 iso, .int .i64 0, .slice none 0 0, .pointer none]) :: (t5, 0, [ptr n 0]) :: (t3, 0, [vi, vk, vc]) :: (n, 0, [.int .u64 iso, .int .i64 0, .slice none 0 0, ptr kb 0]) :: [(t4, 0, [.pointer none]), (kb, 0, [.slice none 0 0])]) (by ((apply perm_rg; intro f; simp only [List.set_cons_zero, List.set_cons_succ, List.eraseIdx_cons_zero, List.eraseIdx_cons_succ, List.cons_append, List.nil_append, List.map_append, List.map_cons, List.map_nil, List.sum_append, List.sum_cons, List.sum_nil, List.map_flatMap, Nat.add_zero, Nat.zero_add]; ac_rfl)))).drop 1) fun iv ib io isp h s w => ?_
    unfold i_plantedMap.j2
    refine r_fld ?_
    refine St.r_load0 s 1 rfl rfl ?_
    refine (hrk.st s).lenV ?_
    refine loop_intro (fun t h' => ∃ j : Nat, t = [.int .i64 j] ∧ j ≤ x.2.length ∧ ∃ (ts : List (GT It k)) (kv : Value) (rb ro : Nat) (ksp : List Value), ts.map GT.pt = x.2.take j ∧ (∀ t, t ∈ ts → t.Wf enc 2 iso ∧ t.Cn ∧ t.Mine) ∧ Own 1 kv j rb ro ((ts.map GT.id).map fun m => ptr m 0) ksp ∧
        St _ [] ((t5, 0, [ptr n 0]) :: (t3, 0, [vi, vk, vc]) :: (t4, 0, [.pointer none]) :: (n, 0, [.int .u64 iso, .int .i64 0, iv, ptr kb 0]) :: (ib, io, x.1.flatMap enc ++ isp) :: (kb, 0, [kv]) :: (rb, ro, ((ts.map GT.id).map fun m => ptr m 0) ++ ksp) :: ts.flatMap (GT.rgs enc true)) h')
      (fun t _ => x.2.length - (Hp.iv (t.getD 0 undef)).toNat) ⟨0, rfl, by omega, [], .slice none 0 0, 0, 0, [], rfl, (fun t ht => absurd ht List.not_mem_nil), Own.nil 1 0 0, (s.empty 0 0).perm (by ((apply perm_rg; intro f; simp only [List.set_cons_zero, List.set_cons_succ, List.eraseIdx_cons_zero, List.eraseIdx_cons_succ, List.cons_append, List.nil_append, List.map_append, List.map_cons, List.map_nil, List.sum_append, List.sum_cons, List.sum_nil, List.map_flatMap, Nat.add_zero, Nat.zero_add]; ac_rfl)))⟩ ?_
    rintro t h ⟨j, rfl, hj, ts, kv, rb, ro, ksp, hts, hw, wkk, s⟩
    have htl : ts.length = j := by have := congrArg List.length hts; simp at this; omega
    unfold i_plantedMap.l4.b
    refine r_cmpI ?_
    refine r_if (fun hlt => ?_) (fun hge => ?_)
    · have hlt : j < x.2.length := by simp at hlt; omega
      unfold i_plantedMap.j5
      refine (hrk.st s).at (n := j) rfl (fun _ => rfl) rfl rfl (by omega) fun b o hb => ?_
      refine hb.loadN rfl ?_
      refine s.r_alloc fun t9 h s => ?_
      have hak := hks j hlt (by omega)
      refine St.r_storeN0 s 0 rfl rfl (by simp) (by simp [hak.one]; rfl) ?_; intro h s
      refine St.r_loadN0 s 1 rfl (by simp) ?_
      refine St.r_loadN0 s 0 rfl (by simp) ?_
      refine i_plantedMap_ok x.2[j] (s.base hi) (hak.fr s.fr) (hsh.2.2 _ (List.getElem_mem hlt)) ?_ rfl fun t h ht1 ht2 ht3 ht4 s1 => ?_
      · have h1 : x.items.length = x.1.length + ((x.2.map PT.items).map List.length).sum := inter_length _ _
        have h2 : (x.2[j].items).length ≤ ((x.2.map PT.items).map List.length).sum := mem_le_sum (by
          rw [List.map_map]; exact List.mem_map.2 ⟨x.2[j], List.getElem_mem hlt, rfl⟩)
        omega
      have s := (s.join s1).perm List.perm_append_comm
      refine ⟨St.r_stillN0 s 1 rfl (by simp) rfl, ?_⟩
      refine DoorAppend_ok (((s.front 7 rfl).front 7 rfl).front 6 rfl) wkk (by have := hsh.1; have := hsh.2.1; omega) fun kv' b' o' sp' h s w' => ?_
      unfold i_plantedMap.j6
      refine r_add (z := ((j + 1 : Nat) : Int)) (by have := hsh.1; have := hsh.2.1; rw [i64w (by omega) (by omega)]; omega) ?_
      refine ⟨⟨j + 1, rfl, hlt, ts ++ [t], kv', b', o', sp', ?_, fun t' ht' => ?_, ?_, ?_⟩, by simp; omega⟩
      · rw [List.map_append, hts, List.take_succ_eq_append_getElem hlt, List.map_cons, ht1]; rfl
      · rcases List.mem_append.1 ht' with e | e
        · exact hw t' e
        · rw [List.mem_singleton.1 e]; exact ⟨ht2, ht3, ht4⟩
      · rw [List.map_append, List.map_append]; exact w'
      · refine (s.perm (E' := (t9, 0, [cs[j].1, cs[j].2.1, .int .i64 cs[j].2.2]) :: _) ?_).drop 1
        rw [List.map_append, List.map_append, List.flatMap_append, List.flatMap_cons, List.flatMap_nil, List.append_nil]
        ((apply perm_rg; intro f; simp only [List.set_cons_zero, List.set_cons_succ, List.eraseIdx_cons_zero, List.eraseIdx_cons_succ, List.cons_append, List.nil_append, List.map_append, List.map_cons, List.map_nil, List.sum_append, List.sum_cons, List.sum_nil, List.map_flatMap, Nat.add_zero, Nat.zero_add]; ac_rfl))
    · have hge : j = x.2.length := by simp at hge; omega
      subst hge
      rw [List.take_length] at hts
      unfold i_plantedMap.j3
      refine St.r_loadN0 s 0 rfl (by simp) ?_
      have hsum : ∀ i, i ≤ ts.length → ((List.range i).map fun j => (ts.map fun t => t.nd.cnt)[j]?.getD 0).sum = ((((ts.map fun t => t.pt.items).map List.length).take i).sum : Nat) := fun i hi => by
        rw [sum_range _ i (by simpa using hi), ← List.map_take, GT.Cn.sum (fun t ht => (hw t (List.mem_of_mem_take ht)).2.1), ← List.map_take, ← List.map_take]
      have hit : x.items.length = x.1.length + ((ts.map fun t => t.pt.items).map List.length).sum := by
        have h1 : x.items.length = x.1.length + ((x.2.map PT.items).map List.length).sum := inter_length _ _
        rw [h1, ← hts, List.map_map, List.map_map, List.map_map]; rfl
      have hxl : ts.length ≤ 2147483648 := by have := hsh.1; have := hsh.2.1; omega
      refine DoorUpdateCount_inner (c := fun j => (ts.map fun t => t.nd.cnt)[j]?.getD 0) (ids := ts.map GT.id) (((s.front 6 rfl).front 6 rfl).front 5 rfl) w (by simpa [htl] using wkk) (by simp; omega) (fun i hi => ?_) (fun i hi => ?_) fun h s => ?_
      · have hi' : i < ts.length := by simpa using hi
        obtain ⟨a1, a2, a3, hm⟩ := GT.top (enc := enc) (hw ts[i] (List.getElem_mem hi')).2.2.nd
        refine ⟨a1, a2, a3, ?_⟩
        simp only [List.getElem_map, List.getElem?_map, List.getElem?_eq_getElem hi', Option.map_some, Option.getD_some]
        refine List.mem_append.2 (.inl ?_)
        refine List.mem_cons_of_mem _ (List.mem_cons_of_mem _ (List.mem_cons_of_mem _ (List.mem_cons_of_mem _ ?_)))
        exact List.mem_flatMap.2 ⟨ts[i], List.getElem_mem hi', hm⟩
      · rw [hsum i (by simpa using hi)]
        have := sum_take_le ((ts.map fun t => t.pt.items).map List.length) i
        omega
      · rw [show (ts.map GT.id).length = ts.length by simp, hsum _ (Nat.le_refl _), List.take_of_length_le (by simp)] at s
        refine St.r_loadN0 s 3 rfl (by simp) ?_
        refine St.r_storeN0 s 5 rfl rfl (by simp) (by simp [one1]) ?_; intro h s
        refine St.r_loadN0 s 5 rfl (by simp) ?_
        have hpt : GT.pt (h := k + 1) ((⟨true, n, iso, (x.1.length : Int) + (((ts.map fun t => t.pt.items).map List.length).sum : Nat), x.1, iv, ib, io, isp, kb, kv, rb, ro, ksp⟩ : Nd It), ts) = x := by
          show (x.1, ts.map GT.pt) = x
          rw [hts]; rfl
        refine H ((⟨true, n, iso, (x.1.length : Int) + (((ts.map fun t => t.pt.items).map List.length).sum : Nat), x.1, iv, ib, io, isp, kb, kv, rb, ro, ksp⟩ : Nd It), ts) h hpt ⟨⟨w, by simp⟩, by rw [htl]; exact wkk, by rw [htl]; exact hsh.2.1, fun t ht => ⟨(hw t ht).1, fun e => by simp at e⟩⟩ ⟨by rw [hpt, hit, Int.natCast_add], fun t ht => (hw t ht).2.1⟩ ⟨rfl, fun t ht => (hw t ht).2.2⟩ ?_
        refine (s.perm (E' := (t5, 0, [ptr n 0]) :: (t3, 0, [vi, vk, vc]) :: (t4, 0, [ptr n 0]) :: _) ?_).drop 3
        unfold GT.rgs Nd.inner
        simp only [if_true]
        ((apply perm_rg; intro f; simp only [List.set_cons_zero, List.set_cons_succ, List.eraseIdx_cons_zero, List.eraseIdx_cons_succ, List.cons_append, List.nil_append, List.map_append, List.map_cons, List.map_nil, List.sum_append, List.sum_cons, List.sum_nil, List.map_flatMap, Nat.add_zero, Nat.zero_add]; ac_rfl))
end Go.Proofs.Ytkkappjbcgnacaa
end
section
namespace Go.Proofs.Ytkkappjbcgnacaa
open Go.Hp
set_option linter.unusedVariables false
set_option linter.unusedSimpArgs false
variable {h0 h : Heap} {Z E : List Rg} {Q : Value → Heap → Prop}

theorem DoorPlant_ok {tb n : Nat} {iso cnt c0 mn mx : Int} {ctr root : Option Addr} {a1 a2 a3 : Value} (s : St h0 Z ((tb, 0, hdr iso ctr root c0 mn mx) :: E) h) (hn : (n, 0, [a1, .int .i64 cnt, a2, a3]) ∈ E ++ Z)
    (H : ∀ h', St h0 Z ((tb, 0, hdr iso ctr (some ⟨n, 0, none⟩) cnt mn mx) :: E) h' → Q (.tuple #[]) h') : Map_ii_DoorPlant.call #[ptr tb 0, .agg #[ptr n 0]] h Q := by
  refine Map_ii_DoorPlant.body _ _ _ _ ?_
  unfold Map_ii_DoorPlant.sh
  refine St.r_box (cs := [ptr n 0]) s fun t h s => ?_
  refine r_fld ?_
  refine St.r_load0 s 0 rfl rfl ?_
  refine r_fld ?_
  refine St.r_load0 s 0 rfl rfl ?_
  refine r_nil ?_
  refine r_fld ?_
  refine s.r_loadM (xs := [a1, .int .i64 cnt, a2, a3]) (List.mem_cons_of_mem _ (List.mem_cons_of_mem _ hn)) rfl ?_
  refine r_nil ?_
  refine r_fld ?_
  refine St.r_store0 s 1 rfl (by simp) rfl ?_
  intro h s
  try simp only [List.set_cons_zero, List.set_cons_succ] at s
  refine r_nil ?_
  refine r_fld ?_
  refine St.r_store0 s 1 rfl (by simp) rfl ?_
  intro h s
  try simp only [List.set_cons_zero, List.set_cons_succ] at s
  exact H h (s.drop 1)

theorem i_standMap_ok {k : Nat} (x : PT It k) {d : Int} {vi vk vc : Value} (ha : ArgT h x vi vk) (hsh : x.Sh 2147483647) (hsz : x.items.length ≤ 4611686018427387903) (hvc : one1 vc = true) (h1 : 2 ≤ d) (h2 : d ≤ 1073741824) (hne : x.its ≠ [])
    (H : ∀ (t : GT It k) tb h', t.pt = x → t.Wf enc 2 0 → t.Cn → t.Mine → St h [] ((tb, 0, hdr 0 none (some ⟨t.id, 0, none⟩) x.items.length (d - 1) (2 * d - 1)) :: t.rgs enc true) h' → Q (ptr tb 0) h') : i_standMap.call #[.int .i64 d, .agg #[vi, vk, vc]] h Q := by
  refine i_standMap.body _ _ _ _ ?_
  unfold i_standMap.sh
  have s := St.start h
  refine St.r_box (cs := [vi, vk, vc]) s fun t3 h s => ?_
  refine NewMap_ii_ok s h1 h2 fun tb h s => ?_
  refine r_fld ?_
  refine St.r_load0 s 1 rfl rfl ?_
  obtain ⟨len, hl, hlen⟩ : ∃ len, Rdl 2 _ vi len (x.its.flatMap encA) ∧ len ≠ 0 := by
    have hx : x.its.length ≠ 0 := fun e => hne (List.length_eq_zero_iff.1 e)
    cases k with
    | zero => exact ⟨_, ha.1, hx⟩
    | succ k => exact ⟨_, ha.1, hx⟩
  refine (hl.st s).lenV ?_
  refine r_cmpI ?_
  refine r_br (fun e => absurd (of_decide_eq_false e) (by omega)) (fun _ => ?_)
  refine St.r_loadN0 s 1 rfl (by simp) ?_
  refine i_plantedMap_ok x (s.get (k := 0) (j := 0) rfl (by simp)) (ha.fr s.fr) hsh hsz hvc fun t h ht1 ht2 ht3 ht4 s1 => ?_
  have s := s.join s1
  obtain ⟨a1, a2, a3, hm⟩ := GT.top (enc := enc) ht4.nd
  refine DoorPlant_ok (n := t.id) (cnt := t.nd.cnt) (E := t.rgs enc true ++ [(t3, 0, [vi, vk, vc])]) (s.perm (by ((apply perm_rg; intro f; simp only [List.set_cons_zero, List.set_cons_succ, List.eraseIdx_cons_zero, List.eraseIdx_cons_succ, List.cons_append, List.nil_append, List.map_append, List.map_cons, List.map_nil, List.sum_append, List.sum_cons, List.sum_nil, List.map_flatMap, Nat.add_zero, Nat.zero_add]; ac_rfl)))) (List.mem_append.2 (.inl (List.mem_append.2 (.inl hm)))) fun h s => ?_
  unfold i_standMap.j1
  refine H t tb h ht1 ht2 ht3 ht4 ?_
  rw [ht3.cnt, ht1] at s
  exact (s.perm (E' := (t3, 0, [vi, vk, vc]) :: (tb, 0, hdr 0 none (some ⟨t.id, 0, none⟩) x.items.length (d - 1) (2 * d - 1)) :: t.rgs enc true) (by ((apply perm_rg; intro f; simp only [List.set_cons_zero, List.set_cons_succ, List.eraseIdx_cons_zero, List.eraseIdx_cons_succ, List.cons_append, List.nil_append, List.map_append, List.map_cons, List.map_nil, List.sum_append, List.sum_cons, List.sum_nil, List.map_flatMap, Nat.add_zero, Nat.zero_add]; ac_rfl)))).drop 1

theorem isoLoad_read {cb co : Nat} {tr v : Value} (hc : cl h cb co = some v) (H : Q v h) : Map_ii_isoLoad.call #[tr, ptr cb co, .bool false] h Q := by
  refine Map_ii_isoLoad.body _ _ _ _ _ ?_
  unfold Map_ii_isoLoad.sh
  refine r_br (fun e => absurd e (by decide)) (fun _ => ?_)
  unfold Map_ii_isoLoad.j1
  refine r_nil ?_
  exact ⟨_, v, rfl, hc, H⟩

theorem Map_ii_Len_ok {tb : Nat} {v : Value} (hc : cl h tb 3 = some v) (H : Q v h) : Map_ii_Len.call #[ptr tb 0] h Q := by
  refine Map_ii_Len.body _ _ _ ?_
  unfold Map_ii_Len.sh
  refine r_nil (r_fld ?_)
  exact ⟨_, v, rfl, hc, H⟩

theorem Map_ii_Height_ok {k : Nat} {t : GT It k} {tb : Nat} (hr : cl h tb 2 = some (ptr t.id 0)) (ht : t.At enc 2 h) (hk : k ≤ 1000000) (H : Q (.int .i64 ((k + 1 : Nat) : Int)) h) : Map_ii_Height.call #[ptr tb 0] h Q := by
  refine Map_ii_Height.body _ _ _ ?_
  unfold Map_ii_Height.sh
  have s := St.start h
  refine r_nil ?_
  refine r_fld ?_
  refine s.r_loadB hr ?_
  refine r_neNilP ?_
  refine r_if (fun _ => ?_) (fun e => absurd e (by simp))
  refine r_nil ?_
  refine r_fld ?_
  refine s.r_loadB hr ?_
  refine loop_intro (fun l h' => h' = h ∧ ∃ (j : Nat) (t' : GT It j), j ≤ k ∧ t'.At enc 2 h ∧ l = [.int .i64 ((k - j : Nat) : Int), ptr t'.id 0]) (fun l _ => k - (Hp.iv (l.getD 0 undef)).toNat) ⟨rfl, k, t, Nat.le_refl _, ht, by simp⟩ ?_
  rintro l h' ⟨rfl, j, t', hj, ht', rfl⟩
  unfold Map_ii_Height.l2.b
  refine r_add (z := ((k - j + 1 : Nat) : Int)) (by rw [i64w (by omega) (by omega)]; omega) ?_
  cases j with
  | zero =>
    refine mapNode_ii_leaf_ok (a := none) ht'.2 ?_
    refine r_if (fun _ => ?_) (fun e => absurd e (by simp))
    exact H
  | succ j =>
    refine mapNode_ii_leaf_ok (a := some ⟨t'.1.kb, 0, none⟩) ht'.2.1 ?_
    refine r_if (fun e => absurd e (by simp)) (fun _ => ?_)
    unfold Map_ii_Height.j3
    refine r_nil ?_
    refine r_fld ?_
    refine s.r_loadB ht'.2.1 ?_
    refine r_nil ?_
    refine s.r_loadB ht'.2.2.1 ?_
    have hl : 0 < t'.2.length := by have := ht'.2.2.2.2.1; omega
    refine ht'.2.2.2.1.at1 rfl hl fun b o hb => ?_
    refine hb.load0 rfl ?_
    exact ⟨⟨rfl, j, t'.2[0], by omega, ht'.2.2.2.2.2 _ (List.getElem_mem hl), by simp; omega⟩, by simp; omega⟩

abbrev I (n : Int) : Value := .int .i64 n
/-- The keys and the values that are gathered. -/
def Acc (h0 : Heap) (Z E : List Rg) (h : Heap) (kv vv : Value) (A B : List Int) : Prop := ∃ kb ko vb vo sp1 sp2, St h0 Z ((kb, ko, A.map I ++ sp1) :: (vb, vo, B.map I ++ sp2) :: E) h ∧ Own 1 kv A.length kb ko (A.map I) sp1 ∧ Own 1 vv B.length vb vo (B.map I) sp2
theorem Acc.key {kv vv : Value} {A B : List Int} {x : Int} {K : Value → Heap → Prop} (a : Acc h0 Z E h kv vv A B) (hA : A.length ≤ 1099511627776) (H : ∀ kv' h', Acc h0 Z E h' kv' vv (A ++ [x]) B → K kv' h') :
    mkSl (if 1 * 1 = 0 then [] else zeros [(.int .i64 0)] 1) 1 [(0 * 1, 1, .int .i64 x)] 3 h fun t h => app 3 1 8 [(.int .i64 0)] kv t h K := by
  obtain ⟨kb, ko, vb, vo, sp1, sp2, s, w1, w2⟩ := a
  refine s.r_mkSl (sz := 1) (cs := [I x]) (by ((simp only [fillV, fill1, Value.cells, zeros_succ, zeros_zero, List.size_toArray, List.length_cons, List.length_nil, List.length_append, List.take_succ_cons, List.take_zero, List.take_nil, List.drop_succ_cons, List.drop_zero, List.drop_nil, List.cons_append, List.nil_append, List.append_nil, Nat.reduceAdd, Nat.reduceMul, Nat.reduceLeDiff, Nat.reduceEqDiff, and_self, and_true, true_and, if_true, Nat.le_refl, Nat.zero_add, Nat.add_zero, Nat.zero_mul, reduceIte, if_false] <;> rfl))) rfl fun q h s wq => ?_
  refine s.r_app 1 (sz := 1) (n := 1) (new := [I x]) rfl w1 rfl (wq.rdl s 0 rfl) (by simp [one1]) (by omega) (by omega) fun v' b' o' sp' h s w1' => ?_
  refine H v' h ⟨b', o', vb, vo, sp', sp2, ?_, by simpa using w1', w2⟩
  rw [List.map_append]; exact s.drop 1
theorem Acc.val {kv vv : Value} {A B : List Int} {x : Int} {K : Value → Heap → Prop} (a : Acc h0 Z E h kv vv A B) (hB : B.length ≤ 1099511627776) (H : ∀ vv' h', Acc h0 Z E h' kv vv' A (B ++ [x]) → K vv' h') :
    mkSl (if 1 * 1 = 0 then [] else zeros [(.int .i64 0)] 1) 1 [(0 * 1, 1, .int .i64 x)] 3 h fun t h => app 3 1 8 [(.int .i64 0)] vv t h K := by
  obtain ⟨kb, ko, vb, vo, sp1, sp2, s, w1, w2⟩ := a
  refine s.r_mkSl (sz := 1) (cs := [I x]) (by ((simp only [fillV, fill1, Value.cells, zeros_succ, zeros_zero, List.size_toArray, List.length_cons, List.length_nil, List.length_append, List.take_succ_cons, List.take_zero, List.take_nil, List.drop_succ_cons, List.drop_zero, List.drop_nil, List.cons_append, List.nil_append, List.append_nil, Nat.reduceAdd, Nat.reduceMul, Nat.reduceLeDiff, Nat.reduceEqDiff, and_self, and_true, true_and, if_true, Nat.le_refl, Nat.zero_add, Nat.add_zero, Nat.zero_mul, reduceIte, if_false] <;> rfl))) rfl fun q h s wq => ?_
  refine s.r_app 2 (sz := 1) (n := 1) (new := [I x]) rfl w2 rfl (wq.rdl s 0 rfl) (by simp [one1]) (by omega) (by omega) fun v' b' o' sp' h s w2' => ?_
  refine H v' h ⟨kb, ko, b', o', sp1, sp', ?_, w1, by simpa using w2'⟩
  rw [List.map_append]; exact s.drop 1
theorem Acc.at {kv vv : Value} {A B : List Int} (a : Acc h0 Z E h kv vv A B) {k : Nat} {t : GT It k} {iso : Int} (w : t.Wf enc 2 iso) (hz : ∀ r, r ∈ t.all enc → r ∈ Z) : t.At enc 2 h := by
  obtain ⟨kb, ko, vb, vo, sp1, sp2, s, w1, w2⟩ := a
  exact GT.At.of w fun r hr => s.z r (hz r hr)
theorem take_map {α β : Type} (f : α → β) (A : List β) {l : List α} {j : Nat} (hj : j < l.length) : A ++ (l.take (j + 1)).map f = (A ++ (l.take j).map f) ++ [f l[j]] := by
  rw [List.take_succ_eq_append_getElem hj, List.map_append, List.map_cons, List.map_nil, List.append_assoc]

theorem nodeKV : ∀ {k : Nat} (t : GT It k) {h0 h : Heap} {Z E : List Rg} {iso : Int} {A B : List Int} {tr kv vv : Value} {cb co : Nat} {Q : Value → Heap → Prop}, t.Wf enc 2 iso → (∀ r, r ∈ t.all enc → r ∈ Z) →
    Acc h0 Z E h kv vv A B → cl h cb co = some (ptr t.id 0) → A.length + t.pt.items.length ≤ 1099511627776 → B.length + t.pt.items.length ≤ 1099511627776 →
    (∀ kv' vv' h', Acc h0 Z E h' kv' vv' (A ++ t.pt.items.map Prod.fst) (B ++ t.pt.items.map Prod.snd) → Q (.tuple #[kv', vv']) h') →
    Map_ii_nodeKeyValues.call #[tr, ptr cb co, kv, vv, .bool false] h Q
  | 0, t, h0, h, Z, E, iso, A, B, tr, kv, vv, cb, co, Q, w, hz, a, hc, hA, hB, H => by
    refine Map_ii_nodeKeyValues.body _ _ _ _ _ _ _ ?_
    unfold Map_ii_nodeKeyValues.sh
    refine isoLoad_read hc ?_
    refine mapNode_ii_leaf_ok (a := none) (a.at w hz).2 ?_
    refine r_if (fun _ => ?_) (fun e => absurd e (by simp))
    have hlen : t.pt.items.length = (Nd.its t).length := rfl
    refine loop_intro (fun l h' => ∃ (j : Nat) (kv' vv' : Value), j ≤ (Nd.its t).length ∧ l = [kv', vv', .int .i64 j] ∧ Acc h0 Z E h' kv' vv' (A ++ ((Nd.its t).take j).map Prod.fst) (B ++ ((Nd.its t).take j).map Prod.snd))
      (fun l _ => (Nd.its t).length - (Hp.iv (l.getD 2 undef)).toNat) ⟨0, kv, vv, by omega, rfl, by simpa using a⟩ ?_
    rintro l h ⟨j, kv, vv, hj, rfl, a⟩
    unfold Map_ii_nodeKeyValues.l7.b
    refine r_nil (r_fld ?_)
    refine (⟨_, _, rfl, (a.at w hz).1.iv, ?_⟩ : load1 _ _ _)
    refine (a.at w hz).1.its.lenV ?_
    refine r_cmpI ?_
    refine r_if (fun hlt => ?_) (fun hge => ?_)
    · have hlt : j < (Nd.its t).length := by simpa using hlt
      unfold Map_ii_nodeKeyValues.j8
      refine r_nil (r_fld ?_)
      refine (⟨_, _, rfl, (a.at w hz).1.iv, ?_⟩ : load1 _ _ _)
      refine (a.at w hz).1.its.at rfl (fun _ => rfl) rfl rfl hlt fun b o hb => ?_
      refine r_fld (hb.load rfl ?_)
      refine a.key (by simp; omega) fun kv h a => ?_
      refine r_nil (r_fld ?_)
      refine (⟨_, _, rfl, (a.at w hz).1.iv, ?_⟩ : load1 _ _ _)
      refine (a.at w hz).1.its.at rfl (fun _ => rfl) rfl rfl hlt fun b o hb => ?_
      refine r_fld (hb.load rfl ?_)
      refine a.val (by simp; omega) fun vv h a => ?_
      unfold Map_ii_nodeKeyValues.j9
      refine r_add (z := ((j + 1 : Nat) : Int)) (by rw [i64w (by omega) (by omega)]; omega) ?_
      exact ⟨⟨j + 1, kv, vv, hlt, rfl, by rw [take_map _ _ hlt, take_map _ _ hlt]; exact a⟩, by simp; omega⟩
    · have hge : j = (Nd.its t).length := by simp at hge; omega
      subst hge
      rw [List.take_length] at a
      unfold Map_ii_nodeKeyValues.j6
      exact H _ _ h a
  | k + 1, t, h0, h, Z, E, iso, A, B, tr, kv, vv, cb, co, Q, w, hz, a, hc, hA, hB, H => by
    have hz' : ∀ q, q ∈ t.2 → ∀ r, r ∈ q.all enc → r ∈ Z := fun q hq r hr => hz r (List.mem_append.2 (.inr (List.mem_flatMap.2 ⟨q, hq, hr⟩)))
    have hkl : (t.2.map fun q => q.pt.items).length = t.1.its.length + 1 := by rw [List.length_map]; exact w.2.2.1
    have hit : t.pt.items = inter t.1.its (t.2.map fun q => q.pt.items) := by
      show inter t.1.its ((t.2.map GT.pt).map PT.items) = _
      rw [List.map_map]; rfl
    have hlen := inter_length t.1.its (t.2.map fun q => q.pt.items)
    rw [← hit] at hlen
    have hin := inter_pre hkl
    have hpl : ∀ i, i ≤ t.1.its.length → (pre t.1.its (t.2.map fun q => q.pt.items) i).length ≤ t.pt.items.length := fun i hi => by
      rw [hit, hin, List.length_append]
      have := pre_le (its := t.1.its) (ks := t.2.map fun q => q.pt.items) hi
      omega
    refine Map_ii_nodeKeyValues.body _ _ _ _ _ _ _ ?_
    unfold Map_ii_nodeKeyValues.sh
    refine isoLoad_read hc ?_
    refine mapNode_ii_leaf_ok (a := some ⟨t.1.kb, 0, none⟩) (a.at w hz).2.1 ?_
    refine r_if (fun e => absurd e (by simp)) (fun _ => ?_)
    unfold Map_ii_nodeKeyValues.j1
    refine loop_intro (fun l h' => ∃ (j : Nat) (kv' vv' : Value), j ≤ t.1.its.length ∧ l = [kv', vv', .int .i64 j] ∧ Acc h0 Z E h' kv' vv' (A ++ (pre t.1.its (t.2.map fun q => q.pt.items) j).map Prod.fst) (B ++ (pre t.1.its (t.2.map fun q => q.pt.items) j).map Prod.snd))
      (fun l _ => t.1.its.length - (Hp.iv (l.getD 2 undef)).toNat) ⟨0, kv, vv, by omega, rfl, by simpa [pre] using a⟩ ?_
    rintro l h ⟨j, kv, vv, hj, rfl, a⟩
    unfold Map_ii_nodeKeyValues.l3.b
    refine r_nil (r_fld ?_)
    refine (⟨_, _, rfl, (a.at w hz).1.iv, ?_⟩ : load1 _ _ _)
    refine (a.at w hz).1.its.lenV ?_
    refine r_cmpI ?_
    refine r_if (fun hlt => ?_) (fun hge => ?_)
    · have hlt : j < t.1.its.length := by simpa using hlt
      have hjk : j < t.2.length := by have := w.2.2.1; omega
      unfold Map_ii_nodeKeyValues.j4
      refine r_nil (r_fld ?_)
      refine (⟨_, _, rfl, (a.at w hz).2.1, ?_⟩ : load1 _ _ _)
      refine r_nil ?_
      refine (⟨_, _, rfl, (a.at w hz).2.2.1, ?_⟩ : load1 _ _ _)
      refine (a.at w hz).2.2.2.1.at1 rfl hjk fun b o hb => ?_
      have hps := pre_succ (its := t.1.its) (ks := t.2.map fun q => q.pt.items) hlt (by rw [hkl]; omega)
      have hpl' := hpl (j + 1) hlt
      have hps' := congrArg List.length hps
      simp only [List.length_append, List.length_cons, List.length_nil, List.getElem_map] at hps'
      refine nodeKV t.2[j] (w.2.2.2 _ (List.getElem_mem hjk)).1 (hz' _ (List.getElem_mem hjk)) a (hb 0 (by simp)) (by simp; omega) (by simp; omega) fun kv vv h a => ?_
      refine r_ext rfl ?_
      refine r_ext rfl ?_
      refine r_nil ?_
      refine r_fld ?_
      refine (⟨_, _, rfl, (a.at w hz).1.iv, ?_⟩ : load1 _ _ _)
      refine (a.at w hz).1.its.at rfl (fun _ => rfl) rfl rfl hlt fun b o hb => ?_
      refine r_fld (hb.load rfl ?_)
      refine a.key (by simp; omega) fun kv h a => ?_
      refine r_nil (r_fld ?_)
      refine (⟨_, _, rfl, (a.at w hz).1.iv, ?_⟩ : load1 _ _ _)
      refine (a.at w hz).1.its.at rfl (fun _ => rfl) rfl rfl hlt fun b o hb => ?_
      refine r_fld (hb.load rfl ?_)
      refine a.val (by simp; omega) fun vv h a => ?_
      unfold Map_ii_nodeKeyValues.j5
      refine r_add (z := ((j + 1 : Nat) : Int)) (by rw [i64w (by omega) (by omega)]; omega) ?_
      refine ⟨⟨j + 1, kv, vv, hlt, rfl, ?_⟩, by simp; omega⟩
      rw [hps]
      simpa using a
    · have hge : j = t.1.its.length := by simp at hge; omega
      subst hge
      have hjk : t.1.its.length < t.2.length := by have := w.2.2.1; omega
      unfold Map_ii_nodeKeyValues.j2
      refine r_nil (r_fld ?_)
      refine (⟨_, _, rfl, (a.at w hz).2.1, ?_⟩ : load1 _ _ _)
      refine r_nil ?_
      refine (⟨_, _, rfl, (a.at w hz).2.2.1, ?_⟩ : load1 _ _ _)
      refine r_nil (r_fld ?_)
      refine (⟨_, _, rfl, (a.at w hz).2.1, ?_⟩ : load1 _ _ _)
      refine r_nil ?_
      refine (⟨_, _, rfl, (a.at w hz).2.2.1, ?_⟩ : load1 _ _ _)
      refine (a.at w hz).2.2.2.1.lenV ?_
      have hl := congrArg List.length hin
      rw [← hit] at hl hin
      simp only [List.length_append, List.getElem_map] at hl
      refine r_sub (z := (t.1.its.length : Int)) (by have := w.2.2.1; rw [i64w (by omega) (by omega)]; omega) ?_
      refine (a.at w hz).2.2.2.1.at1 (n := t.1.its.length) rfl hjk fun b o hb => ?_
      refine nodeKV t.2[t.1.its.length] (w.2.2.2 _ (List.getElem_mem hjk)).1 (hz' _ (List.getElem_mem hjk)) a (hb 0 (by simp)) (by simp; omega) (by simp; omega) fun kv vv h a => ?_
      refine r_ext rfl ?_
      refine r_ext rfl ?_
      refine H _ _ h ?_
      rw [hin]
      simpa using a

/-- A map that stands: its head and its tree lie in memory. -/
structure StandR (h : Heap) (tb : Nat) {k : Nat} (t : GT It k) : Prop where
  root : cl h tb 2 = some (ptr t.id 0)
  cnt : cl h tb 3 = some (.int .i64 t.pt.items.length)
  wf : ∃ iso, t.Wf enc 2 iso
  ok : ∀ r, r ∈ t.all enc → r.Ok h

theorem keyValues_ok {k : Nat} {t : GT It k} {tb : Nat} (r : StandR h tb t) (hl : t.pt.items.length ≤ 1073741824)
    (H : ∀ kv vv E' h', St h [] E' h' → Rdl 1 h' kv t.pt.items.length ((t.pt.items.map Prod.fst).map I) → Rdl 1 h' vv t.pt.items.length ((t.pt.items.map Prod.snd).map I) → Q (.tuple #[kv, vv]) h') : Map_ii_keyValues.call #[ptr tb 0, .bool false] h Q := by
  refine Map_ii_keyValues.body _ _ _ _ ?_
  unfold Map_ii_keyValues.sh
  have s := St.start h
  refine Map_ii_Len_ok r.cnt ?_
  refine s.r_mks (sz := 1) (n := 0) rfl (by omega) (by omega) (by omega) fun kv kb h s w1 => ?_
  refine Map_ii_Len_ok (s.base r.cnt) ?_
  refine s.r_mks (sz := 1) (n := 0) rfl (by omega) (by omega) (by omega) fun vv vb h s w2 => ?_
  refine r_nil ?_
  refine r_fld ?_
  refine s.r_loadB r.root ?_
  refine r_neNilP ?_
  refine r_if (fun _ => ?_) (fun e => absurd e (by simp))
  refine r_nil ?_
  refine r_fld ?_
  obtain ⟨iso, w⟩ := r.wf
  have s := s.addZ r.ok
  rw [zeros_zero] at s w1 w2
  refine nodeKV t (E := []) (A := []) (B := []) w (fun x hx => List.mem_append.2 (.inl hx)) ⟨kb, 0, vb, 0, _, _, (s.perm (by ((apply perm_rg; intro f; simp only [List.set_cons_zero, List.set_cons_succ, List.eraseIdx_cons_zero, List.eraseIdx_cons_succ, List.cons_append, List.nil_append, List.map_append, List.map_cons, List.map_nil, List.sum_append, List.sum_cons, List.sum_nil, List.map_flatMap, Nat.add_zero, Nat.zero_add]; ac_rfl)))), w1, w2⟩ (s.base r.root) (by simp; omega) (by simp; omega) fun kv vv h a => ?_
  refine r_ext rfl ?_
  refine r_ext rfl ?_
  unfold Map_ii_keyValues.j1
  obtain ⟨kb, ko, vb, vo, sp1, sp2, s, w1, w2⟩ := a
  simp only [List.nil_append] at s w1 w2
  refine H _ _ _ h (s.subZ fun _ h => absurd h List.not_mem_nil) ?_ ?_
  · have := w1.rdl s 0 rfl; simpa using this
  · have := w2.rdl s 1 rfl; simpa using this

theorem KeyValues_ok {k : Nat} {t : GT It k} {tb : Nat} (r : StandR h tb t) (hl : t.pt.items.length ≤ 1073741824)
    (H : ∀ kv vv E' h', St h [] E' h' → Rdl 1 h' kv t.pt.items.length ((t.pt.items.map Prod.fst).map I) → Rdl 1 h' vv t.pt.items.length ((t.pt.items.map Prod.snd).map I) → Q (.tuple #[kv, vv]) h') : Map_ii_KeyValues.call #[ptr tb 0] h Q := by
  refine Map_ii_KeyValues.body _ _ _ ?_
  unfold Map_ii_KeyValues.sh
  refine keyValues_ok r hl fun kv vv E' h' s h1 h2 => ?_
  refine r_ext rfl ?_
  refine r_ext rfl ?_
  exact H _ _ _ _ s h1 h2
end Go.Proofs.Ytkkappjbcgnacaa
end
section
namespace Go.Proofs.Ytkkappjbcgnacaa
open Go.Hp
set_option linter.unusedVariables false
set_option linter.unusedSimpArgs false
variable {h0 h : Heap} {Z E : List Rg} {Q : Value → Heap → Prop}

def exPT : PT It 1 := ([(4, 1)], [([(2, 2)] : List It), ([(6, 3)] : List It)])
theorem l_exNode_ok (H : ∀ vi vk E' h', St h [] E' h' → ArgT h' exPT vi vk → Q (.agg #[vi, vk, .int .i64 0]) h') : l_exNode.call #[] h Q := by
  refine l_exNode.body _ _ ?_
  unfold l_exNode.sh
  have s := St.start h
  refine s.r_alloc fun t0 h s => ?_
  ((apply r_build; ((simp only [fillV, fill1, Value.cells, zeros_succ, zeros_zero, List.size_toArray, List.length_cons, List.length_nil, List.length_append, List.take_succ_cons, List.take_zero, List.take_nil, List.drop_succ_cons, List.drop_zero, List.drop_nil, List.cons_append, List.nil_append, List.append_nil, Nat.reduceAdd, Nat.reduceMul, Nat.reduceLeDiff, Nat.reduceEqDiff, and_self, and_true, true_and, if_true, Nat.le_refl, Nat.zero_add, Nat.add_zero, Nat.zero_mul, reduceIte, if_false] <;> rfl))))
  refine s.r_mkSl (sz := 2) (cs := [I 4, I 1]) (by ((simp only [fillV, fill1, Value.cells, zeros_succ, zeros_zero, List.size_toArray, List.length_cons, List.length_nil, List.length_append, List.take_succ_cons, List.take_zero, List.take_nil, List.drop_succ_cons, List.drop_zero, List.drop_nil, List.cons_append, List.nil_append, List.append_nil, Nat.reduceAdd, Nat.reduceMul, Nat.reduceLeDiff, Nat.reduceEqDiff, and_self, and_true, true_and, if_true, Nat.le_refl, Nat.zero_add, Nat.add_zero, Nat.zero_mul, reduceIte, if_false] <;> rfl))) rfl fun t2 h s w2 => ?_
  ((apply r_build; ((simp only [fillV, fill1, Value.cells, zeros_succ, zeros_zero, List.size_toArray, List.length_cons, List.length_nil, List.length_append, List.take_succ_cons, List.take_zero, List.take_nil, List.drop_succ_cons, List.drop_zero, List.drop_nil, List.cons_append, List.nil_append, List.append_nil, Nat.reduceAdd, Nat.reduceMul, Nat.reduceLeDiff, Nat.reduceEqDiff, and_self, and_true, true_and, if_true, Nat.le_refl, Nat.zero_add, Nat.add_zero, Nat.zero_mul, reduceIte, if_false] <;> rfl))))
  refine s.r_mkSl (sz := 2) (cs := [I 2, I 2]) (by ((simp only [fillV, fill1, Value.cells, zeros_succ, zeros_zero, List.size_toArray, List.length_cons, List.length_nil, List.length_append, List.take_succ_cons, List.take_zero, List.take_nil, List.drop_succ_cons, List.drop_zero, List.drop_nil, List.cons_append, List.nil_append, List.append_nil, Nat.reduceAdd, Nat.reduceMul, Nat.reduceLeDiff, Nat.reduceEqDiff, and_self, and_true, true_and, if_true, Nat.le_refl, Nat.zero_add, Nat.add_zero, Nat.zero_mul, reduceIte, if_false] <;> rfl))) rfl fun t4 h s w4 => ?_
  ((apply r_build; ((simp only [fillV, fill1, Value.cells, zeros_succ, zeros_zero, List.size_toArray, List.length_cons, List.length_nil, List.length_append, List.take_succ_cons, List.take_zero, List.take_nil, List.drop_succ_cons, List.drop_zero, List.drop_nil, List.cons_append, List.nil_append, List.append_nil, Nat.reduceAdd, Nat.reduceMul, Nat.reduceLeDiff, Nat.reduceEqDiff, and_self, and_true, true_and, if_true, Nat.le_refl, Nat.zero_add, Nat.add_zero, Nat.zero_mul, reduceIte, if_false] <;> rfl))))
  ((apply r_build; ((simp only [fillV, fill1, Value.cells, zeros_succ, zeros_zero, List.size_toArray, List.length_cons, List.length_nil, List.length_append, List.take_succ_cons, List.take_zero, List.take_nil, List.drop_succ_cons, List.drop_zero, List.drop_nil, List.cons_append, List.nil_append, List.append_nil, Nat.reduceAdd, Nat.reduceMul, Nat.reduceLeDiff, Nat.reduceEqDiff, and_self, and_true, true_and, if_true, Nat.le_refl, Nat.zero_add, Nat.add_zero, Nat.zero_mul, reduceIte, if_false] <;> rfl))))
  refine s.r_mkSl (sz := 2) (cs := [I 6, I 3]) (by ((simp only [fillV, fill1, Value.cells, zeros_succ, zeros_zero, List.size_toArray, List.length_cons, List.length_nil, List.length_append, List.take_succ_cons, List.take_zero, List.take_nil, List.drop_succ_cons, List.drop_zero, List.drop_nil, List.cons_append, List.nil_append, List.append_nil, Nat.reduceAdd, Nat.reduceMul, Nat.reduceLeDiff, Nat.reduceEqDiff, and_self, and_true, true_and, if_true, Nat.le_refl, Nat.zero_add, Nat.add_zero, Nat.zero_mul, reduceIte, if_false] <;> rfl))) rfl fun t7 h s w7 => ?_
  ((apply r_build; ((simp only [fillV, fill1, Value.cells, zeros_succ, zeros_zero, List.size_toArray, List.length_cons, List.length_nil, List.length_append, List.take_succ_cons, List.take_zero, List.take_nil, List.drop_succ_cons, List.drop_zero, List.drop_nil, List.cons_append, List.nil_append, List.append_nil, Nat.reduceAdd, Nat.reduceMul, Nat.reduceLeDiff, Nat.reduceEqDiff, and_self, and_true, true_and, if_true, Nat.le_refl, Nat.zero_add, Nat.add_zero, Nat.zero_mul, reduceIte, if_false] <;> rfl))))
  refine s.r_mkSl (sz := 3) (cs := [.slice (some ⟨t4, 0, none⟩) 1 1, .slice none 0 0, I 0, .slice (some ⟨t7, 0, none⟩) 1 1, .slice none 0 0, I 0]) (by ((simp only [fillV, fill1, Value.cells, zeros_succ, zeros_zero, List.size_toArray, List.length_cons, List.length_nil, List.length_append, List.take_succ_cons, List.take_zero, List.take_nil, List.drop_succ_cons, List.drop_zero, List.drop_nil, List.cons_append, List.nil_append, List.append_nil, Nat.reduceAdd, Nat.reduceMul, Nat.reduceLeDiff, Nat.reduceEqDiff, and_self, and_true, true_and, if_true, Nat.le_refl, Nat.zero_add, Nat.add_zero, Nat.zero_mul, reduceIte, if_false] <;> rfl))) rfl fun t9 h s w9 => ?_
  ((apply r_build; ((simp only [fillV, fill1, Value.cells, zeros_succ, zeros_zero, List.size_toArray, List.length_cons, List.length_nil, List.length_append, List.take_succ_cons, List.take_zero, List.take_nil, List.drop_succ_cons, List.drop_zero, List.drop_nil, List.cons_append, List.nil_append, List.append_nil, Nat.reduceAdd, Nat.reduceMul, Nat.reduceLeDiff, Nat.reduceEqDiff, and_self, and_true, true_and, if_true, Nat.le_refl, Nat.zero_add, Nat.add_zero, Nat.zero_mul, reduceIte, if_false] <;> rfl))))
  refine St.r_storeN0 s 4 rfl rfl (by simp) (by simp [one1]) ?_; intro h s
  refine St.r_loadN0 s 4 rfl (by simp) ?_
  refine H _ _ _ h s ⟨w2.rdl s 3 rfl, by simp [exPT], [(.slice (some ⟨t4, 0, none⟩) 1 1, .slice none 0 0, 0), (.slice (some ⟨t7, 0, none⟩) 1 1, .slice none 0 0, 0)], rfl, w9.rdl s 0 rfl, fun j h1 h2 => ?_⟩
  match j, h1, h2 with
  | 0, h1, h2 => exact ⟨w4.rdl s 2 rfl, _, _, rfl⟩
  | 1, h1, h2 => exact ⟨w7.rdl s 1 rfl, _, _, rfl⟩

theorem i_DKeyValues_ok {k : Nat} (x : PT It k) {d : Int} {vi vk vc : Value} (ha : ArgT h x vi vk) (hsh : x.Sh 2147483647) (hsz : x.items.length ≤ 1073741824) (hvc : one1 vc = true) (h1 : 2 ≤ d) (h2 : d ≤ 1073741824) (hne : x.its ≠ []) (hk : k ≤ 1000000)
    (H : ∀ kv vv E' h', St h [] E' h' → Rdl 1 h' kv x.items.length ((x.items.map Prod.fst).map I) → Rdl 1 h' vv x.items.length ((x.items.map Prod.snd).map I) → Q (.tuple #[kv, vv, .int .i64 x.items.length, .int .i64 ((k + 1 : Nat) : Int)]) h') : i_DKeyValues.call #[.int .i64 d, .agg #[vi, vk, vc]] h Q := by
  refine i_DKeyValues.body _ _ _ _ ?_
  unfold i_DKeyValues.sh
  have s := St.start h
  refine St.r_box (cs := [vi, vk, vc]) s fun t3 h s => ?_
  refine St.r_loadN0 s 0 rfl (by simp) ?_
  refine i_standMap_ok x (ha.fr s.fr) hsh (by omega) hvc h1 h2 hne fun t tb h ht1 ht2 ht3 ht4 s1 => ?_
  have s := s.join s1
  have r : StandR h tb t := ⟨s.get (k := 0) (j := 2) rfl (by simp), by have := s.get (k := 0) (j := 3) rfl (by simp); rw [ht1]; exact this, ⟨0, ht2⟩, fun q hq => s.ok (by
    rw [← ht4.all] at hq
    exact List.mem_append.2 (.inl (List.mem_append.2 (.inl (List.mem_cons_of_mem _ hq)))))⟩
  refine KeyValues_ok r (by rw [ht1]; exact hsz) fun kv vv E' h' s2 hk hv => ?_
  have r' : ∀ {b o : Nat} {v : Value}, cl h b o = some v → cl h' b o = some v := fun e => s2.base e
  refine r_ext rfl ?_
  refine r_ext rfl ?_
  refine Map_ii_Len_ok (r' r.cnt) ?_
  refine Map_ii_Height_ok (t := t) (r' r.root) ((GT.At.of ht2 r.ok).fr s2.fr) (by omega) ?_
  rw [ht1] at hk hv ⊢
  exact H kv vv _ h' (s.join s2) hk hv

theorem l_aliveD_ok (H : ∀ E' h', St h [] E' h' → Q (.bool true) h') : l_aliveD.call #[] h Q := by
  refine l_aliveD.body _ _ ?_
  unfold l_aliveD.sh
  have s := St.start h
  refine l_exNode_ok fun vi vk E' h s1 ha => ?_
  have s := s.join s1
  refine i_DKeyValues_ok exPT ha ⟨by decide, rfl, fun q hq => (by
    rcases List.mem_cons.1 hq with e | e
    · rw [e]; show 1 ≤ 2147483647; decide
    · rcases List.mem_cons.1 e with e | e
      · rw [e]; show 1 ≤ 2147483647; decide
      · exact absurd e List.not_mem_nil)⟩ (by decide) rfl (by decide) (by decide) (by decide) (by decide) fun kv vv E' h s2 hk hv => ?_
  have s := s.join s2
  refine r_ext rfl ?_
  refine r_ext rfl ?_
  refine r_ext rfl ?_
  refine r_ext rfl ?_
  refine hk.lenV ?_
  refine r_cmpI ?_
  refine r_br (fun _ => ?_) (fun e => absurd e (by decide))
  refine hv.lenV ?_
  refine r_cmpI ?_
  refine r_br (fun _ => ?_) (fun e => absurd e (by decide))
  refine r_cmpI ?_
  refine r_br (fun _ => ?_) (fun e => absurd e (by decide))
  refine r_cmpI ?_
  exact H _ h s
end Go.Proofs.Ytkkappjbcgnacaa
end
section
namespace Go.Proofs.Ytkkappjbcgnacaa
open Go.Hp
set_option linter.unusedVariables false
set_option linter.unusedSimpArgs false
variable {h0 h : Heap} {Z E : List Rg} {Q : Value → Heap → Prop}

theorem l_fit_ok {d : Int} (H : Q (.bool (decide (2 ≤ d ∧ d ≤ 128))) h) : l_fit.call #[.int .i64 d] h Q := by
  refine l_fit.body _ _ _ ?_
  unfold l_fit.sh
  refine r_cmpI ?_
  refine r_br (fun e => ?_) (fun e => ?_)
  · have e : 0 < d := by simpa using e
    refine s_Fits.body _ _ _ ?_
    unfold s_Fits.sh
    refine r_cmpI ?_
    refine r_br (fun _ => ?_) (fun e => absurd e (by simp; omega))
    refine r_cmpI ?_
    refine r_br (fun e => ?_) (fun e => ?_)
    · refine r_cmpI ?_
      have e : 2 ≤ d := by simpa using e
      simpa [e] using H
    · have e : ¬ 2 ≤ d := by simpa using e
      simpa [e] using H
  · have e : ¬ 2 ≤ d := (by have h : d ≤ 0 := (by simpa using e); omega)
    simpa [e] using H

theorem s_Rank_nil {k : Int} (H : Q (.int .i64 k) h) : s_Rank.call #[.slice none 0 0, .int .i64 k] h Q := by
  refine s_Rank.body _ _ _ _ ?_
  unfold s_Rank.sh
  refine r_len ?_
  refine r_cmpI ?_
  exact r_if (fun _ => H) (fun e => absurd e (by simp))

theorem s_Before_nil {p q : It} (H : ∀ E' h', St h [] E' h' → Q (.bool (decide (p.1 < q.1))) h') : s_Before.call #[.slice none 0 0, .agg (encA p).toArray, .agg (encA q).toArray] h Q := by
  refine s_Before.body _ _ _ _ _ ?_
  unfold s_Before.sh
  have s := St.start h
  refine s.r_box fun t4 h s => ?_
  refine s.r_box fun t5 h s => ?_
  refine r_fld ?_
  refine St.r_load0 s 1 rfl rfl ?_
  refine r_fld ?_
  refine St.r_load0 s 0 rfl rfl ?_
  refine s_Rank_nil ?_
  refine ⟨St.r_still0 s 0 rfl rfl, ?_⟩
  refine s_Rank_nil ?_
  refine r_cmpI ?_
  exact H _ _ s

/-- Keys that ascend strictly. -/
def Asc (l : List It) : Prop := ∀ i (h1 : i + 1 < l.length), l[i].1 < l[i + 1].1
theorem s_Rising_nil {l : List It} {v : Value} (hr : Rdl 2 h v l.length (l.flatMap encA)) (hl : l.length ≤ 4611686018427387903) (H : ∀ (b : Bool) E' h', (b = true ↔ Asc l) → St h [] E' h' → Q (.bool b) h') : s_Rising.call #[.slice none 0 0, v] h Q := by
  refine s_Rising.body _ _ _ _ ?_
  unfold s_Rising.sh
  have s := St.start h
  refine loop_intro (fun t h' => ∃ (j : Nat) (E' : List Rg), t = [.int .i64 ((j + 1 : Nat) : Int)] ∧ (j ≤ l.length) ∧ (∀ i (h1 : i + 1 < l.length), i < j → l[i].1 < l[i + 1].1) ∧ St h [] E' h') (fun t _ => l.length + 1 - (Hp.iv (t.getD 0 undef)).toNat) ⟨0, [], rfl, by omega, fun i h1 h2 => by omega, s⟩ ?_
  rintro t h' ⟨j, E', rfl, hj, hlt, s⟩
  unfold s_Rising.l2.b
  refine (hr.st s).lenV ?_
  refine r_cmpI ?_
  refine r_if (fun e => ?_) (fun e => ?_)
  · have e : j + 1 < l.length := by have := of_decide_eq_true e; simp at this; omega
    unfold s_Rising.j3
    refine r_sub (z := (j : Int)) (by rw [i64w (by omega) (by omega)]; omega) ?_
    refine (hr.st s).at rfl (fun _ => rfl) rfl rfl (show j < l.length by omega) fun b o hb => ?_
    refine hb.loadN rfl ?_
    refine (hr.st s).at rfl (fun _ => rfl) rfl rfl e fun b o hb => ?_
    refine hb.loadN rfl ?_
    refine s_Before_nil fun E2 h s2 => ?_
    have s := s.join s2
    refine r_not ?_
    refine r_if (fun e2 => ?_) (fun e2 => ?_)
    · refine H false _ _ ⟨fun e => (by cases e), fun ha => ?_⟩ s
      have h1 := ha j e
      simp at e2; omega
    · unfold s_Rising.j4
      refine r_add (z := ((j + 1 + 1 : Nat) : Int)) (by rw [i64w (by omega) (by omega)]; omega) ?_
      refine ⟨⟨j + 1, _, rfl, by omega, fun i h1 h2 => ?_, s⟩, by simp; omega⟩
      rcases Nat.lt_or_ge i j with h3 | h3
      · exact hlt i h1 h3
      · have : i = j := by omega
        subst this; simpa using e2
  · have e : ¬ j + 1 < l.length := by have := of_decide_eq_false e; simp at this; omega
    unfold s_Rising.j1
    exact H true _ _ ⟨fun _ i h1 => hlt i h1 (by omega), fun _ => rfl⟩ s

theorem Asc.lt {l : List It} (ha : Asc l) : ∀ i j (h1 : i < j) (h2 : j < l.length), l[i].1 < l[j].1 := fun i j h1 h2 => by
  induction j with
  | zero => omega
  | succ j ih =>
    have := ha j h2
    rcases Nat.lt_or_ge i j with h3 | h3
    · have := ih h3 (by omega); omega
    · have : i = j := by omega
      subst this; exact this
end Go.Proofs.Ytkkappjbcgnacaa
end
section
namespace Go.Proofs.Ytkkappjbcgnacaa
open Go.Hp
set_option linter.unusedVariables false
set_option linter.unusedSimpArgs false
variable {h0 h : Heap} {Z E : List Rg} {Q : Value → Heap → Prop}

theorem one_encA : ∀ (l : List It) (y : Value), y ∈ l.flatMap encA → one1 y = true := fun l y hy => by
  obtain ⟨p, _, hp⟩ := List.mem_flatMap.1 hy
  simp only [List.mem_cons, List.not_mem_nil, or_false] at hp
  rcases hp with rfl | rfl <;> rfl

theorem s_NodeItems_ok : ∀ {k : Nat} (t : DT k) {h : Heap} {vi vk vc : Value} {Q : Value → Heap → Prop}, ArgD h t vi vk → t.bulk ≤ 1073741824 → one1 vc = true →
    (∀ v E' h', St h [] E' h' → Rdl 2 h' v t.items.length (t.items.flatMap encA) → Q v h') → s_NodeItems.call #[.agg #[vi, vk, vc]] h Q
  | 0, e, _, _, _, _, _, _, _, _, _ => e.elim
  | k + 1, t, h, vi, vk, vc, Q, ⟨hr, cs, hcl, hrk, hks⟩, hb, hvc, H => by
    have hbulk : 1 + t.1.length + (t.2.map DT.bulk).sum ≤ 1073741824 := hb
    have hkl : t.2.length ≤ (t.2.map DT.bulk).sum := sum_ge_length DT.bulk (fun a => by
      cases k with
      | zero => exact a.elim
      | succ k => show 1 ≤ 1 + _ + _; omega) t.2
    have hit : t.items = inter t.1 (t.2.map DT.items) := rfl
    have hin := inter_pre2 t.1 (t.2.map DT.items)
    have hil := DT.items_le t
    rw [List.length_map] at hin
    refine s_NodeItems.body _ _ _ ?_
    unfold s_NodeItems.sh
    have s := St.start h
    refine St.r_box (cs := [vi, vk, vc]) s fun b h s => ?_
    refine r_fld ?_
    refine St.r_load0 s 0 rfl rfl ?_
    refine (hrk.st s).lenV ?_
    refine r_fld ?_
    refine St.r_load0 s 0 rfl rfl ?_
    refine (hr.st s).lenV ?_
    have hmax : (if (t.1.length : Int) > (cs.length : Int) then (t.1.length : Int) else (cs.length : Int)) = ((max t.2.length t.1.length : Nat) : Int) := by split <;> omega
    refine ⟨_, _, _, rfl, rfl, ?_⟩
    rw [hmax]
    refine loop_intro (fun l h' => ∃ (j : Nat) (v : Value) (rb ro : Nat) (sp : List Value) (E' : List Rg), j ≤ max t.2.length t.1.length ∧ l = [v, .int .i64 j] ∧ St _ [] ((b, 0, [vi, vk, vc]) :: (rb, ro, (pre2 t.1 (t.2.map DT.items) j).flatMap encA ++ sp) :: E') h' ∧
        Own 2 v (pre2 t.1 (t.2.map DT.items) j).length rb ro ((pre2 t.1 (t.2.map DT.items) j).flatMap encA) sp) (fun l _ => max t.2.length t.1.length - (Hp.iv (l.getD 1 undef)).toNat)
      ⟨0, _, 0, 0, [], [], by omega, rfl, (s.empty 0 0).perm (by simp only [pre2]; ((apply perm_rg; intro f; simp only [List.set_cons_zero, List.set_cons_succ, List.eraseIdx_cons_zero, List.eraseIdx_cons_succ, List.cons_append, List.nil_append, List.map_append, List.map_cons, List.map_nil, List.sum_append, List.sum_cons, List.sum_nil, List.map_flatMap, Nat.add_zero, Nat.zero_add]; ac_rfl))), Own.nil 2 0 0⟩ ?_
    rintro l h ⟨j, v, rb, ro, sp, E', hj, rfl, s, w⟩
    unfold s_NodeItems.l2.b
    refine r_cmpI ?_
    refine r_if (fun hlt => ?_) (fun hge => ?_)
    · have hlt : j < max t.2.length t.1.length := by have := of_decide_eq_true hlt; simp at this; omega
      have hps := pre2_succ t.1 (t.2.map DT.items) j
      have hpl := pre2_le (its := t.1) (ks := t.2.map DT.items) (show j + 1 ≤ max t.2.length t.1.length from hlt)
      rw [← hin, ← hit] at hpl
      have hpl' := congrArg List.length hps
      simp only [List.length_append] at hpl'
      -- behind the kid's items
      have step : ∀ (A : List It), A = pre2 t.1 (t.2.map DT.items) j ++ (t.2.map DT.items)[j]?.getD [] → ∀ (v : Value) (rb ro : Nat) (sp : List Value) (E' : List Rg) (h : Heap), St _ [] ((b, 0, [vi, vk, vc]) :: (rb, ro, A.flatMap encA ++ sp) :: E') h →
          Own 2 v A.length rb ro (A.flatMap encA) sp →
          s_NodeItems.j5 (ptr b 0) v (.int .i64 j) (.int .i64 ((max t.2.length t.1.length : Nat) : Int)) (.int .i64 j) h (fun l' h' => (∃ (j : Nat) (v : Value) (rb ro : Nat) (sp : List Value) (E' : List Rg), j ≤ max t.2.length t.1.length ∧ l' = [v, .int .i64 j] ∧ St _ [] ((b, 0, [vi, vk, vc]) :: (rb, ro, (pre2 t.1 (t.2.map DT.items) j).flatMap encA ++ sp) :: E') h' ∧
            Own 2 v (pre2 t.1 (t.2.map DT.items) j).length rb ro ((pre2 t.1 (t.2.map DT.items) j).flatMap encA) sp) ∧ max t.2.length t.1.length - (Hp.iv (l'.getD 1 undef)).toNat < max t.2.length t.1.length - j) Q := fun A hA v rb ro sp E' h s w => by
        have hAl := congrArg List.length hA
        rw [List.length_append] at hAl
        unfold s_NodeItems.j5
        refine r_fld ?_
        refine St.r_load0 s 0 rfl rfl ?_
        refine (hr.st s).lenV ?_
        refine r_cmpI ?_
        refine r_if (fun e => ?_) (fun e => ?_)
        · have e : j < t.1.length := by simpa using e
          refine r_fld ?_
          refine St.r_load0 s 0 rfl rfl ?_
          refine (hr.st s).at rfl (fun _ => rfl) rfl rfl e fun b' o' hb' => ?_
          refine hb'.loadN rfl ?_
          refine s.r_mkSl (sz := 2) (cs := encA t.1[j]) (by ((simp only [fillV, fill1, Value.cells, zeros_succ, zeros_zero, List.size_toArray, List.length_cons, List.length_nil, List.length_append, List.take_succ_cons, List.take_zero, List.take_nil, List.drop_succ_cons, List.drop_zero, List.drop_nil, List.cons_append, List.nil_append, List.append_nil, Nat.reduceAdd, Nat.reduceMul, Nat.reduceLeDiff, Nat.reduceEqDiff, and_self, and_true, true_and, if_true, Nat.le_refl, Nat.zero_add, Nat.add_zero, Nat.zero_mul, reduceIte, if_false] <;> rfl))) rfl fun q h s wq => ?_
          refine s.r_app 2 (sz := 2) (n := 1) (new := encA t.1[j]) rfl w rfl (wq.rdl s 0 rfl) (by simp [one1]) (by omega) (by omega) fun v' b' o' sp' h s w' => ?_
          unfold s_NodeItems.j4
          refine r_add (z := ((j + 1 : Nat) : Int)) (by rw [i64w (by omega) (by omega)]; omega) ?_
          have hx : pre2 t.1 (t.2.map DT.items) (j + 1) = A ++ [t.1[j]] := by rw [hps, hA, List.getElem?_eq_getElem e, List.append_assoc]; rfl
          refine ⟨⟨j + 1, v', b', o', sp', E', hlt, rfl, ?_, ?_⟩, by simp; omega⟩
          · rw [hx, List.flatMap_append]
            have hsing : [t.1[j]].flatMap encA = encA t.1[j] := by simp
            rw [hsing]
            exact s.drop 1
          · rw [hx, List.flatMap_append, List.length_append]
            have hsing : [t.1[j]].flatMap encA = encA t.1[j] := by simp
            rw [hsing]
            exact w'
        · have e : ¬ j < t.1.length := by simpa using e
          unfold s_NodeItems.j4
          refine r_add (z := ((j + 1 : Nat) : Int)) (by rw [i64w (by omega) (by omega)]; omega) ?_
          have hx : pre2 t.1 (t.2.map DT.items) (j + 1) = A := by rw [hps, hA, List.getElem?_eq_none (by omega : t.1.length ≤ j)]; simp
          refine ⟨⟨j + 1, v, rb, ro, sp, E', hlt, rfl, ?_, ?_⟩, by simp; omega⟩
          · rw [hx]; exact s
          · rw [hx]; exact w
      unfold s_NodeItems.j3
      refine r_fld ?_
      refine St.r_load0 s 0 rfl rfl ?_
      refine (hrk.st s).lenV ?_
      refine r_cmpI ?_
      refine r_if (fun e => ?_) (fun e => ?_)
      · have e : j < t.2.length := by have := of_decide_eq_true e; omega
        refine r_fld ?_
        refine St.r_load0 s 0 rfl rfl ?_
        refine (hrk.st s).at (n := j) rfl (fun _ => rfl) rfl rfl (by omega) fun b' o' hb' => ?_
        refine hb'.loadN rfl ?_
        have hkb : t.2[j].bulk ≤ (t.2.map DT.bulk).sum := mem_le_sum (List.mem_map.2 ⟨_, List.getElem_mem e, rfl⟩)
        refine s_NodeItems_ok t.2[j] ((hks j e (by omega)).fr s.fr) (by omega) rfl fun v' E2 h s2 hv => ?_
        have s := (s.join s2).perm List.perm_append_comm
        have hg : (t.2.map DT.items)[j]?.getD [] = t.2[j].items := by simp [e]
        refine s.r_app 1 (sz := 2) (n := t.2[j].items.length) (new := t.2[j].items.flatMap encA) rfl w rfl hv (one_encA _) (by rw [hg] at hpl'; omega) (by rw [hg] at hpl'; omega) fun v' b' o' sp' h s w' => ?_
        refine step _ rfl v' b' o' sp' (E' ++ E2) h ?_ ?_
        · rw [hg, List.flatMap_append]; exact s
        · rw [hg, List.flatMap_append, List.length_append]; exact w'
      · have e : ¬ j < t.2.length := by have := of_decide_eq_false e; omega
        have hg : (t.2.map DT.items)[j]?.getD [] = [] := by simp [List.getElem?_eq_none (show t.2.length ≤ j by omega)]
        refine step _ rfl v rb ro sp E' h ?_ ?_
        · rw [hg, List.append_nil]; exact s
        · rw [hg, List.append_nil]; exact w
    · have hge : j = max t.2.length t.1.length := by have := of_decide_eq_false hge; simp at this; omega
      subst hge
      unfold s_NodeItems.j1
      rw [← hin, ← hit] at s w
      exact H v _ h s (w.rdl s 1 rfl)
end Go.Proofs.Ytkkappjbcgnacaa
end
section
namespace Go.Proofs.Ytkkappjbcgnacaa
open Go.Hp
set_option linter.unusedVariables false
set_option linter.unusedSimpArgs false
variable {h0 h : Heap} {Z E : List Rg} {Q : Value → Heap → Prop}

abbrev encN (c : Value × Value × Int) : List Value := [c.1, c.2.1, .int .i64 c.2.2]
theorem s_Levels_ok : ∀ {k : Nat} (t : DT k) {g : Heap} {vi vk vc : Value} {Q : Value → Heap → Prop}, ArgD g t vi vk → t.bulk ≤ 1073741824 → k ≤ 1099511627776 → one1 vc = true →
    (∀ E' h', St g [] E' h' → Q (.tuple #[.int .i64 t.lv.1, .bool t.lv.2]) h') → s_Levels.call #[.agg #[vi, vk, vc]] g Q
  | 0, e, _, _, _, _, _, _, _, _, _, _ => e.elim
  | k + 1, t, g, vi, vk, vc, Q, ⟨hr, cs, hcl, hrk, hks⟩, hb, hkb, hvc, H => by
    have hbulk := t.kids_le
    refine s_Levels.body _ _ _ ?_
    unfold s_Levels.sh
    have s := St.start g
    refine St.r_box (cs := [vi, vk, vc]) s fun b h s => ?_
    refine r_fld ?_
    refine St.r_load0 s 0 rfl rfl ?_
    refine (hrk.st s).lenV ?_
    refine r_cmpI ?_
    have hkb2 : ∀ j (hj : j < t.2.length), t.2[j].bulk ≤ 1073741824 := fun j hj => by
      have := t.kid_le (List.getElem_mem hj)
      omega
    match ht : t.2 with
    | [] =>
      have hlv : t.lv = (1, true) := by unfold DT.lv; rw [ht]
      rw [ht] at hcl
      refine r_if (fun _ => ?_) (fun e => absurd e (by simp at hcl; simp [hcl]))
      have := H _ _ s
      rw [hlv] at this
      exact this
    | q :: qs =>
      have htl : t.2.length = qs.length + 1 := by rw [ht]; rfl
      refine r_if (fun e => absurd (eq_of_beq e) (by omega)) (fun _ => ?_)
      unfold s_Levels.j1
      refine r_fld ?_
      refine St.r_load0 s 0 rfl rfl ?_
      refine (hrk.st s).lenV ?_
      refine r_fld ?_
      refine St.r_load0 s 0 rfl rfl ?_
      refine (hr.st s).lenV ?_
      refine r_add (z := ((t.1.length + 1 : Nat) : Int)) (by rw [i64w (by omega) (by omega)]; omega) ?_
      refine r_cmpI ?_
      refine r_if (fun e => ?_) (fun e => ?_)
      · have e : qs.length ≠ t.1.length := by simp at e; omega
        have hlv : t.lv = (0, false) := by unfold DT.lv; rw [ht]; simp only [if_neg e]
        have := H _ _ s
        rw [hlv] at this
        exact this
      · have e : qs.length = t.1.length := by simp at e; omega
        have hlv : t.lv = (q.lv.1 + 1, q.lv.2 && qs.all fun x => x.lv.2 && x.lv.1 == q.lv.1) := by
          conv => lhs; unfold DT.lv
          rw [ht]; simp only [if_pos e]
        unfold s_Levels.j2
        refine r_fld ?_
        refine St.r_load0 s 0 rfl rfl ?_
        refine (hrk.st s).at (n := 0) rfl (fun _ => rfl) rfl rfl (by omega) fun b' o' hb' => ?_
        refine hb'.loadN rfl ?_
        have hgg : ∀ j (hj : j < t.2.length), t.2[j] = (q :: qs)[j]'(by rw [← ht]; exact hj) := fun j hj => List.getElem_of_eq ht hj
        have hkq : ArgD g q cs[0].1 cs[0].2.1 := by have := hks 0 (by rw [ht]; simp) (by omega); rw [hgg] at this; exact this
        have hqb : q.bulk ≤ 1073741824 := by have := hkb2 0 (by rw [ht]; simp); rw [hgg] at this; exact this
        have hql := q.lv_le
        refine s_Levels_ok q (hkq.fr s.fr) hqb (by omega) rfl fun E2 h s2 => ?_
        have s := (s.join s2).perm List.perm_append_comm
        refine r_ext rfl ?_
        refine r_ext rfl ?_
        refine r_fld ?_
        refine St.r_load0 s 0 rfl rfl ?_
        refine hrk.slc (l := 1) (m := cs.length) ⟨_, _, rfl, by omega, by omega, rfl⟩ rfl (by omega) (Nat.le_refl _) fun vt hvt => ?_
        rw [show 1 * 3 = 1 * 3 from rfl, flat_drop (f := encN) (sz := 3) (fun _ => rfl), List.take_of_length_le (by rw [flat_len (f := encN) (sz := 3) (fun _ => rfl)]; simp)] at hvt
        refine (hvt.st s).lenV ?_
        refine loop_intro (fun l h' => ∃ (j : Nat) (bb : Bool) (E' : List Rg), j ≤ qs.length ∧ l = [.bool bb, .int .i64 j] ∧ bb = (q.lv.2 && (qs.take j).all fun x => x.lv.2 && x.lv.1 == q.lv.1) ∧ St g [] E' h') (fun l _ => qs.length - (Hp.iv (l.getD 1 undef)).toNat)
          ⟨0, _, _, by omega, rfl, by simp, s⟩ ?_
        rintro l h2 ⟨j, bb, E', hj, rfl, hbb, s⟩
        unfold s_Levels.l4.b
        refine r_cmpI ?_
        refine r_if (fun hlt => ?_) (fun hge => ?_)
        · have hlt : j < qs.length := by have := of_decide_eq_true hlt; simp at this; omega
          unfold s_Levels.j5
          have hdl : j < (cs.drop 1).length := by simp; omega
          have hvt2 : Rdl 3 h2 vt (cs.drop 1).length ((cs.drop 1).flatMap encN) := by rw [List.length_drop]; exact hvt.st s
          refine hvt2.at (n := j) rfl (fun _ => rfl) rfl rfl hdl fun b' o' hb' => ?_
          refine hb'.loadN rfl ?_
          refine s.r_alloc fun t7 h s => ?_
          have hkj : ArgD g qs[j] (cs.drop 1)[j].1 (cs.drop 1)[j].2.1 := by
            have := hks (j + 1) (by rw [ht]; simp; omega) (by omega)
            rw [hgg] at this
            simpa [Nat.add_comm] using this
          have hjb : qs[j].bulk ≤ 1073741824 := by have := hkb2 (j + 1) (by rw [ht]; simp; omega); rw [hgg] at this; exact this
          refine St.r_storeN0 s 0 rfl rfl (by simp) (by simp only [List.mem_cons, List.not_mem_nil, or_false]; intro y hy; rcases hy with rfl | rfl | rfl; exact hkj.one.1; exact hkj.one.2; rfl) ?_; intro h s
          refine St.r_loadN0 s 0 rfl (by simp) ?_
          have hjl := qs[j].lv_le
          refine s_Levels_ok qs[j] (hkj.fr s.fr) hjb (by omega) rfl fun E3 h s3 => ?_
          have s := s.join s3
          refine r_ext rfl ?_
          refine r_ext rfl ?_
          have fin : ∀ (b2 : Bool), b2 = (bb && (qs[j].lv.2 && qs[j].lv.1 == q.lv.1)) → s_Levels.j6 (.int .i64 q.lv.1) (.bool b2) vt (.int .i64 ((cs.length - 1 : Nat) : Int)) (.int .i64 j) h (fun l' h' => (∃ (j : Nat) (bb : Bool) (E' : List Rg), j ≤ qs.length ∧ l' = [.bool bb, .int .i64 j] ∧ bb = (q.lv.2 && (qs.take j).all fun x => x.lv.2 && x.lv.1 == q.lv.1) ∧ St g [] E' h') ∧
              qs.length - (Hp.iv (l'.getD 1 undef)).toNat < qs.length - j) Q := fun b2 hb2 => by
            unfold s_Levels.j6
            refine r_add (z := ((j + 1 : Nat) : Int)) (by rw [i64w (by omega) (by omega)]; omega) ?_
            refine ⟨⟨j + 1, b2, _, hlt, rfl, ?_, s⟩, by simp; omega⟩
            rw [hb2, hbb, List.take_succ_eq_append_getElem hlt, List.all_append]
            simp [Bool.and_assoc]
          refine r_br (fun e1 => ?_) (fun e1 => fin _ (by simp at e1; simp [e1]))
          refine r_br (fun e2 => ?_) (fun e2 => fin _ (by simp at e2; simp [e2]))
          refine r_cmpI ?_
          exact fin _ (by simp [e1, e2]; rw [Bool.eq_iff_iff]; simp; omega)
        · have hge : j = qs.length := by have := of_decide_eq_false hge; simp at this; omega
          subst hge
          unfold s_Levels.j3
          refine r_add (z := ((q.lv.1 + 1 : Nat) : Int)) (by rw [i64w (by omega) (by omega)]; omega) ?_
          have := H _ _ s
          rw [hlv] at this
          rw [hbb, List.take_length]
          exact this

theorem s_Filled_ok : ∀ {k : Nat} (t : DT k) {g : Heap} {vi vk vc : Value} {d least : Int} {Q : Value → Heap → Prop}, ArgD g t vi vk → t.bulk ≤ 1073741824 → 0 ≤ d → d ≤ 1073741824 → one1 vc = true →
    (∀ E' h', St g [] E' h' → Q (.bool (t.fl d least)) h') → s_Filled.call #[.int .i64 d, .int .i64 least, .agg #[vi, vk, vc]] g Q
  | 0, e, _, _, _, _, _, _, _, _, _, _, _, _, _ => e.elim
  | k + 1, t, g, vi, vk, vc, d, least, Q, ⟨hr, cs, hcl, hrk, hks⟩, hb, hd0, hd, hvc, H => by
    have hbulk := t.kids_le
    have hfl : t.fl d least = (decide (least ≤ t.1.length) && decide ((t.1.length : Int) ≤ 2 * d - 1) && t.2.all fun q => q.fl d (d - 1)) := rfl
    have no : ∀ {E' h'}, St g [] E' h' → t.fl d least = false → Q (.bool false) h' := fun s e => by have := H _ _ s; rwa [e] at this
    refine s_Filled.body _ _ _ _ _ ?_
    unfold s_Filled.sh
    have s := St.start g
    refine St.r_box (cs := [vi, vk, vc]) s fun b h s => ?_
    refine r_fld ?_
    refine St.r_load0 s 0 rfl rfl ?_
    refine (hr.st s).lenV ?_
    refine r_cmpI ?_
    refine r_br (fun e1 => ?_) (fun e1 => no s (by have := of_decide_eq_true (show decide ((t.1.length : Int) < least) = true from e1); rw [hfl]; simp; omega))
    have e1 := of_decide_eq_false (show decide ((t.1.length : Int) < least) = false from e1)
    refine r_fld ?_
    refine St.r_load0 s 0 rfl rfl ?_
    refine (hr.st s).lenV ?_
    refine ⟨_, _, _, rfl, rfl, ?_⟩
    rw [i64w (n := 2 * d) (by omega) (by omega)]
    refine r_sub (z := 2 * d - 1) (by rw [i64w (by omega) (by omega)]) ?_
    refine r_cmpI ?_
    refine r_if (fun e2 => no s (by have := of_decide_eq_true e2; rw [hfl]; simp; omega)) (fun e2 => ?_)
    have e2 := of_decide_eq_false e2
    unfold s_Filled.j1
    refine r_fld ?_
    refine St.r_load0 s 0 rfl rfl ?_
    refine (hrk.st s).lenV ?_
    refine loop_intro (fun l h' => ∃ (j : Nat) (E' : List Rg), j ≤ t.2.length ∧ l = [.int .i64 j] ∧ ((t.2.take j).all fun x => x.fl d (d - 1)) = true ∧ St g [] E' h') (fun l _ => t.2.length - (Hp.iv (l.getD 0 undef)).toNat)
      ⟨0, _, by omega, rfl, by simp, s⟩ ?_
    rintro l h2 ⟨j, E', hj, rfl, hall, s⟩
    unfold s_Filled.l3.b
    refine r_cmpI ?_
    refine r_if (fun hlt => ?_) (fun hge => ?_)
    · have hlt : j < t.2.length := by have := of_decide_eq_true hlt; simp at this; omega
      unfold s_Filled.j4
      refine (hrk.st s).at (n := j) rfl (fun _ => rfl) rfl rfl (by omega) fun b' o' hb' => ?_
      refine hb'.loadN rfl ?_
      refine s.r_alloc fun t8 h s => ?_
      have hkj := hks j hlt (by omega)
      have hjb : t.2[j].bulk ≤ 1073741824 := by have := t.kid_le (List.getElem_mem hlt); omega
      refine St.r_storeN0 s 0 rfl rfl (by simp) (by simp only [List.mem_cons, List.not_mem_nil, or_false]; intro y hy; rcases hy with rfl | rfl | rfl; exact hkj.one.1; exact hkj.one.2; rfl) ?_; intro h s
      refine r_sub (z := d - 1) (by rw [i64w (by omega) (by omega)]) ?_
      refine St.r_loadN0 s 0 rfl (by simp) ?_
      refine s_Filled_ok t.2[j] (hkj.fr s.fr) hjb hd0 hd rfl fun E3 h s3 => ?_
      have s := s.join s3
      refine r_not ?_
      refine r_if (fun e3 => no s ?_) (fun e3 => ?_)
      · have e3 : t.2[j].fl d (d - 1) = false := by simpa using e3
        have : (t.2.all fun q => q.fl d (d - 1)) = false := by
          rw [List.all_eq_false]
          exact ⟨_, List.getElem_mem hlt, by rw [e3]; decide⟩
        rw [hfl, this]; simp
      · unfold s_Filled.j5
        refine r_add (z := ((j + 1 : Nat) : Int)) (by rw [i64w (by omega) (by omega)]; omega) ?_
        refine ⟨⟨j + 1, _, hlt, rfl, ?_, s⟩, by simp; omega⟩
        have e3 : t.2[j].fl d (d - 1) = true := by simpa using e3
        rw [List.take_succ_eq_append_getElem hlt, List.all_append, hall]
        simp [e3]
    · have hge : j = t.2.length := by have := of_decide_eq_false hge; simp at this; omega
      subst hge
      rw [List.take_length] at hall
      unfold s_Filled.j2
      have := H _ _ s
      rw [hfl, hall] at this
      have h1 : least ≤ (t.1.length : Int) := by omega
      have h2 : (t.1.length : Int) ≤ 2 * d - 1 := by omega
      simpa [h1, h2] using this

/-- Whether a node is the root of a valid tree of a degree. -/
def validB (d : Int) {k : Nat} (t : DT k) : Prop := match k, t with
  | 0, e => e.elim
  | _ + 1, t => (t.1 = [] ∧ t.2 = []) ∨ (t.lv.2 = true ∧ t.fl (if d = 0 then 32 else d) 1 = true ∧ Asc t.items)

theorem s_Valid_ok {k : Nat} (t : DT (k + 1)) {g : Heap} {vi vk vc v2 : Value} {d : Int} {Q : Value → Heap → Prop} (ha : ArgD g t vi vk) (hb : t.bulk ≤ 1073741824) (hk : k ≤ 1099511627775) (hd0 : 0 ≤ d) (hd : d ≤ 1073741824) (hvc : one1 vc = true) (hv2 : one1 v2 = true)
    (H : ∀ (b : Bool) E' h', (b = true ↔ validB d t) → St g [] E' h' → Q (.bool b) h') : s_Valid.call #[.agg #[.slice none 0 0, .int .i64 d, v2], .agg #[vi, vk, vc]] g Q := by
  have ha' := ha
  obtain ⟨hr, cs, hcl, hrk, hks⟩ := ha
  have hbulk := t.kids_le
  refine s_Valid.body _ _ _ _ ?_
  unfold s_Valid.sh
  have s := St.start g
  refine St.r_box (cs := [.slice none 0 0, .int .i64 d, v2]) s fun b2 h s => ?_
  refine St.r_box (cs := [vi, vk, vc]) s fun b3 h s => ?_
  refine r_fld ?_
  refine St.r_load0 s 0 rfl rfl ?_
  refine (hr.st s).lenV ?_
  refine r_cmpI ?_
  have main : ¬ (t.1 = [] ∧ t.2 = []) → s_Valid.j1 (ptr b2 0) (ptr b3 0) h Q := fun hne => by
    unfold s_Valid.j1
    refine St.r_loadN0 s 0 rfl (by simp) ?_
    refine s_Levels_ok t (ha'.fr s.fr) hb (by omega) hvc fun E1 h s1 => ?_
    have s := (s.join s1).perm List.perm_append_comm
    refine r_ext rfl ?_
    refine r_ext rfl ?_
    refine r_br (fun e1 => ?_) (fun e1 => H false _ _ ⟨fun e => (by cases e), fun hv => ?_⟩ s)
    · refine r_fld ?_
      refine St.r_load0 s 1 rfl rfl ?_
      refine St.r_loadN0 s 0 rfl (by simp) ?_
      refine s_Width.body _ _ _ ?_
      unfold s_Width.sh
      refine r_cmpI ?_
      have rest : ∀ (w : Int), w = (if d = 0 then 32 else d) → stillN 3 (ptr b3 0) (.agg #[vi, vk, vc]) h ∧ s_Filled.call #[.int .i64 w, .int .i64 1, .agg #[vi, vk, vc]] h fun t28 h => br t28 true (fld 0 (ptr b2 0) fun t31 =>
          load1 t31 h fun t32 => loadN 3 (ptr b3 0) h fun t33 => s_NodeItems.call #[t33] h fun t34 h => still1 t31 t32 h ∧ s_Rising.call #[t32, t34] h fun t35 h => Q t35 h) (Q (.bool false) h) := fun w hw => by
        refine ⟨St.r_stillN0 s 0 (j := 0) (n := 3) rfl (by simp) rfl, ?_⟩
        refine s_Filled_ok t (ha'.fr s.fr) hb (by rw [hw]; split <;> omega) (by rw [hw]; split <;> omega) hvc fun E2 h s2 => ?_
        have s := (s.join s2).perm List.perm_append_comm
        rw [hw]
        refine r_br (fun e2 => ?_) (fun e2 => H false _ _ ⟨fun e => (by cases e), fun hv => ?_⟩ s)
        · refine r_fld ?_
          refine St.r_load0 s 1 rfl rfl ?_
          refine St.r_loadN0 s 0 rfl (by simp) ?_
          refine s_NodeItems_ok t (ha'.fr s.fr) hb hvc fun v E3 h s3 hv => ?_
          have hil := t.items_le
          have s := (s.join s3).perm List.perm_append_comm
          refine ⟨St.r_still0 s 1 rfl rfl, ?_⟩
          refine s_Rising_nil hv (by omega) fun bb E4 h hbb s4 => ?_
          refine H bb _ _ ⟨fun e => .inr ⟨e1, e2, hbb.1 e⟩, fun hv => ?_⟩ (s.join s4)
          rcases hv with hv | hv
          · exact absurd hv hne
          · exact hbb.2 hv.2.2
        · rcases hv with hv | hv
          · exact absurd hv hne
          · rw [hv.2.1] at e2; cases e2
      refine r_if (fun e => rest 32 (by have := eq_of_beq e; rw [if_pos this])) (fun e => ?_)
      unfold s_Width.j1
      exact rest d (by have : d ≠ 0 := by simpa using e
                       rw [if_neg this])
    · rcases hv with hv | hv
      · exact absurd hv hne
      · rw [hv.1] at e1; cases e1
  refine r_br (fun e => ?_) (fun e => main fun hh => ?_)
  · have e : t.1 = [] := List.length_eq_zero_iff.1 (by have := eq_of_beq e; omega)
    refine r_fld ?_
    refine St.r_load0 s 0 rfl rfl ?_
    refine (hrk.st s).lenV ?_
    refine r_cmpI ?_
    refine r_if (fun e2 => ?_) (fun e2 => main fun hh => ?_)
    · have e2 : t.2 = [] := List.length_eq_zero_iff.1 (by have := eq_of_beq e2; omega)
      exact H true _ _ ⟨fun _ => .inl ⟨e, e2⟩, fun _ => rfl⟩ s
    · rw [hh.2] at hcl
      simp at hcl
      rw [hcl] at e2
      simp at e2
  · rw [hh.1] at e
    simp at e

theorem l_validD_ok {k : Nat} (t : DT (k + 1)) {g : Heap} {vi vk vc : Value} {d : Int} {Q : Value → Heap → Prop} (ha : ArgD g t vi vk) (hb : t.bulk ≤ 1073741824) (hk : k ≤ 1099511627775) (hvc : one1 vc = true)
    (H : ∀ (b : Bool) E' h', (b = true ↔ 2 ≤ d ∧ d ≤ 128 ∧ validB d t) → St g [] E' h' → Q (.bool b) h') : l_validD.call #[.int .i64 d, .agg #[vi, vk, vc]] g Q := by
  refine l_validD.body _ _ _ _ ?_
  unfold l_validD.sh
  have s := St.start g
  refine St.r_box (cs := [vi, vk, vc]) s fun b3 h s => ?_
  refine l_fit_ok ?_
  refine r_br (fun e => ?_) (fun e => H false _ _ ⟨fun e => (by cases e), fun hv => ?_⟩ s)
  · have e : 2 ≤ d ∧ d ≤ 128 := of_decide_eq_true e
    ((apply r_build; ((simp only [fillV, fill1, Value.cells, zeros_succ, zeros_zero, List.size_toArray, List.length_cons, List.length_nil, List.length_append, List.take_succ_cons, List.take_zero, List.take_nil, List.drop_succ_cons, List.drop_zero, List.drop_nil, List.cons_append, List.nil_append, List.append_nil, Nat.reduceAdd, Nat.reduceMul, Nat.reduceLeDiff, Nat.reduceEqDiff, and_self, and_true, true_and, if_true, Nat.le_refl, Nat.zero_add, Nat.add_zero, Nat.zero_mul, reduceIte, if_false] <;> rfl))))
    refine St.r_loadN0 s 0 rfl (by simp) ?_
    refine s_Valid_ok t (ha.fr s.fr) hb hk (by omega) (by omega) hvc rfl fun b E' h hbb s2 => ?_
    exact H b _ _ ⟨fun e2 => ⟨e.1, e.2, hbb.1 e2⟩, fun hv => hbb.2 hv.2.2⟩ (s.join s2)
  · simp at e
    have := hv.2.1
    have := e hv.1
    omega
end Go.Proofs.Ytkkappjbcgnacaa
end
section
namespace Go.Proofs.Ytkkappjbcgnacaa
open Go.Hp
set_option linter.unusedVariables false
set_option linter.unusedSimpArgs false
variable {h0 h : Heap} {Z E : List Rg} {Q : Value → Heap → Prop}

theorem exists_list {α β : Type} {R : α → β → Prop} : ∀ (l : List α), (∀ a, a ∈ l → ∃ b, R a b) → ∃ l' : List β, l'.length = l.length ∧ ∀ i (h1 : i < l.length) (h2 : i < l'.length), R l[i] l'[i]
  | [], _ => ⟨[], rfl, fun i h1 => absurd h1 (Nat.not_lt_zero _)⟩
  | a :: r, h => by
    obtain ⟨b, hb⟩ := h a (List.mem_cons_self ..)
    obtain ⟨l', h1, h2⟩ := exists_list r fun x hx => h x (List.mem_cons_of_mem _ hx)
    refine ⟨b :: l', by simp [h1], fun i i1 i2 => ?_⟩
    cases i with
    | zero => exact hb
    | succ i => exact h2 i (by simpa using i1) (by simpa using i2)

theorem lv_pos : ∀ {k : Nat} (t : DT k), t.lv.2 = true → 1 ≤ t.lv.1
  | 0, e => e.elim
  | k + 1, t => by
    unfold DT.lv
    split
    · intro _; exact Nat.le_refl _
    · split
      · intro _; exact Nat.succ_le_succ (Nat.zero_le _)
      · intro h; cases h

/-- What a tree takes from a node as data. -/
structure Uni {k n : Nat} (t : DT k) (x : PT It n) : Prop where
  its : x.its = t.its
  items : x.items = t.items
  sh : ∀ m, t.bulk ≤ m → x.Sh m
  arg : ∀ h vi vk, ArgD h t vi vk → ArgT h x vi vk
  fl : ∀ d lo : Nat, 1 ≤ d → t.fl d lo = true → x.Fl (2 * d - 1) lo

theorem uni_of : ∀ {k : Nat} (t : DT k) (n : Nat), t.lv = (n + 1, true) → ∃ x : PT It n, Uni t x
  | 0, e, _, _ => e.elim
  | k + 1, t, n, h => by
    match ht : t.2 with
    | [] =>
      have hl : t.lv = (1, true) := by unfold DT.lv; rw [ht]
      rw [hl] at h
      have hn : n = 0 := by have := congrArg Prod.fst h; simp at this; omega
      subst hn
      refine ⟨t.1, rfl, ?_, fun m hm => ?_, fun h vi vk ⟨hr, cs, hcl, hrk, _⟩ => ⟨hr, ?_⟩, fun d lo h1 hf => ?_⟩
      · show t.1 = inter t.1 (t.2.map DT.items); rw [ht]; rfl
      · have := t.kids_le; show t.1.length ≤ m; omega
      · rw [ht] at hcl
        have hc0 : cs.length = 0 := hcl
        obtain ⟨a, cap, e, _⟩ := hrk
        rw [hc0] at e
        exact ⟨a, cap, e⟩
      · have : t.fl d lo = (decide ((lo : Int) ≤ t.1.length) && decide ((t.1.length : Int) ≤ 2 * d - 1) && t.2.all fun q => DT.fl d (d - 1) q) := rfl
        rw [this] at hf
        simp only [Bool.and_eq_true, decide_eq_true_eq] at hf
        show lo ≤ t.1.length ∧ t.1.length ≤ 2 * d - 1
        omega
    | q :: qs =>
      by_cases e : qs.length = t.1.length
      · have hl : t.lv = (q.lv.1 + 1, q.lv.2 && qs.all fun x => x.lv.2 && x.lv.1 == q.lv.1) := by
          conv => lhs; unfold DT.lv
          rw [ht]; simp only [if_pos e]
        rw [hl] at h
        have hn := congrArg Prod.fst h
        have hb := congrArg Prod.snd h
        simp only at hn hb
        have hq : q.lv.2 = true := by cases hh : q.lv.2 <;> simp_all
        have hp := lv_pos q hq
        obtain ⟨n, rfl⟩ : ∃ m, n = m + 1 := ⟨n - 1, by omega⟩
        have hall : ∀ x, x ∈ t.2 → x.lv = (n + 1, true) := fun x hx => by
          rw [ht] at hx
          rcases List.mem_cons.1 hx with rfl | hx
          · exact Prod.ext (by simp only; omega) hq
          · rw [hq, Bool.true_and, List.all_eq_true] at hb
            have := hb x hx
            simp only [Bool.and_eq_true, beq_iff_eq] at this
            exact Prod.ext (by simp only; omega) this.1
        obtain ⟨xs, hxl, hxs⟩ := exists_list t.2 fun x hx => uni_of x n (hall x hx)
        refine ⟨(t.1, xs), rfl, ?_, fun m hm => ?_, fun h vi vk ⟨hr, cs, hcl, hrk, hks⟩ => ⟨hr, ?_, cs, ?_, hrk, fun j h1 h2 => ?_⟩, fun d lo h1 hf => ?_⟩
        · show inter t.1 (xs.map PT.items) = inter t.1 (t.2.map DT.items)
          congr 1
          refine List.ext_getElem (by simp [hxl]) fun i h1 h2 => ?_
          simp only [List.getElem_map]
          exact (hxs i (by simpa using h2) (by simpa using h1)).items
        · have hk := t.kids_le
          refine ⟨by show t.1.length ≤ m; omega, by show xs.length = t.1.length + 1; rw [hxl, ht, List.length_cons, e], fun x hx => ?_⟩
          obtain ⟨i, hi, rfl⟩ := List.getElem_of_mem (show x ∈ xs from hx)
          have := t.kid_le (List.getElem_mem (show i < t.2.length by omega))
          exact (hxs i (by omega) hi).sh m (by omega)
        · show xs ≠ []
          intro hh
          rw [hh, ht] at hxl
          simp at hxl
        · show cs.length = xs.length
          rw [hxl]; exact hcl
        · have h1' : j < xs.length := h1
          exact (hxs j (by omega) h1').arg h _ _ (hks j (by omega) h2)
        · have : t.fl d lo = (decide ((lo : Int) ≤ t.1.length) && decide ((t.1.length : Int) ≤ 2 * d - 1) && t.2.all fun q => DT.fl d (d - 1) q) := rfl
          rw [this] at hf
          simp only [Bool.and_eq_true, decide_eq_true_eq, List.all_eq_true] at hf
          refine ⟨by show lo ≤ t.1.length; omega, by show t.1.length ≤ _; omega, by show xs.length = t.1.length + 1; rw [hxl, ht, List.length_cons, e], fun x hx => ?_⟩
          obtain ⟨i, hi, rfl⟩ := List.getElem_of_mem (show x ∈ xs from hx)
          have h3 := hf.2 _ (List.getElem_mem (show i < t.2.length by omega))
          have e4 : (2 * d - 1) / 2 = d - 1 := by omega
          rw [e4]
          refine (hxs i (by omega) hi).fl d (d - 1) h1 ?_
          rw [show ((d - 1 : Nat) : Int) = (d : Int) - 1 by omega]; exact h3
      · have hl : t.lv = (0, false) := by unfold DT.lv; rw [ht]; simp only [if_neg e]
        rw [hl] at h
        cases h

theorem i_standMap_empty {g : Heap} {d : Int} {a0 a1 : Option Addr} {c0 c1 : Nat} {vc : Value} (h1 : 2 ≤ d) (h2 : d ≤ 1073741824)
    (H : ∀ tb h', St g [] [(tb, 0, hdr 0 none none 0 (d - 1) (2 * d - 1))] h' → Q (ptr tb 0) h') : i_standMap.call #[I d, .agg #[.slice a0 0 c0, .slice a1 0 c1, vc]] g Q := by
  refine i_standMap.body _ _ _ _ ?_
  unfold i_standMap.sh
  have s := St.start g
  refine St.r_box (cs := [.slice a0 0 c0, .slice a1 0 c1, vc]) s fun t3 h s => ?_
  refine NewMap_ii_ok s h1 h2 fun tb h s => ?_
  refine r_fld ?_
  refine St.r_load0 s 1 rfl rfl ?_
  refine r_len ?_
  refine r_cmpI ?_
  refine r_br (fun _ => ?_) (fun e => absurd e (by decide))
  refine r_fld ?_
  refine St.r_load0 s 1 rfl rfl ?_
  refine r_len ?_
  refine r_cmpI ?_
  refine r_if (fun e => absurd e (by decide)) (fun _ => ?_)
  unfold i_standMap.j1
  exact H tb h (s.sub (by simp))

end Go.Proofs.Ytkkappjbcgnacaa
end
