/-
  Texts of this claim, laid together: S15 S16 S5 S6 Kz LBulk G0 Ga Gb Gc Ge Gf Gg Gq Gr Gs Gu Gv Gvh Ra.
  Conditions: as each of them tells.
-/
import Derived.Test.YtgnnidefbeoibaaRNRebalanceB2
import Derived.Test.YtgnnidefbeoibaaRows
import Derived.JoinedCond
section
namespace Go.Proofs.Ytgnnidefbeoibaa
open Go.Hp
set_option maxRecDepth 100000
set_option maxHeartbeats 8000000
set_option linter.unusedVariables false
set_option linter.unusedSimpArgs false

/-! ### spec.Rebalanced -/
def s_Rebalanced.j8 (s6 s13 : Value) (h : Heap) (Q : Value → Heap → Prop) : Prop := loadN 3 s13 h fun b=>s_WithCounts.call #[b] h fun d h=>storeN 3 s6 d h fun h=>loadN 3 s6 h fun g=>Q g h
def s_Rebalanced.j7 (s4 s6 s7 s13 s15 s16 : Value) (h : Heap) (Q : Value → Heap → Prop) : Prop := fld 1 s13 fun b=>load1 b h fun d=>fld 1 s4 fun g=>load1 g h fun i=>slc 3 i none (some s7) none fun j=>loadN 3 s15 h fun k=>loadN 3 s16 h fun l=>fld 1 s4 fun m=>load1 m h fun n=>arith (· + ·) s7 (.int .i64 2) fun o=>slc 3 n (some o) none none fun p=>(app 28 3 56 [(.slice none 0 0), (.slice none 0 0), (.int .i64 0)] d j h fun q h=>stillN 3 s15 k h ∧ stillN 3 s16 l h ∧ still1 m n h ∧ mkSl (if 2 * 3 = 0 then [] else zeros [(.slice none 0 0), (.slice none 0 0), (.int .i64 0)] 2) 2 [(0 * 3, 3, k), (1 * 3, 3, l)] 28 h fun u h=>still1 m n h ∧ app 28 3 56 [(.slice none 0 0), (.slice none 0 0), (.int .i64 0)] q u h fun v h=>still1 m n h ∧ app 28 3 56 [(.slice none 0 0), (.slice none 0 0), (.int .i64 0)] v p h fun w h=>fld 1 s13 fun x=>store1 x w h fun h=>s_Rebalanced.j8 s6 s13 h Q) ∧ (mkSl (if 2 * 3 = 0 then [] else zeros [(.slice none 0 0), (.slice none 0 0), (.int .i64 0)] 2) 2 [(0 * 3, 3, k), (1 * 3, 3, l)] 28 h fun y h=>still1 b d h ∧ still1 g i h ∧ still1 m n h ∧ app 28 3 56 [(.slice none 0 0), (.slice none 0 0), (.int .i64 0)] d j h fun z h=>still1 m n h ∧ app 28 3 56 [(.slice none 0 0), (.slice none 0 0), (.int .i64 0)] z y h fun b0 h=>still1 m n h ∧ app 28 3 56 [(.slice none 0 0), (.slice none 0 0), (.int .i64 0)] b0 p h fun b1 h=>fld 1 s13 fun b2=>store1 b2 b1 h fun h=>s_Rebalanced.j8 s6 s13 h Q)
def s_Rebalanced.j6 (s4 s6 s7 s11 s13 s14 s15 s16 : Value) (h : Heap) (Q : Value → Heap → Prop) : Prop := fld 0 s13 fun b=>load1 b h fun d=>fld 0 s4 fun g=>load1 g h fun i=>slc 2 i none (some s7) none fun j=>idx 2 s11 s14 fun k=>loadN 2 k h fun l=>fld 0 s4 fun m=>load1 m h fun n=>arith (· + ·) s7 (.int .i64 1) fun o=>slc 2 n (some o) none none fun p=>(app 52 2 16 [(.int .i64 0), (.int .i64 0)] d j h fun q h=>stillN 2 k l h ∧ still1 m n h ∧ mkSl (if 1 * 2 = 0 then [] else zeros [(.int .i64 0), (.int .i64 0)] 1) 1 [(0 * 2, 2, l)] 52 h fun u h=>still1 m n h ∧ app 52 2 16 [(.int .i64 0), (.int .i64 0)] q u h fun v h=>still1 m n h ∧ app 52 2 16 [(.int .i64 0), (.int .i64 0)] v p h fun w h=>fld 0 s13 fun x=>store1 x w h fun h=>s_Rebalanced.j7 s4 s6 s7 s13 s15 s16 h Q) ∧ (mkSl (if 1 * 2 = 0 then [] else zeros [(.int .i64 0), (.int .i64 0)] 1) 1 [(0 * 2, 2, l)] 52 h fun y h=>still1 b d h ∧ still1 g i h ∧ still1 m n h ∧ app 52 2 16 [(.int .i64 0), (.int .i64 0)] d j h fun z h=>still1 m n h ∧ app 52 2 16 [(.int .i64 0), (.int .i64 0)] z y h fun b0 h=>still1 m n h ∧ app 52 2 16 [(.int .i64 0), (.int .i64 0)] b0 p h fun b1 h=>fld 0 s13 fun b2=>store1 b2 b1 h fun h=>s_Rebalanced.j7 s4 s6 s7 s13 s15 s16 h Q)
def s_Rebalanced.j5 (s4 s6 s7 s11 s12 s13 s14 s15 s16 : Value) (h : Heap) (Q : Value → Heap → Prop) : Prop := lenV s12 fun b=>cmpI (fun a b=>decide (a > b)) b (.int .i64 0) fun d=>ifV d (arith (· + ·) s14 (.int .i64 1) fun g=>slc 3 s12 none (some g) none fun i=>arith (· + ·) s14 (.int .i64 1) fun j=>slc 3 s12 (some j) none none fun k=>fld 1 s15 fun l=>store1 l i h fun h=>fld 1 s16 fun m=>store1 m k h fun h=>s_Rebalanced.j6 s4 s6 s7 s11 s13 s14 s15 s16 h Q) (s_Rebalanced.j6 s4 s6 s7 s11 s13 s14 s15 s16 h Q)
def s_Rebalanced.j4 (s4 s6 s7 s11 s12 s13 s14 : Value) (h : Heap) (Q : Value → Heap → Prop) : Prop := slc 2 s11 none (some s14) none fun b=>buildV [(.slice none 0 0), (.slice none 0 0), (.int .i64 0)] [(0, 1, b)] fun d=>arith (· + ·) s14 (.int .i64 1) fun g=>slc 2 s11 (some g) none none fun i=>buildV [(.slice none 0 0), (.slice none 0 0), (.int .i64 0)] [(0, 1, i)] fun j=>(alloc [(.slice none 0 0), (.slice none 0 0), (.int .i64 0)] 28 h fun k h=>alloc [(.slice none 0 0), (.slice none 0 0), (.int .i64 0)] 28 h fun l h=>storeN 3 k d h fun h=>storeN 3 l j h fun h=>s_Rebalanced.j5 s4 s6 s7 s11 s12 s13 s14 k l h Q) ∧ (alloc [(.slice none 0 0), (.slice none 0 0), (.int .i64 0)] 28 h fun m h=>alloc [(.slice none 0 0), (.slice none 0 0), (.int .i64 0)] 28 h fun n h=>storeN 3 n d h fun h=>storeN 3 m j h fun h=>s_Rebalanced.j5 s4 s6 s7 s11 s12 s13 s14 n m h Q)
def s_Rebalanced.j3 (s4 s6 s7 s8 s9 s11 s12 s13 : Value) (h : Heap) (Q : Value → Heap → Prop) : Prop := fld 0 s8 fun b=>load1 b h fun d=>lenV d fun g=>arith (· + ·) g (.int .i64 1) fun i=>fld 0 s8 fun j=>load1 j h fun k=>lenV k fun l=>fld 0 s9 fun m=>load1 m h fun n=>lenV n fun o=>cmpI (fun a b=>decide (a > b)) l o fun p=>ifV p (fld 0 s8 fun q=>load1 q h fun u=>lenV u fun v=>arith (· - ·) v (.int .i64 1) fun w=>s_Rebalanced.j4 s4 s6 s7 s11 s12 s13 w h Q) (s_Rebalanced.j4 s4 s6 s7 s11 s12 s13 i h Q)
def s_Rebalanced.j9 (s4 s6 s7 s13 : Value) (h : Heap) (Q : Value → Heap → Prop) : Prop := fld 1 s13 fun b=>load1 b h fun d=>fld 1 s4 fun g=>load1 g h fun i=>arith (· + ·) s7 (.int .i64 2) fun j=>slc 3 i (some j) none none fun k=>app 28 3 56 [(.slice none 0 0), (.slice none 0 0), (.int .i64 0)] d k h fun l h=>fld 1 s13 fun m=>store1 m l h fun h=>loadN 3 s13 h fun n=>s_WithCounts.call #[n] h fun o h=>storeN 3 s6 o h fun h=>loadN 3 s6 h fun p=>Q p h
def s_Rebalanced.j2 (s0 s4 s6 s7 s8 s9 s11 : Value) (h : Heap) (Q : Value → Heap → Prop) : Prop := fld 1 s8 fun b=>load1 b h fun d=>fld 1 s9 fun g=>load1 g h fun i=>mkSl (if 0 * 3 = 0 then [] else zeros [(.slice none 0 0), (.slice none 0 0), (.int .i64 0)] 0) 0 [] 28 h fun j h=>still1 b d h ∧ still1 g i h ∧ app 28 3 56 [(.slice none 0 0), (.slice none 0 0), (.int .i64 0)] j d h fun k h=>still1 g i h ∧ app 28 3 56 [(.slice none 0 0), (.slice none 0 0), (.int .i64 0)] k i h fun l h=>buildV [(.slice none 0 0), (.slice none 0 0), (.int .i64 0)] [] fun m=>alloc [(.slice none 0 0), (.slice none 0 0), (.int .i64 0)] 28 h fun n h=>storeN 3 n m h fun h=>fld 0 s8 fun o=>load1 o h fun p=>lenV p fun q=>fld 0 s9 fun u=>load1 u h fun v=>lenV v fun w=>arith (· + ·) q w fun x=>arith (· * ·) (.int .i64 2) s0 fun y=>arith (· - ·) y (.int .i64 1) fun z=>cmpI (fun a b=>decide (a < b)) x z fun b0=>ifV b0 (fld 0 n fun b1=>load1 b1 h fun b2=>fld 0 s4 fun b3=>load1 b3 h fun b4=>slc 2 b4 none (some s7) none fun b5=>fld 0 s4 fun b6=>load1 b6 h fun b7=>arith (· + ·) s7 (.int .i64 1) fun b8=>slc 2 b7 (some b8) none none fun b9=>app 52 2 16 [(.int .i64 0), (.int .i64 0)] b2 b5 h fun d0 h=>still1 b6 b7 h ∧ app 52 2 16 [(.int .i64 0), (.int .i64 0)] d0 b9 h fun d1 h=>fld 0 n fun d2=>store1 d2 d1 h fun h=>fld 1 n fun d3=>load1 d3 h fun d4=>fld 1 s4 fun d5=>load1 d5 h fun d6=>slc 3 d6 none (some s7) none fun d7=>buildV [(.slice none 0 0), (.slice none 0 0), (.int .i64 0)] [(0, 1, s11), (1, 1, l)] fun d8=>(app 28 3 56 [(.slice none 0 0), (.slice none 0 0), (.int .i64 0)] d4 d7 h fun d9 h=>mkSl (if 1 * 3 = 0 then [] else zeros [(.slice none 0 0), (.slice none 0 0), (.int .i64 0)] 1) 1 [(0 * 3, 3, d8)] 28 h fun g0 h=>app 28 3 56 [(.slice none 0 0), (.slice none 0 0), (.int .i64 0)] d9 g0 h fun g1 h=>fld 1 n fun g2=>store1 g2 g1 h fun h=>s_Rebalanced.j9 s4 s6 s7 n h Q) ∧ (mkSl (if 1 * 3 = 0 then [] else zeros [(.slice none 0 0), (.slice none 0 0), (.int .i64 0)] 1) 1 [(0 * 3, 3, d8)] 28 h fun g3 h=>still1 d3 d4 h ∧ still1 d5 d6 h ∧ app 28 3 56 [(.slice none 0 0), (.slice none 0 0), (.int .i64 0)] d4 d7 h fun g4 h=>app 28 3 56 [(.slice none 0 0), (.slice none 0 0), (.int .i64 0)] g4 g3 h fun g5 h=>fld 1 n fun g6=>store1 g6 g5 h fun h=>s_Rebalanced.j9 s4 s6 s7 n h Q)) (s_Rebalanced.j3 s4 s6 s7 s8 s9 s11 l n h Q)
def s_Rebalanced.j1 (s0 s4 s6 s7 s8 s9 s10 : Value) (h : Heap) (Q : Value → Heap → Prop) : Prop := fld 0 s8 fun b=>load1 b h fun d=>loadN 2 s10 h fun g=>fld 0 s9 fun i=>load1 i h fun j=>(mkSl (if 0 * 2 = 0 then [] else zeros [(.int .i64 0), (.int .i64 0)] 0) 0 [] 52 h fun k h=>still1 b d h ∧ stillN 2 s10 g h ∧ still1 i j h ∧ (app 52 2 16 [(.int .i64 0), (.int .i64 0)] k d h fun l h=>stillN 2 s10 g h ∧ still1 i j h ∧ mkSl (if 1 * 2 = 0 then [] else zeros [(.int .i64 0), (.int .i64 0)] 1) 1 [(0 * 2, 2, g)] 52 h fun m h=>still1 i j h ∧ app 52 2 16 [(.int .i64 0), (.int .i64 0)] l m h fun n h=>still1 i j h ∧ app 52 2 16 [(.int .i64 0), (.int .i64 0)] n j h fun o h=>s_Rebalanced.j2 s0 s4 s6 s7 s8 s9 o h Q) ∧ (mkSl (if 1 * 2 = 0 then [] else zeros [(.int .i64 0), (.int .i64 0)] 1) 1 [(0 * 2, 2, g)] 52 h fun p h=>still1 b d h ∧ still1 i j h ∧ app 52 2 16 [(.int .i64 0), (.int .i64 0)] k d h fun q h=>still1 i j h ∧ app 52 2 16 [(.int .i64 0), (.int .i64 0)] q p h fun u h=>still1 i j h ∧ app 52 2 16 [(.int .i64 0), (.int .i64 0)] u j h fun v h=>s_Rebalanced.j2 s0 s4 s6 s7 s8 s9 v h Q)) ∧ (mkSl (if 1 * 2 = 0 then [] else zeros [(.int .i64 0), (.int .i64 0)] 1) 1 [(0 * 2, 2, g)] 52 h fun w h=>still1 b d h ∧ still1 i j h ∧ mkSl (if 0 * 2 = 0 then [] else zeros [(.int .i64 0), (.int .i64 0)] 0) 0 [] 52 h fun x h=>still1 b d h ∧ still1 i j h ∧ app 52 2 16 [(.int .i64 0), (.int .i64 0)] x d h fun y h=>still1 i j h ∧ app 52 2 16 [(.int .i64 0), (.int .i64 0)] y w h fun z h=>still1 i j h ∧ app 52 2 16 [(.int .i64 0), (.int .i64 0)] z j h fun b0 h=>s_Rebalanced.j2 s0 s4 s6 s7 s8 s9 b0 h Q)
def s_Rebalanced.sh (a0 a1 a2 : Value) (h : Heap) (Q : Value → Heap → Prop) : Prop := box 28 a1 h fun b h=>alloc [(.slice none 0 0), (.slice none 0 0), (.int .i64 0)] 28 h fun d h=>fld 0 b fun g=>load1 g h fun i=>lenV i fun j=>arith (· - ·) j (.int .i64 1) fun k=>min2V a2 k fun l=>fld 1 b fun m=>load1 m h fun n=>idx 3 n l fun o=>loadN 3 o h fun p=>fld 1 b fun q=>load1 q h fun u=>arith (· + ·) l (.int .i64 1) fun v=>idx 3 u v fun w=>loadN 3 w h fun x=>fld 0 b fun y=>load1 y h fun z=>idx 2 z l fun b0=>loadN 2 b0 h fun b1=>(alloc [(.slice none 0 0), (.slice none 0 0), (.int .i64 0)] 28 h fun b2 h=>still1 m n h ∧ stillN 3 o p h ∧ still1 q u h ∧ stillN 3 w x h ∧ still1 y z h ∧ stillN 2 b0 b1 h ∧ (alloc [(.slice none 0 0), (.slice none 0 0), (.int .i64 0)] 28 h fun b3 h=>still1 m n h ∧ stillN 3 o p h ∧ still1 q u h ∧ stillN 3 w x h ∧ still1 y z h ∧ stillN 2 b0 b1 h ∧ alloc [(.int .i64 0), (.int .i64 0)] 52 h fun b4 h=>still1 m n h ∧ stillN 3 o p h ∧ still1 q u h ∧ stillN 3 w x h ∧ still1 y z h ∧ stillN 2 b0 b1 h ∧ storeN 3 b2 p h fun h=>still1 q u h ∧ stillN 3 w x h ∧ still1 y z h ∧ stillN 2 b0 b1 h ∧ storeN 3 b3 x h fun h=>still1 y z h ∧ stillN 2 b0 b1 h ∧ storeN 2 b4 b1 h fun h=>s_Rebalanced.j1 a0 b d l b2 b3 b4 h Q) ∧ (alloc [(.int .i64 0), (.int .i64 0)] 52 h fun b5 h=>still1 m n h ∧ stillN 3 o p h ∧ still1 q u h ∧ stillN 3 w x h ∧ still1 y z h ∧ stillN 2 b0 b1 h ∧ alloc [(.slice none 0 0), (.slice none 0 0), (.int .i64 0)] 28 h fun b6 h=>still1 m n h ∧ stillN 3 o p h ∧ still1 q u h ∧ stillN 3 w x h ∧ still1 y z h ∧ stillN 2 b0 b1 h ∧ storeN 3 b2 p h fun h=>still1 q u h ∧ stillN 3 w x h ∧ still1 y z h ∧ stillN 2 b0 b1 h ∧ storeN 3 b6 x h fun h=>still1 y z h ∧ stillN 2 b0 b1 h ∧ storeN 2 b5 b1 h fun h=>s_Rebalanced.j1 a0 b d l b2 b6 b5 h Q)) ∧ (alloc [(.slice none 0 0), (.slice none 0 0), (.int .i64 0)] 28 h fun b7 h=>still1 m n h ∧ stillN 3 o p h ∧ still1 q u h ∧ stillN 3 w x h ∧ still1 y z h ∧ stillN 2 b0 b1 h ∧ (alloc [(.slice none 0 0), (.slice none 0 0), (.int .i64 0)] 28 h fun b8 h=>still1 m n h ∧ stillN 3 o p h ∧ still1 q u h ∧ stillN 3 w x h ∧ still1 y z h ∧ stillN 2 b0 b1 h ∧ alloc [(.int .i64 0), (.int .i64 0)] 52 h fun b9 h=>still1 m n h ∧ stillN 3 o p h ∧ still1 q u h ∧ stillN 3 w x h ∧ still1 y z h ∧ stillN 2 b0 b1 h ∧ storeN 3 b8 p h fun h=>still1 q u h ∧ stillN 3 w x h ∧ still1 y z h ∧ stillN 2 b0 b1 h ∧ storeN 3 b7 x h fun h=>still1 y z h ∧ stillN 2 b0 b1 h ∧ storeN 2 b9 b1 h fun h=>s_Rebalanced.j1 a0 b d l b8 b7 b9 h Q) ∧ (alloc [(.int .i64 0), (.int .i64 0)] 52 h fun d0 h=>still1 m n h ∧ stillN 3 o p h ∧ still1 q u h ∧ stillN 3 w x h ∧ still1 y z h ∧ stillN 2 b0 b1 h ∧ alloc [(.slice none 0 0), (.slice none 0 0), (.int .i64 0)] 28 h fun d1 h=>still1 m n h ∧ stillN 3 o p h ∧ still1 q u h ∧ stillN 3 w x h ∧ still1 y z h ∧ stillN 2 b0 b1 h ∧ storeN 3 d1 p h fun h=>still1 q u h ∧ stillN 3 w x h ∧ still1 y z h ∧ stillN 2 b0 b1 h ∧ storeN 3 b7 x h fun h=>still1 y z h ∧ stillN 2 b0 b1 h ∧ storeN 2 d0 b1 h fun h=>s_Rebalanced.j1 a0 b d l d1 b7 d0 h Q)) ∧ (alloc [(.int .i64 0), (.int .i64 0)] 52 h fun d2 h=>still1 m n h ∧ stillN 3 o p h ∧ still1 q u h ∧ stillN 3 w x h ∧ still1 y z h ∧ stillN 2 b0 b1 h ∧ (alloc [(.slice none 0 0), (.slice none 0 0), (.int .i64 0)] 28 h fun d3 h=>still1 m n h ∧ stillN 3 o p h ∧ still1 q u h ∧ stillN 3 w x h ∧ still1 y z h ∧ stillN 2 b0 b1 h ∧ alloc [(.slice none 0 0), (.slice none 0 0), (.int .i64 0)] 28 h fun d4 h=>still1 m n h ∧ stillN 3 o p h ∧ still1 q u h ∧ stillN 3 w x h ∧ still1 y z h ∧ stillN 2 b0 b1 h ∧ storeN 3 d3 p h fun h=>still1 q u h ∧ stillN 3 w x h ∧ still1 y z h ∧ stillN 2 b0 b1 h ∧ storeN 3 d4 x h fun h=>still1 y z h ∧ stillN 2 b0 b1 h ∧ storeN 2 d2 b1 h fun h=>s_Rebalanced.j1 a0 b d l d3 d4 d2 h Q) ∧ (alloc [(.slice none 0 0), (.slice none 0 0), (.int .i64 0)] 28 h fun d5 h=>still1 m n h ∧ stillN 3 o p h ∧ still1 q u h ∧ stillN 3 w x h ∧ still1 y z h ∧ stillN 2 b0 b1 h ∧ alloc [(.slice none 0 0), (.slice none 0 0), (.int .i64 0)] 28 h fun d6 h=>still1 m n h ∧ stillN 3 o p h ∧ still1 q u h ∧ stillN 3 w x h ∧ still1 y z h ∧ stillN 2 b0 b1 h ∧ storeN 3 d6 p h fun h=>still1 q u h ∧ stillN 3 w x h ∧ still1 y z h ∧ stillN 2 b0 b1 h ∧ storeN 3 d5 x h fun h=>still1 y z h ∧ stillN 2 b0 b1 h ∧ storeN 2 d2 b1 h fun h=>s_Rebalanced.j1 a0 b d l d6 d5 d2 h Q))
theorem s_Rebalanced.body (a0 a1 a2 : Value) (h : Heap) (Q : Value → Heap → Prop) (H : s_Rebalanced.sh a0 a1 a2 h Q) : s_Rebalanced.call #[a0, a1, a2] h Q := by
  refine callsH_of (args := [a0, a1, a2]) Try.func22 rfl rfl ?_
  unfold s_Rebalanced.sh at H
  refine sR <| vl_n <| H_box H fun _ h H => vl_n <| H_alloc TV_28 H fun _ h H => vl_e <| sR <| nM a2 rfl <| nP (R_fld TF_28_0) H fun _ H => nL T1_25 H fun _ H => nP (R_len Try.underlying25) H fun _ H => nP R_sub H fun _ H => nP R_min H fun t22 H => nS t22 rfl <| vl_e ?_
  refine WPc_seq (fun e h => s_Rebalanced.j1 (e 0) (e 4) (e 6) (e 7) (e 8) (e 9) (e 10) h Q) ?_ (fun e h H => ?_)
  rotate_left
  · unfold s_Rebalanced.j1 at H
    refine WPc_seq (fun e h => s_Rebalanced.j2 (e 0) (e 4) (e 6) (e 7) (e 8) (e 9) (e 11) h Q) ?_ (fun e h H => ?_)
    rotate_left
    · unfold s_Rebalanced.j2 at H
      refine WPc_seq' <| W_drawn [0, 0, 2, 7, 0, 16, 63, 127] (.take 1 (.take 2 (.take 4 (.take 5 (.alt 0 (.alt 3 (.alt 6 (.take 7 .done) .none) .none) .none))))) mixed (by kernel_rfl) <| pP rfl (R_fld TF_28_1) H fun _ H => pL rfl T1_26 H fun _ _ hat51 H => pP rfl (R_fld TF_28_1) H fun _ H => pL rfl T1_26 H fun _ _ hat54 H => aE rfl <| H_mkSl TZ_26 (by decide) rfl H rfl fun _ h ⟨S, S_2, H⟩ => ⟨(hcons rfl (still_1 S_2 hat54) (hcons rfl (still_1 S hat51) hnil)), aE rfl <| H_app TZ_26 TU_26 H fun _ h ⟨S_3, H⟩ => ⟨(hcons rfl (still_1 S_3 hat54) (hskip rfl hnil)), aE rfl <| H_app TZ_26 TU_26 H fun t55 h H => ⟨(hskip rfl hnil), pS t55 rfl rfl <| vp_done <| sR <| nP (R_build TB_28 rfl (by decide)) H fun _ H => vl_n <| H_alloc TV_28 H fun _ h H => ?_⟩⟩⟩
      refine vl_n <| H_storeN TS_28 H fun h H => vl_e ?_
      refine WPc_seq (fun e h => s_Rebalanced.j3 (e 4) (e 6) (e 7) (e 8) (e 9) (e 11) (e 12) (e 13) h Q) ?_ (fun e h H => ?_)
      rotate_left
      · unfold s_Rebalanced.j3 at H
        refine sR <| nP (R_fld TF_28_0) H fun _ H => nL T1_25 H fun _ H => nP (R_len Try.underlying25) H fun _ H => nP R_add H fun t109 H => nS t109 rfl <| vl_e ?_
        refine WPc_seq (fun e h => s_Rebalanced.j4 (e 4) (e 6) (e 7) (e 11) (e 12) (e 13) (e 14) h Q) ?_ (fun e h H => ?_)
        rotate_left
        · unfold s_Rebalanced.j4 at H
          refine WPc_seq (fun e h => s_Rebalanced.j5 (e 4) (e 6) (e 7) (e 11) (e 12) (e 13) (e 14) (e 15) (e 16) h Q) ?_ (fun e h H => ?_)
          rotate_left
          · unfold s_Rebalanced.j5 at H
            refine WPc_seq (fun e h => s_Rebalanced.j6 (e 4) (e 6) (e 7) (e 11) (e 13) (e 14) (e 15) (e 16) h Q) ?_ (fun e h H => ?_)
            rotate_left
            · unfold s_Rebalanced.j6 at H
              refine WPc_seq (fun e h => s_Rebalanced.j7 (e 4) (e 6) (e 7) (e 13) (e 15) (e 16) h Q) ?_ (fun e h H => ?_)
              rotate_left
              · unfold s_Rebalanced.j7 at H
                refine WPc_seq (fun e h => s_Rebalanced.j8 (e 6) (e 13) h Q) ?_ (fun e h H => ?_)
                rotate_left
                · unfold s_Rebalanced.j8 at H
                  exact sR <| nLN TN_28 H fun _ H => vl_n <| H_call HB_49 H fun _ h H => vl_n <| H_storeN TS_28 H fun h H => vl_e <| WPc_ret <| resH_of rfl <| resL_N TN_28 <| loadN_imp H fun r6 H => H
                refine W_drawn [0, 1, 0, 4, 0, 28, 63, 0, 0, 384, 1023, 0, 2048, 0, 8192, 30720, 65535, 131071, 262143] (.take 0 (.take 1 (.take 2 (.take 3 (.take 4 (.take 5 (.take 7 (.take 8 (.take 11 (.take 12 (.take 13 (.take 14 (.take 15 (.alt 6 (.alt 9 (.alt 10 (.alt 16 (.take 17 (.alt 18 .done .none)) .none) .none) .none) (.alt 9 (.alt 6 (.alt 10 (.alt 16 (.take 17 (.alt 18 .done .none)) .none) .none) .none) .none))))))))))))))) mixed (by kernel_rfl) <| pP rfl (R_fld TF_28_1) H fun _ H => pL rfl T1_26 H fun _ _ hat164 H => pP rfl (R_fld TF_28_1) H fun _ H => pL rfl T1_26 H fun _ _ hat166 H => pM (e 7) rfl rfl <| pP rfl (R_slice TE_26 (by decide)) H fun _ H => tkL rfl <| R_loadN TN_28 H fun _ _ hat170 _ H _ hSt170 => tkL rfl <| R_loadN TN_28 H fun _ _ hat171 _ H _ hSt171 => pP rfl (R_fld TF_28_1) H fun _ H => pL rfl T1_26 H fun _ _ hat175 H => pM (e 7) rfl rfl <| pP rfl R_add H fun _ H => pP rfl (R_slice TE_26 (by decide)) H fun _ H => ?_
                obtain ⟨HA0, HA1⟩ := H
                refine alt_n rfl ?_ ?_
                · have H := HA0
                  clear HA0 HA1
                  refine H_app TZ_26 TU_26 H fun _ h ⟨S, S_2, S_3, H⟩ => ⟨(hcons rfl (still_1 S_3 hat175) (hcons rfl (hSt171 _ (still_N S_2 hat171 rfl)) (hcons rfl (hSt170 _ (still_N S hat170 rfl)) (hskip rfl (hskip rfl hnil))))), ?_⟩
                  exact aE rfl <| H_mkSl TZ_26 (by decide) rfl H rfl fun _ h ⟨S_4, H⟩ => ⟨(hcons rfl (still_1 S_4 hat175) (hskip rfl (hskip rfl hnil))), aE rfl <| H_app TZ_26 TU_26 H fun _ h ⟨S_5, H⟩ => ⟨(hcons rfl (still_1 S_5 hat175) hnil), aE rfl <| H_app TZ_26 TU_26 H fun _ h H => ⟨(hskip rfl hnil), pP rfl (R_fld TF_28_1) H fun _ H => aE rfl <| H_store1 TS_26 H fun h H => ⟨hnil, vp_done <| H⟩⟩⟩⟩
                refine alt_n rfl ?_ vp_none
                have H := HA1
                clear HA0 HA1
                refine H_mkSl TZ_26 (by decide) rfl H rfl fun _ h ⟨S_6, S_7, S_8, H⟩ => ⟨(hcons rfl (still_1 S_8 hat175) (hskip rfl (hskip rfl (hcons rfl (still_1 S_7 hat166) (hcons rfl (still_1 S_6 hat164) hnil))))), ?_⟩
                exact aE rfl <| H_app TZ_26 TU_26 H fun _ h ⟨S_9, H⟩ => ⟨(hcons rfl (still_1 S_9 hat175) (hskip rfl (hskip rfl hnil))), aE rfl <| H_app TZ_26 TU_26 H fun _ h ⟨S_10, H⟩ => ⟨(hcons rfl (still_1 S_10 hat175) hnil), aE rfl <| H_app TZ_26 TU_26 H fun _ h H => ⟨(hskip rfl hnil), pP rfl (R_fld TF_28_1) H fun _ H => aE rfl <| H_store1 TS_26 H fun h H => ⟨hnil, vp_done <| H⟩⟩⟩⟩
              refine W_drawn [0, 1, 0, 4, 0, 28, 63, 0, 0, 384, 896, 1920, 4095, 0, 8192, 0, 32768, 122880, 262143, 524287, 1048575] (.take 0 (.take 1 (.take 2 (.take 3 (.take 4 (.take 5 (.take 7 (.take 8 (.take 9 (.take 10 (.take 13 (.take 14 (.take 15 (.take 16 (.take 17 (.alt 6 (.alt 11 (.alt 12 (.alt 18 (.take 19 (.alt 20 .done .none)) .none) .none) .none) (.alt 11 (.alt 6 (.alt 12 (.alt 18 (.take 19 (.alt 20 .done .none)) .none) .none) .none) .none))))))))))))))))) mixed (by kernel_rfl) <| pP rfl (R_fld TF_28_0) H fun _ H => pL rfl T1_25 H fun _ _ hat144 H => pP rfl (R_fld TF_28_0) H fun _ H => pL rfl T1_25 H fun _ _ hat146 H => pM (e 7) rfl rfl <| pP rfl (R_slice TE_25 (by decide)) H fun _ H => pM (e 11) rfl rfl <| pM (e 14) rfl rfl <| pP rfl (R_idx TE_25) H fun _ H => tkL rfl <| R_loadN TN_52 H fun _ _ hat153 _ H _ hSt153 => pP rfl (R_fld TF_28_0) H fun _ H => pL rfl T1_25 H fun _ _ hat157 H => pM (e 7) rfl rfl ?_
              refine pP rfl R_add H fun _ H => pP rfl (R_slice TE_25 (by decide)) H fun _ H => ?_
              obtain ⟨HA0, HA1⟩ := H
              refine alt_n rfl ?_ ?_
              · have H := HA0
                clear HA0 HA1
                refine H_app TZ_25 TU_25 H fun _ h ⟨S, S_2, H⟩ => ⟨(hcons rfl (still_1 S_2 hat157) (hcons rfl (hSt153 _ (still_N S hat153 rfl)) (hskip rfl (hskip rfl hnil)))), ?_⟩
                exact aE rfl <| H_mkSl TZ_25 (by decide) rfl H rfl fun _ h ⟨S_3, H⟩ => ⟨(hcons rfl (still_1 S_3 hat157) (hskip rfl hnil)), aE rfl <| H_app TZ_25 TU_25 H fun _ h ⟨S_4, H⟩ => ⟨(hcons rfl (still_1 S_4 hat157) hnil), aE rfl <| H_app TZ_25 TU_25 H fun _ h H => ⟨(hskip rfl hnil), pP rfl (R_fld TF_28_0) H fun _ H => aE rfl <| H_store1 TS_25 H fun h H => ⟨hnil, vp_done <| H⟩⟩⟩⟩
              refine alt_n rfl ?_ vp_none
              have H := HA1
              clear HA0 HA1
              refine H_mkSl TZ_25 (by decide) rfl H rfl fun _ h ⟨S_5, S_6, S_7, H⟩ => ⟨(hcons rfl (still_1 S_7 hat157) (hskip rfl (hcons rfl (still_1 S_6 hat146) (hcons rfl (still_1 S_5 hat144) hnil)))), ?_⟩
              exact aE rfl <| H_app TZ_25 TU_25 H fun _ h ⟨S_8, H⟩ => ⟨(hcons rfl (still_1 S_8 hat157) (hskip rfl (hskip rfl hnil))), aE rfl <| H_app TZ_25 TU_25 H fun _ h ⟨S_9, H⟩ => ⟨(hcons rfl (still_1 S_9 hat157) hnil), aE rfl <| H_app TZ_25 TU_25 H fun _ h H => ⟨(hskip rfl hnil), pP rfl (R_fld TF_28_0) H fun _ H => aE rfl <| H_store1 TS_25 H fun h H => ⟨hnil, vp_done <| H⟩⟩⟩⟩
            refine sR <| nM (e 12) rfl <| nP (R_len Try.underlying26) H fun _ H => nP R_gtr H fun _ H => vl_e ?_
            refine cI H (fun H => ?_) fun H => ?_
            · exact W_drawn [0, 0, 2, 7, 0, 0, 32, 112, 15, 271, 1023, 2047] (.take 0 (.take 1 (.take 2 (.take 3 (.take 4 (.take 5 (.take 6 (.take 7 (.take 8 (.alt 9 (.take 10 (.alt 11 .done .none)) .none)))))))))) mixed (by kernel_rfl) <| pM (e 12) rfl rfl <| pM (e 14) rfl rfl <| pP rfl R_add H fun _ H => pP rfl (R_slice TE_26 (by decide)) H fun _ H => pM (e 12) rfl rfl <| pM (e 14) rfl rfl <| pP rfl R_add H fun _ H => pP rfl (R_slice TE_26 (by decide)) H fun _ H => pP rfl (R_fld TF_28_1) H fun _ H => aE rfl <| H_store1 TS_26 H fun h H => ⟨hnil, pP rfl (R_fld TF_28_1) H fun _ H => aE rfl <| H_store1 TS_26 H fun h H => ⟨hnil, vp_done <| H⟩⟩
            · exact WPc_skip <| H
          refine W_drawn [0, 0, 3, 7, 0, 0, 32, 112, 240, 0, 0, 1551, 4095] (.take 0 (.take 1 (.take 2 (.take 3 (.take 4 (.take 5 (.take 6 (.take 7 (.take 8 (.alt 9 (.alt 10 (.alt 11 (.alt 12 .done .none) .none) .none) (.alt 10 (.alt 9 (.alt 11 (.alt 12 .done .none) .none) .none) .none))))))))))) mixed (by kernel_rfl) <| pM (e 11) rfl rfl <| pM (e 14) rfl rfl <| pP rfl (R_slice TE_25 (by decide)) H fun _ H => pP rfl (R_build TB_28 rfl (by decide)) H fun _ H => pM (e 11) rfl rfl <| pM (e 14) rfl rfl <| pP rfl R_add H fun _ H => pP rfl (R_slice TE_25 (by decide)) H fun _ H => pP rfl (R_build TB_28 rfl (by decide)) H fun _ H => ?_
          obtain ⟨HA0, HA1⟩ := H
          refine alt_n rfl ?_ ?_
          · have H := HA0
            clear HA0 HA1
            refine H_alloc TV_28 H fun _ h H => ⟨hnil, ?_⟩
            exact aE rfl <| H_alloc TV_28 H fun _ h H => ⟨hnil, aE rfl <| H_storeN TS_28 H fun h H => ⟨hnil, aE rfl <| H_storeN TS_28 H fun h H => ⟨hnil, vp_done <| H⟩⟩⟩
          refine alt_n rfl ?_ vp_none
          have H := HA1
          clear HA0 HA1
          refine H_alloc TV_28 H fun _ h H => ⟨hnil, ?_⟩
          exact aE rfl <| H_alloc TV_28 H fun _ h H => ⟨hnil, aE rfl <| H_storeN TS_28 H fun h H => ⟨hnil, aE rfl <| H_storeN TS_28 H fun h H => ⟨hnil, vp_done <| H⟩⟩⟩
        refine sR <| nP (R_fld TF_28_0) H fun _ H => nL T1_25 H fun _ H => nP (R_len Try.underlying25) H fun _ H => nP (R_fld TF_28_0) H fun _ H => nL T1_25 H fun _ H => nP (R_len Try.underlying25) H fun _ H => nP R_gtr H fun _ H => vl_e ?_
        refine cI H (fun H => ?_) fun H => ?_
        · exact W_region (by kernel_rfl) <| nP (R_fld TF_28_0) H fun _ H => nL T1_25 H fun _ H => nP (R_len Try.underlying25) H fun _ H => nP R_sub H fun t120 H => nS t120 rfl <| vl_e <| H
        · exact WPc_skip <| H
      refine sR <| nP (R_fld TF_28_0) H fun _ H => nL T1_25 H fun _ H => nP (R_len Try.underlying25) H fun _ H => nP (R_fld TF_28_0) H fun _ H => nL T1_25 H fun _ H => nP (R_len Try.underlying25) H fun _ H => nP R_add H fun _ H => nM (e 0) rfl <| nP R_mul H fun _ H => nP R_sub H fun _ H => nP R_lss H fun _ H => vl_e ?_
      refine cI H (fun H => ?_) fun H => ?_
      · refine WPc_seq' <| W_drawn [0, 1, 0, 4, 0, 28, 63, 0, 128, 0, 512, 1920, 4095, 8191, 16383] (.take 0 (.take 1 (.take 2 (.take 3 (.take 4 (.take 5 (.take 7 (.take 8 (.take 9 (.take 10 (.take 11 (.alt 6 (.alt 12 (.take 13 (.alt 14 .done .none)) .none) .none)))))))))))) mixed (by kernel_rfl) <| pP rfl (R_fld TF_28_0) H fun _ H => pL rfl T1_25 H fun _ _ _ H => pP rfl (R_fld TF_28_0) H fun _ H => pL rfl T1_25 H fun _ _ _ H => pM (e 7) rfl rfl <| pP rfl (R_slice TE_25 (by decide)) H fun _ H => pP rfl (R_fld TF_28_0) H fun _ H => pL rfl T1_25 H fun _ _ hat76 H => pM (e 7) rfl rfl <| pP rfl R_add H fun _ H => pP rfl (R_slice TE_25 (by decide)) H fun _ H => aE rfl <| H_app TZ_25 TU_25 H fun _ h ⟨S_4, H⟩ => ⟨(hcons rfl (still_1 S_4 hat76) (hskip rfl (hskip rfl hnil))), ?_⟩
        refine aE rfl <| H_app TZ_25 TU_25 H fun _ h H => ⟨(hskip rfl hnil), pP rfl (R_fld TF_28_0) H fun _ H => aE rfl <| H_store1 TS_25 H fun h H => ⟨hnil, vp_done ?_⟩⟩
        refine WPc_seq (fun e h => s_Rebalanced.j9 (e 4) (e 6) (e 7) (e 13) h Q) ?_ (fun e h H => ?_)
        rotate_left
        · unfold s_Rebalanced.j9 at H
          refine WPc_seq' <| W_drawn [0, 1, 0, 4, 0, 16, 60, 127, 255, 511] (.take 0 (.take 1 (.take 2 (.take 3 (.take 4 (.take 5 (.take 6 (.alt 7 (.take 8 (.alt 9 .done .none)) .none)))))))) mixed (by kernel_rfl) <| pP rfl (R_fld TF_28_1) H fun _ H => pL rfl T1_26 H fun _ _ _ H => pP rfl (R_fld TF_28_1) H fun _ H => pL rfl T1_26 H fun _ _ _ H => pM (e 7) rfl rfl <| pP rfl R_add H fun _ H => pP rfl (R_slice TE_26 (by decide)) H fun _ H => aE rfl <| H_app TZ_26 TU_26 H fun _ h H => ⟨(hskip rfl (hskip rfl hnil)), pP rfl (R_fld TF_28_1) H fun _ H => aE rfl <| H_store1 TS_26 H fun h H => ⟨hnil, vp_done <| sR ?_⟩⟩
          exact nLN TN_28 H fun _ H => vl_n <| H_call HB_49 H fun _ h H => vl_n <| H_storeN TS_28 H fun h H => vl_e <| WPc_ret <| resH_of rfl <| resL_N TN_28 <| loadN_imp H fun r6 H => H
        refine W_drawn [0, 1, 0, 4, 0, 28, 63, 0, 0, 384, 896, 2047, 4095, 8191] (.take 0 (.take 1 (.take 2 (.take 3 (.take 4 (.take 5 (.take 7 (.take 8 (.take 9 (.alt 6 (.alt 10 (.alt 11 (.take 12 (.alt 13 .done .none)) .none) .none) (.alt 10 (.alt 6 (.alt 11 (.take 12 (.alt 13 .done .none)) .none) .none) .none))))))))))) mixed (by kernel_rfl) <| pP rfl (R_fld TF_28_1) H fun _ H => pL rfl T1_26 H fun _ _ hat83 H => pP rfl (R_fld TF_28_1) H fun _ H => pL rfl T1_26 H fun _ _ hat85 H => pM (e 7) rfl rfl <| pP rfl (R_slice TE_26 (by decide)) H fun _ H => pM (e 11) rfl rfl <| pM t55 rfl rfl <| pP rfl (R_build TB_28 rfl (by decide)) H fun _ H => ?_
        obtain ⟨HA0, HA1⟩ := H
        refine alt_n rfl ?_ ?_
        · have H := HA0
          clear HA0 HA1
          refine H_app TZ_26 TU_26 H fun _ h H => ⟨(hskip rfl (hskip rfl hnil)), ?_⟩
          exact aE rfl <| H_mkSl TZ_26 (by decide) rfl H rfl fun _ h H => ⟨hnil, aE rfl <| H_app TZ_26 TU_26 H fun _ h H => ⟨hnil, pP rfl (R_fld TF_28_1) H fun _ H => aE rfl <| H_store1 TS_26 H fun h H => ⟨hnil, vp_done <| H⟩⟩⟩
        refine alt_n rfl ?_ vp_none
        have H := HA1
        clear HA0 HA1
        refine H_mkSl TZ_26 (by decide) rfl H rfl fun _ h ⟨S_5, S_6, H⟩ => ⟨(hcons rfl (still_1 S_6 hat85) (hcons rfl (still_1 S_5 hat83) hnil)), ?_⟩
        exact aE rfl <| H_app TZ_26 TU_26 H fun _ h H => ⟨(hskip rfl (hskip rfl hnil)), aE rfl <| H_app TZ_26 TU_26 H fun _ h H => ⟨hnil, pP rfl (R_fld TF_28_1) H fun _ H => aE rfl <| H_store1 TS_26 H fun h H => ⟨hnil, vp_done <| H⟩⟩⟩
      · exact WPc_skip <| H
    refine W_drawn [0, 0, 2, 7, 0, 16, 63, 0, 128, 511, 1023] (.take 1 (.take 2 (.take 4 (.take 7 (.take 8 (.alt 0 (.alt 3 (.alt 5 (.alt 6 (.alt 9 (.take 10 .done) .none) .none) .none) (.alt 5 (.alt 3 (.alt 6 (.alt 9 (.take 10 .done) .none) .none) .none) .none)) (.alt 5 (.alt 0 (.alt 3 (.alt 6 (.alt 9 (.take 10 .done) .none) .none) .none) .none) .none))))))) mixed (by kernel_rfl) <| pP rfl (R_fld TF_28_0) H fun _ H => pL rfl T1_25 H fun _ _ hat41 H => tkL rfl <| R_loadN TN_52 H fun _ _ hat43 _ H _ hSt43 => pP rfl (R_fld TF_28_0) H fun _ H => pL rfl T1_25 H fun _ _ hat47 H => ?_
    obtain ⟨HA0, HA1⟩ := H
    refine alt_n rfl ?_ ?_
    · have H := HA0
      clear HA0 HA1
      refine H_mkSl TZ_25 (by decide) rfl H rfl fun _ h ⟨S, S_2, S_3, H⟩ => ⟨(hcons rfl (still_1 S_3 hat47) (hcons rfl (hSt43 _ (still_N S_2 hat43 rfl)) (hcons rfl (still_1 S hat41) hnil))), ?_⟩
      obtain ⟨HA0, HA1⟩ := H
      refine alt_n rfl ?_ ?_
      · have H := HA0
        clear HA0 HA1
        refine H_app TZ_25 TU_25 H fun _ h ⟨S_4, S_5, H⟩ => ⟨(hcons rfl (still_1 S_5 hat47) (hcons rfl (hSt43 _ (still_N S_4 hat43 rfl)) (hskip rfl hnil))), ?_⟩
        exact aE rfl <| H_mkSl TZ_25 (by decide) rfl H rfl fun _ h ⟨S_6, H⟩ => ⟨(hcons rfl (still_1 S_6 hat47) (hskip rfl hnil)), aE rfl <| H_app TZ_25 TU_25 H fun _ h ⟨S_7, H⟩ => ⟨(hcons rfl (still_1 S_7 hat47) hnil), aE rfl <| H_app TZ_25 TU_25 H fun t48 h H => ⟨(hskip rfl hnil), pS t48 rfl rfl <| vp_done <| H⟩⟩⟩
      refine alt_n rfl ?_ vp_none
      have H := HA1
      clear HA0 HA1
      refine H_mkSl TZ_25 (by decide) rfl H rfl fun _ h ⟨S_8, S_9, H⟩ => ⟨(hcons rfl (still_1 S_9 hat47) (hskip rfl (hcons rfl (still_1 S_8 hat41) hnil))), ?_⟩
      exact aE rfl <| H_app TZ_25 TU_25 H fun _ h ⟨S_10, H⟩ => ⟨(hcons rfl (still_1 S_10 hat47) (hskip rfl hnil)), aE rfl <| H_app TZ_25 TU_25 H fun _ h ⟨S_11, H⟩ => ⟨(hcons rfl (still_1 S_11 hat47) hnil), aE rfl <| H_app TZ_25 TU_25 H fun t48_2 h H => ⟨(hskip rfl hnil), pS t48_2 rfl rfl <| vp_done <| H⟩⟩⟩
    refine alt_n rfl ?_ vp_none
    have H := HA1
    clear HA0 HA1
    refine H_mkSl TZ_25 (by decide) rfl H rfl fun _ h ⟨S_12, S_13, H⟩ => ⟨(hcons rfl (still_1 S_13 hat47) (hskip rfl (hcons rfl (still_1 S_12 hat41) hnil))), ?_⟩
    exact aE rfl <| H_mkSl TZ_25 (by decide) rfl H rfl fun _ h ⟨S_14, S_15, H⟩ => ⟨(hcons rfl (still_1 S_15 hat47) (hcons rfl (still_1 S_14 hat41) hnil)), aE rfl <| H_app TZ_25 TU_25 H fun _ h ⟨S_16, H⟩ => ⟨(hcons rfl (still_1 S_16 hat47) (hskip rfl hnil)), aE rfl <| H_app TZ_25 TU_25 H fun _ h ⟨S_17, H⟩ => ⟨(hcons rfl (still_1 S_17 hat47) hnil), aE rfl <| H_app TZ_25 TU_25 H fun t48_3 h H => ⟨(hskip rfl hnil), pS t48_3 rfl rfl <| vp_done <| H⟩⟩⟩⟩
  refine W_drawn [0, 1, 0, 7, 15, 0, 32, 0, 128, 480, 992, 0, 2048, 0, 14336, 30720, 0, 0, 0, 458783, 985087, 2097151] (.take 0 (.take 1 (.take 2 (.take 3 (.take 4 (.take 5 (.take 6 (.take 7 (.take 8 (.take 9 (.take 10 (.take 11 (.take 12 (.take 13 (.take 14 (.take 15 (.alt 16 (.alt 17 (.alt 18 (.alt 19 (.alt 20 (.alt 21 .done .none) .none) .none) .none) (.alt 18 (.alt 17 (.alt 19 (.alt 20 (.alt 21 .done .none) .none) .none) .none) .none)) (.alt 17 (.alt 16 (.alt 18 (.alt 19 (.alt 20 (.alt 21 .done .none) .none) .none) .none) (.alt 18 (.alt 16 (.alt 19 (.alt 20 (.alt 21 .done .none) .none) .none) .none) .none)) (.alt 18 (.alt 16 (.alt 17 (.alt 19 (.alt 20 (.alt 21 .done .none) .none) .none) .none) (.alt 17 (.alt 16 (.alt 19 (.alt 20 (.alt 21 .done .none) .none) .none) .none) .none)) .none))))))))))))))))))) mixed (by kernel_rfl) <| pP rfl (R_fld TF_28_1) H fun _ H => pL rfl T1_26 H fun _ _ hat24 H => pM t22 rfl rfl <| pP rfl (R_idx TE_26) H fun _ H => tkL rfl <| R_loadN TN_28 H fun _ _ hat27 _ H _ hSt27 => pP rfl (R_fld TF_28_1) H fun _ H => pL rfl T1_26 H fun _ _ hat29 H => pM t22 rfl rfl <| pP rfl R_add H fun _ H => pP rfl (R_idx TE_26) H fun _ H => tkL rfl <| R_loadN TN_28 H fun _ _ hat33 _ H _ hSt33 => pP rfl (R_fld TF_28_0) H fun _ H => pL rfl T1_25 H fun _ _ hat35 H => ?_
  refine pM t22 rfl rfl <| pP rfl (R_idx TE_25) H fun _ H => tkL rfl <| R_loadN TN_52 H fun _ _ hat38 _ H _ hSt38 => ?_
  obtain ⟨HA0, HA1, HA2⟩ := H
  refine alt_n rfl ?_ ?_
  · have H := HA0
    clear HA0 HA1 HA2
    refine H_alloc TV_28 H fun _ h ⟨S, S_2, S_3, S_4, S_5, S_6, H⟩ => ⟨(hcons rfl (hSt38 _ (still_N S_6 hat38 rfl)) (hcons rfl (still_1 S_5 hat35) (hcons rfl (hSt33 _ (still_N S_4 hat33 rfl)) (hcons rfl (still_1 S_3 hat29) (hcons rfl (hSt27 _ (still_N S_2 hat27 rfl)) (hcons rfl (still_1 S hat24) hnil)))))), ?_⟩
    obtain ⟨HA0, HA1⟩ := H
    refine alt_n rfl ?_ ?_
    · have H := HA0
      clear HA0 HA1
      refine H_alloc TV_28 H fun _ h ⟨S_7, S_8, S_9, S_10, S_11, S_12, H⟩ => ⟨(hcons rfl (hSt38 _ (still_N S_12 hat38 rfl)) (hcons rfl (still_1 S_11 hat35) (hcons rfl (hSt33 _ (still_N S_10 hat33 rfl)) (hcons rfl (still_1 S_9 hat29) (hcons rfl (hSt27 _ (still_N S_8 hat27 rfl)) (hcons rfl (still_1 S_7 hat24) hnil)))))), ?_⟩
      exact aE rfl <| H_alloc TV_52 H fun _ h ⟨S_13, S_14, S_15, S_16, S_17, S_18, H⟩ => ⟨(hcons rfl (hSt38 _ (still_N S_18 hat38 rfl)) (hcons rfl (still_1 S_17 hat35) (hcons rfl (hSt33 _ (still_N S_16 hat33 rfl)) (hcons rfl (still_1 S_15 hat29) (hcons rfl (hSt27 _ (still_N S_14 hat27 rfl)) (hcons rfl (still_1 S_13 hat24) hnil)))))), aE rfl <| H_storeN TS_28 H fun h ⟨S_19, S_20, S_21, S_22, H⟩ => ⟨(hcons rfl (hSt38 _ (still_N S_22 hat38 rfl)) (hcons rfl (still_1 S_21 hat35) (hcons rfl (hSt33 _ (still_N S_20 hat33 rfl)) (hcons rfl (still_1 S_19 hat29) (hskip rfl (hskip rfl hnil)))))), aE rfl <| H_storeN TS_28 H fun h ⟨S_23, S_24, H⟩ => ⟨(hcons rfl (hSt38 _ (still_N S_24 hat38 rfl)) (hcons rfl (still_1 S_23 hat35) (hskip rfl (hskip rfl hnil)))), aE rfl <| H_storeN TS_52 H fun h H => ⟨(hskip rfl (hskip rfl hnil)), vp_done <| H⟩⟩⟩⟩
    refine alt_n rfl ?_ vp_none
    have H := HA1
    clear HA0 HA1
    refine H_alloc TV_52 H fun _ h ⟨S_25, S_26, S_27, S_28, S_29, S_30, H⟩ => ⟨(hcons rfl (hSt38 _ (still_N S_30 hat38 rfl)) (hcons rfl (still_1 S_29 hat35) (hcons rfl (hSt33 _ (still_N S_28 hat33 rfl)) (hcons rfl (still_1 S_27 hat29) (hcons rfl (hSt27 _ (still_N S_26 hat27 rfl)) (hcons rfl (still_1 S_25 hat24) hnil)))))), ?_⟩
    exact aE rfl <| H_alloc TV_28 H fun _ h ⟨S_31, S_32, S_33, S_34, S_35, S_36, H⟩ => ⟨(hcons rfl (hSt38 _ (still_N S_36 hat38 rfl)) (hcons rfl (still_1 S_35 hat35) (hcons rfl (hSt33 _ (still_N S_34 hat33 rfl)) (hcons rfl (still_1 S_33 hat29) (hcons rfl (hSt27 _ (still_N S_32 hat27 rfl)) (hcons rfl (still_1 S_31 hat24) hnil)))))), aE rfl <| H_storeN TS_28 H fun h ⟨S_37, S_38, S_39, S_40, H⟩ => ⟨(hcons rfl (hSt38 _ (still_N S_40 hat38 rfl)) (hcons rfl (still_1 S_39 hat35) (hcons rfl (hSt33 _ (still_N S_38 hat33 rfl)) (hcons rfl (still_1 S_37 hat29) (hskip rfl (hskip rfl hnil)))))), aE rfl <| H_storeN TS_28 H fun h ⟨S_41, S_42, H⟩ => ⟨(hcons rfl (hSt38 _ (still_N S_42 hat38 rfl)) (hcons rfl (still_1 S_41 hat35) (hskip rfl (hskip rfl hnil)))), aE rfl <| H_storeN TS_52 H fun h H => ⟨(hskip rfl (hskip rfl hnil)), vp_done <| H⟩⟩⟩⟩
  refine alt_n rfl ?_ ?_
  · have H := HA1
    clear HA0 HA1 HA2
    refine H_alloc TV_28 H fun _ h ⟨S_43, S_44, S_45, S_46, S_47, S_48, H⟩ => ⟨(hcons rfl (hSt38 _ (still_N S_48 hat38 rfl)) (hcons rfl (still_1 S_47 hat35) (hcons rfl (hSt33 _ (still_N S_46 hat33 rfl)) (hcons rfl (still_1 S_45 hat29) (hcons rfl (hSt27 _ (still_N S_44 hat27 rfl)) (hcons rfl (still_1 S_43 hat24) hnil)))))), ?_⟩
    obtain ⟨HA0, HA1⟩ := H
    refine alt_n rfl ?_ ?_
    · have H := HA0
      clear HA0 HA1
      refine H_alloc TV_28 H fun _ h ⟨S_49, S_50, S_51, S_52, S_53, S_54, H⟩ => ⟨(hcons rfl (hSt38 _ (still_N S_54 hat38 rfl)) (hcons rfl (still_1 S_53 hat35) (hcons rfl (hSt33 _ (still_N S_52 hat33 rfl)) (hcons rfl (still_1 S_51 hat29) (hcons rfl (hSt27 _ (still_N S_50 hat27 rfl)) (hcons rfl (still_1 S_49 hat24) hnil)))))), ?_⟩
      exact aE rfl <| H_alloc TV_52 H fun _ h ⟨S_55, S_56, S_57, S_58, S_59, S_60, H⟩ => ⟨(hcons rfl (hSt38 _ (still_N S_60 hat38 rfl)) (hcons rfl (still_1 S_59 hat35) (hcons rfl (hSt33 _ (still_N S_58 hat33 rfl)) (hcons rfl (still_1 S_57 hat29) (hcons rfl (hSt27 _ (still_N S_56 hat27 rfl)) (hcons rfl (still_1 S_55 hat24) hnil)))))), aE rfl <| H_storeN TS_28 H fun h ⟨S_61, S_62, S_63, S_64, H⟩ => ⟨(hcons rfl (hSt38 _ (still_N S_64 hat38 rfl)) (hcons rfl (still_1 S_63 hat35) (hcons rfl (hSt33 _ (still_N S_62 hat33 rfl)) (hcons rfl (still_1 S_61 hat29) (hskip rfl (hskip rfl hnil)))))), aE rfl <| H_storeN TS_28 H fun h ⟨S_65, S_66, H⟩ => ⟨(hcons rfl (hSt38 _ (still_N S_66 hat38 rfl)) (hcons rfl (still_1 S_65 hat35) (hskip rfl (hskip rfl hnil)))), aE rfl <| H_storeN TS_52 H fun h H => ⟨(hskip rfl (hskip rfl hnil)), vp_done <| H⟩⟩⟩⟩
    refine alt_n rfl ?_ vp_none
    have H := HA1
    clear HA0 HA1
    refine H_alloc TV_52 H fun _ h ⟨S_67, S_68, S_69, S_70, S_71, S_72, H⟩ => ⟨(hcons rfl (hSt38 _ (still_N S_72 hat38 rfl)) (hcons rfl (still_1 S_71 hat35) (hcons rfl (hSt33 _ (still_N S_70 hat33 rfl)) (hcons rfl (still_1 S_69 hat29) (hcons rfl (hSt27 _ (still_N S_68 hat27 rfl)) (hcons rfl (still_1 S_67 hat24) hnil)))))), ?_⟩
    exact aE rfl <| H_alloc TV_28 H fun _ h ⟨S_73, S_74, S_75, S_76, S_77, S_78, H⟩ => ⟨(hcons rfl (hSt38 _ (still_N S_78 hat38 rfl)) (hcons rfl (still_1 S_77 hat35) (hcons rfl (hSt33 _ (still_N S_76 hat33 rfl)) (hcons rfl (still_1 S_75 hat29) (hcons rfl (hSt27 _ (still_N S_74 hat27 rfl)) (hcons rfl (still_1 S_73 hat24) hnil)))))), aE rfl <| H_storeN TS_28 H fun h ⟨S_79, S_80, S_81, S_82, H⟩ => ⟨(hcons rfl (hSt38 _ (still_N S_82 hat38 rfl)) (hcons rfl (still_1 S_81 hat35) (hcons rfl (hSt33 _ (still_N S_80 hat33 rfl)) (hcons rfl (still_1 S_79 hat29) (hskip rfl (hskip rfl hnil)))))), aE rfl <| H_storeN TS_28 H fun h ⟨S_83, S_84, H⟩ => ⟨(hcons rfl (hSt38 _ (still_N S_84 hat38 rfl)) (hcons rfl (still_1 S_83 hat35) (hskip rfl (hskip rfl hnil)))), aE rfl <| H_storeN TS_52 H fun h H => ⟨(hskip rfl (hskip rfl hnil)), vp_done <| H⟩⟩⟩⟩
  refine alt_n rfl ?_ vp_none
  have H := HA2
  clear HA0 HA1 HA2
  refine H_alloc TV_52 H fun _ h ⟨S_85, S_86, S_87, S_88, S_89, S_90, H⟩ => ⟨(hcons rfl (hSt38 _ (still_N S_90 hat38 rfl)) (hcons rfl (still_1 S_89 hat35) (hcons rfl (hSt33 _ (still_N S_88 hat33 rfl)) (hcons rfl (still_1 S_87 hat29) (hcons rfl (hSt27 _ (still_N S_86 hat27 rfl)) (hcons rfl (still_1 S_85 hat24) hnil)))))), ?_⟩
  obtain ⟨HA0, HA1⟩ := H
  refine alt_n rfl ?_ ?_
  · have H := HA0
    clear HA0 HA1
    refine H_alloc TV_28 H fun _ h ⟨S_91, S_92, S_93, S_94, S_95, S_96, H⟩ => ⟨(hcons rfl (hSt38 _ (still_N S_96 hat38 rfl)) (hcons rfl (still_1 S_95 hat35) (hcons rfl (hSt33 _ (still_N S_94 hat33 rfl)) (hcons rfl (still_1 S_93 hat29) (hcons rfl (hSt27 _ (still_N S_92 hat27 rfl)) (hcons rfl (still_1 S_91 hat24) hnil)))))), ?_⟩
    exact aE rfl <| H_alloc TV_28 H fun _ h ⟨S_97, S_98, S_99, S_100, S_101, S_102, H⟩ => ⟨(hcons rfl (hSt38 _ (still_N S_102 hat38 rfl)) (hcons rfl (still_1 S_101 hat35) (hcons rfl (hSt33 _ (still_N S_100 hat33 rfl)) (hcons rfl (still_1 S_99 hat29) (hcons rfl (hSt27 _ (still_N S_98 hat27 rfl)) (hcons rfl (still_1 S_97 hat24) hnil)))))), aE rfl <| H_storeN TS_28 H fun h ⟨S_103, S_104, S_105, S_106, H⟩ => ⟨(hcons rfl (hSt38 _ (still_N S_106 hat38 rfl)) (hcons rfl (still_1 S_105 hat35) (hcons rfl (hSt33 _ (still_N S_104 hat33 rfl)) (hcons rfl (still_1 S_103 hat29) (hskip rfl (hskip rfl hnil)))))), aE rfl <| H_storeN TS_28 H fun h ⟨S_107, S_108, H⟩ => ⟨(hcons rfl (hSt38 _ (still_N S_108 hat38 rfl)) (hcons rfl (still_1 S_107 hat35) (hskip rfl (hskip rfl hnil)))), aE rfl <| H_storeN TS_52 H fun h H => ⟨(hskip rfl (hskip rfl hnil)), vp_done <| H⟩⟩⟩⟩
  refine alt_n rfl ?_ vp_none
  have H := HA1
  clear HA0 HA1
  refine H_alloc TV_28 H fun _ h ⟨S_109, S_110, S_111, S_112, S_113, S_114, H⟩ => ⟨(hcons rfl (hSt38 _ (still_N S_114 hat38 rfl)) (hcons rfl (still_1 S_113 hat35) (hcons rfl (hSt33 _ (still_N S_112 hat33 rfl)) (hcons rfl (still_1 S_111 hat29) (hcons rfl (hSt27 _ (still_N S_110 hat27 rfl)) (hcons rfl (still_1 S_109 hat24) hnil)))))), ?_⟩
  exact aE rfl <| H_alloc TV_28 H fun _ h ⟨S_115, S_116, S_117, S_118, S_119, S_120, H⟩ => ⟨(hcons rfl (hSt38 _ (still_N S_120 hat38 rfl)) (hcons rfl (still_1 S_119 hat35) (hcons rfl (hSt33 _ (still_N S_118 hat33 rfl)) (hcons rfl (still_1 S_117 hat29) (hcons rfl (hSt27 _ (still_N S_116 hat27 rfl)) (hcons rfl (still_1 S_115 hat24) hnil)))))), aE rfl <| H_storeN TS_28 H fun h ⟨S_121, S_122, S_123, S_124, H⟩ => ⟨(hcons rfl (hSt38 _ (still_N S_124 hat38 rfl)) (hcons rfl (still_1 S_123 hat35) (hcons rfl (hSt33 _ (still_N S_122 hat33 rfl)) (hcons rfl (still_1 S_121 hat29) (hskip rfl (hskip rfl hnil)))))), aE rfl <| H_storeN TS_28 H fun h ⟨S_125, S_126, H⟩ => ⟨(hcons rfl (hSt38 _ (still_N S_126 hat38 rfl)) (hcons rfl (still_1 S_125 hat35) (hskip rfl (hskip rfl hnil)))), aE rfl <| H_storeN TS_52 H fun h H => ⟨(hskip rfl (hskip rfl hnil)), vp_done <| H⟩⟩⟩⟩

end Go.Proofs.Ytgnnidefbeoibaa
end
section
namespace Go.Proofs.Ytgnnidefbeoibaa
open Go.Hp
set_option maxRecDepth 100000
set_option maxHeartbeats 8000000
set_option linter.unusedVariables false
set_option linter.unusedSimpArgs false

/-! ### slices.Equal[[]impl.Item,impl.Item] -/
def sl_Equal_implItemI.j2 (h : Heap) (Q : Value → Heap → Prop) : Prop := Q (.bool true) h
def sl_Equal_implItemI.j5 (s0 s1 s12 s13 : Value) (h : Heap) (K1 : List Value → Heap → Prop) (Q : Value → Heap → Prop) : Prop := arith (· + ·) s13 (.int .i64 1) fun b=>K1 [b] h
def sl_Equal_implItemI.j4 (s0 s1 s12 s13 : Value) (h : Heap) (K1 : List Value → Heap → Prop) (Q : Value → Heap → Prop) : Prop := idx 2 s0 s13 fun b=>loadN 2 b h fun d=>idx 2 s1 s13 fun g=>loadN 2 g h fun i=>neR (EqV Try.prog 10000 52) d i fun j=>ifV j (Q (.bool false) h) (sl_Equal_implItemI.j5 s0 s1 s12 s13 h K1 Q)
def sl_Equal_implItemI.l3.b (c0 c1 c12 s13 : Value) (h : Heap) (K1 : List Value → Heap → Prop) (Q : Value → Heap → Prop) : Prop := cmpI (fun a b=>decide (a < b)) s13 c12 fun b=>ifV b (sl_Equal_implItemI.j4 c0 c1 c12 s13 h K1 Q) (sl_Equal_implItemI.j2 h Q)
def sl_Equal_implItemI.j1 (s0 s1 : Value) (h : Heap) (Q : Value → Heap → Prop) : Prop := lenV s0 fun b=>loopC (fun c s h K1=>sl_Equal_implItemI.l3.b (c.getD 0 undef) (c.getD 1 undef) (c.getD 2 undef) (s.getD 0 undef) h K1 Q) [s0, s1, b] [(.int .i64 0)] h
def sl_Equal_implItemI.sh (a0 a1 : Value) (h : Heap) (Q : Value → Heap → Prop) : Prop := lenV a0 fun b=>lenV a1 fun d=>cmpI (fun a b=>a != b) b d fun g=>ifV g (Q (.bool false) h) (sl_Equal_implItemI.j1 a0 a1 h Q)
theorem sl_Equal_implItemI.body (a0 a1 : Value) (h : Heap) (Q : Value → Heap → Prop) (H : sl_Equal_implItemI.sh a0 a1 h Q) : sl_Equal_implItemI.call #[a0, a1] h Q := by
  refine callsH_of (args := [a0, a1]) Try.func23 rfl rfl ?_
  unfold sl_Equal_implItemI.sh at H
  refine sR <| nS (.bool false) rfl <| vl_e ?_
  refine WPc_seq (fun e h => sl_Equal_implItemI.j1 (e 0) (e 1) h Q) ?_ (fun e h H => ?_)
  rotate_left
  · unfold sl_Equal_implItemI.j1 at H
    refine WPc_seq (fun e h => sl_Equal_implItemI.j2 h Q) ?_ (fun e h H => ?_)
    rotate_left
    · unfold sl_Equal_implItemI.j2 at H
      exact sR <| nS (.bool true) rfl <| vl_e <| WPc_ret <| resH_of rfl <| H
    refine sR <| nM (e 0) rfl <| nP (R_len Try.underlying25) H fun _ H => nM (.int .i64 0) rfl <| vl_e <| WPc_block ?_
    refine loop_at (fun e => [e 13]) (fun e => [e 0, e 1, e 12]) H rfl rfl ?_
    intro K1 e1 h H hin1
    replace H : sl_Equal_implItemI.l3.b (e1 0) (e1 1) (e1 12) (e1 13) h K1 Q := H
    unfold sl_Equal_implItemI.l3.b at H
    clear hin1
    refine sR <| nP R_lss H fun _ H => vl_e ?_
    refine WPc_seq (fun e h => sl_Equal_implItemI.j4 (e 0) (e 1) (e 12) (e 13) h K1 Q ∧ [e1 0, e1 1, e1 12] = [e 0, e 1, e 12]) ?_ (fun e h ⟨H, hq1⟩ => ?_)
    rotate_left
    · unfold sl_Equal_implItemI.j4 at H
      refine WPc_seq (fun e h => sl_Equal_implItemI.j5 (e 0) (e 1) (e 12) (e 13) h K1 Q ∧ [e1 0, e1 1, e1 12] = [e 0, e 1, e 12]) ?_ (fun e h ⟨H, hq1⟩ => ?_)
      rotate_left
      · unfold sl_Equal_implItemI.j5 at H
        refine W_region (by kernel_rfl) <| nP R_add H fun t25 H => nM t25 rfl <| vl_e ?_
        exact ⟨H, hq1⟩
      refine WPc_block <| sR <| nM (e 13) rfl <| nS (e 13) rfl <| vl_e <| WPc_seq' <| W_drawn [0, 0, 3, 7, 0, 0, 48, 112, 255] (.take 0 (.take 1 (.take 2 (.take 3 (.take 4 (.take 5 (.take 6 (.take 7 (.take 8 .done))))))))) mixed (by kernel_rfl) <| pM (e 0) rfl rfl <| pM (e 13) rfl rfl <| pP rfl (R_idx TE_25) H fun _ H => tkL rfl <| R_loadN TN_52 H fun _ _ _ _ H _ _ => pM (e 1) rfl rfl <| pM (e 13) rfl rfl <| pP rfl (R_idx TE_25) H fun _ H => ?_
      refine tkL rfl <| R_loadN TN_52 H fun _ _ _ _ H _ _ => pP rfl (R_neA (by kernel_rfl)) H fun _ H => vp_done ?_
      refine cI H (fun H => ?_) fun H => ?_
      · exact sR <| nS (.bool false) rfl <| vl_e <| WPc_ret <| resH_of rfl <| H
      · refine WPc_skip ?_
        exact ⟨H, hq1⟩
    refine cI H (fun H => ?_) fun H => ?_
    · refine WPc_skip ?_
      exact ⟨H, rfl⟩
    · refine WPc_exit ?_
      exact H
  refine sR <| nM a0 rfl <| nP (R_len Try.underlying25) H fun _ H => nM a1 rfl <| nP (R_len Try.underlying25) H fun _ H => nP R_neI H fun _ H => vl_e ?_
  refine cI H (fun H => ?_) fun H => ?_
  · exact sR <| nS (.bool false) rfl <| vl_e <| WPc_ret <| resH_of rfl <| H
  · exact WPc_skip <| H
/-! ### laws.FnNRebalance -/
def l_FnNRebalance.j3 (s2 s4 s7 s8 : Value) (h : Heap) (Q : Value → Heap → Prop) : Prop := loadN 3 s8 h fun b=>s_Levels.call #[b] h fun d h=>extr 0 d fun g=>extr 1 d fun i=>loadN 3 s4 h fun j=>s_Levels.call #[j] h fun k h=>extr 0 k fun l=>extr 1 k fun m=>loadN 3 s8 h fun n=>loadN 3 s4 h fun o=>s_Rebalanced.call #[s7, o, s2] h fun p h=>stillN 3 s8 n h ∧ s_SameNodes.call #[n, p] h fun q h=>br q true (br i true (cmpI (fun a b=>a == b) g l fun u=>br u true (loadN 3 s8 h fun v=>loadN 3 s4 h fun w=>s_NodeItems.call #[v] h fun x h=>stillN 3 s4 w h ∧ s_NodeItems.call #[w] h fun y h=>sl_Equal_implItemI.call #[x, y] h fun z h=>br z true (l_aliveN.call #[] h fun b0 h=>Q b0 h) (Q (.bool false) h)) (Q (.bool false) h)) (Q (.bool false) h)) (Q (.bool false) h)
def l_FnNRebalance.j6 (s2 s4 s7 s8 s42 s43 s44 : Value) (h : Heap) (K1 : List Value → Heap → Prop) (Q : Value → Heap → Prop) : Prop := arith (· + ·) s44 (.int .i64 1) fun b=>K1 [b] h
def l_FnNRebalance.j5 (s2 s4 s7 s8 s42 s43 s44 : Value) (h : Heap) (K1 : List Value → Heap → Prop) (Q : Value → Heap → Prop) : Prop := idx 3 s42 s44 fun b=>loadN 3 b h fun d=>alloc [(.slice none 0 0), (.slice none 0 0), (.int .i64 0)] 28 h fun g h=>storeN 3 g d h fun h=>arith (· - ·) s7 (.int .i64 1) fun i=>loadN 3 g h fun j=>s_Filled.call #[s7, i, j] h fun k h=>notV k fun l=>ifV l (Q (.bool false) h) (l_FnNRebalance.j6 s2 s4 s7 s8 s42 s43 s44 h K1 Q)
def l_FnNRebalance.l4.b (c2 c4 c7 c8 c42 c43 s44 : Value) (h : Heap) (K1 : List Value → Heap → Prop) (Q : Value → Heap → Prop) : Prop := cmpI (fun a b=>decide (a < b)) s44 c43 fun b=>ifV b (l_FnNRebalance.j5 c2 c4 c7 c8 c42 c43 s44 h K1 Q) (l_FnNRebalance.j3 c2 c4 c7 c8 h Q)
def l_FnNRebalance.j2 (s2 s3 s4 : Value) (h : Heap) (Q : Value → Heap → Prop) : Prop := fld 1 s3 fun b=>load1 b h fun d=>s_Width.call #[d] h fun g h=>loadN 3 s3 h fun i=>loadN 3 s4 h fun j=>i_NRebalance.call #[i, j, s2] h fun k h=>alloc [(.slice none 0 0), (.slice none 0 0), (.int .i64 0)] 28 h fun l h=>storeN 3 l k h fun h=>fld 1 l fun m=>load1 m h fun n=>lenV n fun o=>loopC (fun c s h K1=>l_FnNRebalance.l4.b (c.getD 0 undef) (c.getD 1 undef) (c.getD 2 undef) (c.getD 3 undef) (c.getD 4 undef) (c.getD 5 undef) (s.getD 0 undef) h K1 Q) [s2, s4, g, l, n, o] [(.int .i64 0)] h
def l_FnNRebalance.j1 (s2 s3 s4 : Value) (h : Heap) (Q : Value → Heap → Prop) : Prop := loadN 3 s3 h fun b=>l_fits.call #[b] h fun d h=>notV d fun g=>br g false (loadN 3 s3 h fun i=>loadN 3 s4 h fun j=>s_Lacks.call #[i, j, s2] h fun k h=>notV k fun l=>ifV l (l_aliveN.call #[] h fun m h=>Q m h) (l_FnNRebalance.j2 s2 s3 s4 h Q)) (l_aliveN.call #[] h fun n h=>Q n h)
def l_FnNRebalance.sh (a0 a1 a2 : Value) (h : Heap) (Q : Value → Heap → Prop) : Prop := box 24 a0 h fun b h=>box 28 a1 h fun d h=>loadN 3 b h fun g=>l_zzFits1.call #[g] h fun i h=>notV i fun j=>br j false (loadN 3 d h fun k=>l_zzFits3.call #[k] h fun l h=>notV l fun m=>ifV m (Q (.bool true) h) (l_FnNRebalance.j1 a2 b d h Q)) (Q (.bool true) h)
theorem l_FnNRebalance.body (a0 a1 a2 : Value) (h : Heap) (Q : Value → Heap → Prop) (H : l_FnNRebalance.sh a0 a1 a2 h Q) : l_FnNRebalance.call #[a0, a1, a2] h Q := by
  refine callsH_of (args := [a0, a1, a2]) Try.func4 rfl rfl ?_
  unfold l_FnNRebalance.sh at H
  refine sR <| vl_n <| H_box H fun _ h H => vl_n <| H_box H fun _ h H => nS (.bool false) rfl <| vl_e ?_
  refine WPc_seq (fun e h => l_FnNRebalance.j1 (e 2) (e 3) (e 4) h Q) ?_ (fun e h H => ?_)
  rotate_left
  · unfold l_FnNRebalance.j1 at H
    refine WPc_seq (fun e h => l_FnNRebalance.j2 (e 2) (e 3) (e 4) h Q) ?_ (fun e h H => ?_)
    rotate_left
    · unfold l_FnNRebalance.j2 at H
      refine sR <| nP (R_fld TF_24_1) H fun _ H => nL T1_3 H fun _ H => vl_n <| H_call HB_17 H fun t36 h H => nS t36 rfl <| vl_e <| sR <| nLN TN_24 H fun _ H => nLN TN_28 H fun _ H => nM (e 2) rfl <| vl_n <| H_call HB_18 H fun _ h H => vl_n <| H_alloc TV_28 H fun _ h H => vl_n <| H_storeN TS_28 H fun h H => vl_e ?_
      refine WPc_seq (fun e h => l_FnNRebalance.j3 (e 2) (e 4) (e 7) (e 8) h Q) ?_ (fun e h H => ?_)
      rotate_left
      · unfold l_FnNRebalance.j3 at H
        refine sR <| nLN TN_28 H fun _ H => vl_n <| H_call HB_20 H fun t57 h H => nM t57 rfl <| nP R_ext H fun t58 H => nP R_ext H fun t59 H => nS t58 rfl <| nS t59 rfl <| vl_e <| sR <| nLN TN_28 H fun _ H => vl_n <| H_call HB_20 H fun t62 h H => nM t62 rfl <| nP R_ext H fun t63 H => ?_
        refine nP R_ext H fun t64 H => nS t63 rfl <| nS t64 rfl <| vl_e <| WPc_seq' <| W_drawn [0, 0, 0, 0, 14, 31, 63, 127, 255, 511, 1023, 1023, 4095, 8191, 16383, 32767, 65535, 32767, 262143, 524287, 1048575, 2097151, 4194303, 8388607, 16777215] (.take 0 (.take 1 (.take 2 (.take 3 (.alt 4 (.alt 5 (.take 6 (.take 7 (.take 8 (.take 9 (.take 10 (.take 11 (.take 12 (.take 13 (.take 14 (.take 15 (.take 17 (.alt 16 (.alt 18 (.alt 19 (.take 20 (.take 21 (.alt 22 (.take 23 (.take 24 .done)) .none))) .none) .none) .none)))))))))))) .none) .none))))) mixed (by kernel_rfl) <| tkL rfl <| R_loadN TN_28 H fun _ _ hat65 _ H _ hSt65 => pM (e 7) rfl rfl <| tkL rfl <| R_loadN TN_28 H fun _ _ _ _ H _ _ => pM (e 2) rfl rfl <| aE rfl <| H_call HB_22 H fun _ h ⟨S, H⟩ => ⟨(hskip rfl (hcons rfl (hSt65 _ (still_N S hat65 rfl)) hnil)), aE rfl <| H_call HB_21 H fun t70 h H => ⟨(hskip rfl hnil), pM t70 rfl rfl ?_⟩⟩
        obtain ⟨b, hb, H1, H2⟩ := H
        cases b
        · have H := H2 rfl
          clear H1 H2
          refine tk_s rfl rfl (nbT hb) ?_
          refine pA rfl (R_pickC (v := (.bool false)) false hb rfl) <| pM (.bool false) rfl rfl ?_
          refine tk_s rfl rfl (nbT rfl) ?_
          refine tk_s rfl rfl (nbT rfl) ?_
          refine tk_s rfl rfl (nbT rfl) ?_
          refine pA rfl (R_pickC (v := (.bool false)) false rfl rfl) <| pM (.bool false) rfl rfl ?_
          refine tk_s rfl rfl (nbT rfl) ?_
          refine tk_s rfl rfl (nbT rfl) ?_
          refine alt_s rfl rfl (nbT rfl) ?_ vp_none
          refine alt_s rfl rfl (nbT rfl) ?_ vp_none
          refine alt_s rfl rfl (nbT rfl) ?_ vp_none
          refine pA rfl (R_pickC (v := (.bool false)) false rfl rfl) <| pM (.bool false) rfl rfl ?_
          refine alt_s rfl rfl (nbT rfl) ?_ vp_none
          exact pA rfl (R_pickC (v := (.bool false)) false rfl rfl) <| pS (.bool false) rfl rfl <| vp_done <| WPc_ret <| resH_of rfl <| H
        · have H := H1 rfl
          clear H1 H2
          refine tkPy rfl rfl hb ?_
          refine R_move (v := t59) rfl ⟨fun _ => trivial, ?_⟩
          refine pA rfl (R_pickC (v := t59) true hb rfl) <| pM t59 rfl rfl ?_
          obtain ⟨b_2, hb_2, H1, H2⟩ := H
          cases b_2
          · have H := H2 rfl
            clear H1 H2
            refine tk_s rfl rfl (nbT hb_2) ?_
            refine tk_s rfl rfl (nbT hb_2) ?_
            refine tk_s rfl rfl (nbT hb_2) ?_
            refine pA rfl (R_pickC (v := (.bool false)) false hb_2 rfl) <| pM (.bool false) rfl rfl ?_
            refine tk_s rfl rfl (nbT rfl) ?_
            refine tk_s rfl rfl (nbT rfl) ?_
            refine alt_s rfl rfl (nbT rfl) ?_ vp_none
            refine alt_s rfl rfl (nbT rfl) ?_ vp_none
            refine alt_s rfl rfl (nbT rfl) ?_ vp_none
            refine pA rfl (R_pickC (v := (.bool false)) false rfl rfl) <| pM (.bool false) rfl rfl ?_
            refine alt_s rfl rfl (nbT rfl) ?_ vp_none
            exact pA rfl (R_pickC (v := (.bool false)) false rfl rfl) <| pS (.bool false) rfl rfl <| vp_done <| WPc_ret <| resH_of rfl <| H
          · have H := H1 rfl
            clear H1 H2
            refine tkPy rfl rfl hb_2 ?_
            refine R_move (v := t58) rfl ⟨fun _ => trivial, ?_⟩
            refine tkPy rfl rfl hb_2 ?_
            refine R_move (v := t63) rfl ⟨fun _ => trivial, ?_⟩
            refine tkPy rfl rfl hb_2 ?_
            refine R_eqI H fun t77 H => ⟨fun _ => trivial, ?_⟩
            refine pA rfl (R_pickC (v := t77) true hb_2 rfl) <| pM t77 rfl rfl ?_
            obtain ⟨b_3, hb_3, H1, H2⟩ := H
            cases b_3
            · have H := H2 rfl
              clear H1 H2
              refine tk_s rfl rfl (nbT hb_3) ?_
              refine tk_s rfl rfl (nbT hb_3) ?_
              refine alt_s rfl rfl (nbT hb_3) ?_ vp_none
              refine alt_s rfl rfl (nbT hb_3) ?_ vp_none
              refine alt_s rfl rfl (nbT hb_3) ?_ vp_none
              refine pA rfl (R_pickC (v := (.bool false)) false hb_3 rfl) <| pM (.bool false) rfl rfl ?_
              refine alt_s rfl rfl (nbT rfl) ?_ vp_none
              exact pA rfl (R_pickC (v := (.bool false)) false rfl rfl) <| pS (.bool false) rfl rfl <| vp_done <| WPc_ret <| resH_of rfl <| H
            · have H := H1 rfl
              clear H1 H2
              refine tkLy rfl rfl hb_3 ?_
              refine R_loadN TN_28 H fun _ _ _ _ H _ _ => ?_
              refine tkLy rfl rfl hb_3 ?_
              refine R_loadN TN_28 H fun _ _ hat82 _ H _ hSt82 => ?_
              refine alt_y rfl rfl hb_3 ?_ vp_none
              refine H_call HB_12 H fun _ h ⟨S_2, H⟩ => ⟨(hcons rfl (hSt82 _ (still_N S_2 hat82 rfl)) (hskip rfl hnil)), ?_⟩
              refine alt_y rfl rfl hb_3 ?_ vp_none
              refine H_call HB_12 H fun _ h H => ⟨(hskip rfl hnil), ?_⟩
              refine alt_y rfl rfl hb_3 ?_ vp_none
              refine H_call HB_23 H fun t84 h H => ⟨hnil, ?_⟩
              refine pA rfl (R_pickC (v := t84) true hb_3 rfl) <| pM t84 rfl rfl ?_
              obtain ⟨b_4, hb_4, H1, H2⟩ := H
              cases b_4
              · have H := H2 rfl
                clear H1 H2
                refine alt_s rfl rfl (nbT hb_4) ?_ vp_none
                exact pA rfl (R_pickC (v := (.bool false)) false hb_4 rfl) <| pS (.bool false) rfl rfl <| vp_done <| WPc_ret <| resH_of rfl <| H
              · have H := H1 rfl
                clear H1 H2
                refine alt_y rfl rfl hb_4 ?_ vp_none
                refine H_call HB_10 H fun t87 h H => ⟨hnil, ?_⟩
                exact pA rfl (R_pickC (v := t87) true hb_4 rfl) <| pS t87 rfl rfl <| vp_done <| WPc_ret <| resH_of rfl <| H
      refine sR <| nP (R_fld TF_28_1) H fun _ H => nL T1_26 H fun _ H => nP (R_len Try.underlying26) H fun _ H => nM (.int .i64 0) rfl <| vl_e <| WPc_block ?_
      refine loop_at (fun e => [e 44]) (fun e => [e 2, e 4, e 7, e 8, e 42, e 43]) H rfl rfl ?_
      intro K1 e1 h H hin1
      replace H : l_FnNRebalance.l4.b (e1 2) (e1 4) (e1 7) (e1 8) (e1 42) (e1 43) (e1 44) h K1 Q := H
      unfold l_FnNRebalance.l4.b at H
      clear hin1
      refine sR <| nP R_lss H fun _ H => vl_e ?_
      refine WPc_seq (fun e h => l_FnNRebalance.j5 (e 2) (e 4) (e 7) (e 8) (e 42) (e 43) (e 44) h K1 Q ∧ [e1 2, e1 4, e1 7, e1 8, e1 42, e1 43] = [e 2, e 4, e 7, e 8, e 42, e 43]) ?_ (fun e h ⟨H, hq1⟩ => ?_)
      rotate_left
      · unfold l_FnNRebalance.j5 at H
        refine WPc_seq (fun e h => l_FnNRebalance.j6 (e 2) (e 4) (e 7) (e 8) (e 42) (e 43) (e 44) h K1 Q ∧ [e1 2, e1 4, e1 7, e1 8, e1 42, e1 43] = [e 2, e 4, e 7, e 8, e 42, e 43]) ?_ (fun e h ⟨H, hq1⟩ => ?_)
        rotate_left
        · unfold l_FnNRebalance.j6 at H
          refine W_region (by kernel_rfl) <| nP R_add H fun t54 H => nM t54 rfl <| vl_e ?_
          exact ⟨H, hq1⟩
        refine WPc_block <| sR <| nP (R_idx TE_26) H fun _ H => nLN TN_28 H fun _ H => vl_n <| H_alloc TV_28 H fun _ h H => vl_n <| H_storeN TS_28 H fun h H => vl_e <| sR <| nM (e 7) rfl <| nM (e 7) rfl <| nP R_sub H fun _ H => nLN TN_28 H fun _ H => vl_n <| H_call HB_19 H fun _ h H => nP R_not H fun _ H => ?_
        refine vl_e ?_
        refine cI H (fun H => ?_) fun H => ?_
        · exact sR <| nS (.bool false) rfl <| vl_e <| WPc_ret <| resH_of rfl <| H
        · refine WPc_skip ?_
          exact ⟨H, hq1⟩
      refine cI H (fun H => ?_) fun H => ?_
      · refine WPc_skip ?_
        exact ⟨H, rfl⟩
      · refine WPc_exit ?_
        exact H
    refine sR <| nLN TN_24 H fun _ H => vl_n <| H_call HB_15 H fun _ h H => nP R_not H fun t25 H => nM t25 rfl ?_
    obtain ⟨b, hb, H1, H2⟩ := H
    cases b
    · have H := H1 rfl
      clear H1 H2
      refine vl_y rfl hb ?_
      refine H_of_R (R_loadN TN_24 H fun _ _ _ _ H _ _ => ?_)
      refine vl_y rfl hb ?_
      refine H_of_R (R_loadN TN_28 H fun _ _ _ _ H _ _ => ?_)
      refine vl_y rfl hb ?_
      refine H_of_R (R_move (v := (e 2)) rfl ?_)
      refine vl_y rfl hb ?_
      refine H_call HB_16 H fun _ h H => ?_
      refine vl_y rfl hb ?_
      refine H_of_R (R_not H fun t31 H => ?_)
      refine nA (R_pickC (v := t31) false hb rfl) <| vl_e ?_
      refine cI H (fun H => ?_) fun H => ?_
      · exact sR <| vl_n <| H_call HB_10 H fun t33 h H => nS t33 rfl <| vl_e <| WPc_ret <| resH_of rfl <| H
      · exact WPc_skip <| H
    · have H := H2 rfl
      clear H1 H2
      refine vl_s rfl (nbF hb) ?_
      refine vl_s rfl (nbF hb) ?_
      refine vl_s rfl (nbF hb) ?_
      refine vl_s rfl (nbF hb) ?_
      refine vl_s rfl (nbF hb) ?_
      refine nA (R_pickC (v := (.bool true)) true hb rfl) <| vl_e ?_
      refine WPc_cond (t := true) rfl (fun _ => ?_) (fun hh => by cases hh)
      exact sR <| vl_n <| H_call HB_10 H fun t33_2 h H => nS t33_2 rfl <| vl_e <| WPc_ret <| resH_of rfl <| H
  refine sR <| nLN TN_24 H fun _ H => vl_n <| H_call HB_7 H fun _ h H => nP R_not H fun t17 H => nM t17 rfl ?_
  obtain ⟨b, hb, H1, H2⟩ := H
  cases b
  · have H := H1 rfl
    clear H1 H2
    refine vl_y rfl hb ?_
    refine H_of_R (R_loadN TN_28 H fun _ _ _ _ H _ _ => ?_)
    refine vl_y rfl hb ?_
    refine H_call HB_8 H fun _ h H => ?_
    refine vl_y rfl hb ?_
    refine H_of_R (R_not H fun t21 H => ?_)
    refine nA (R_pickC (v := t21) false hb rfl) <| vl_e ?_
    refine cI H (fun H => ?_) fun H => ?_
    · exact sR <| nS (.bool true) rfl <| vl_e <| WPc_ret <| resH_of rfl <| H
    · exact WPc_skip <| H
  · have H := H2 rfl
    clear H1 H2
    refine vl_s rfl (nbF hb) ?_
    refine vl_s rfl (nbF hb) ?_
    refine vl_s rfl (nbF hb) ?_
    refine nA (R_pickC (v := (.bool true)) true hb rfl) <| vl_e ?_
    refine WPc_cond (t := true) rfl (fun _ => ?_) (fun hh => by cases hh)
    exact sR <| nS (.bool true) rfl <| vl_e <| WPc_ret <| resH_of rfl <| H
end Go.Proofs.Ytgnnidefbeoibaa
end
section
namespace Go.Proofs.Ytgnnidefbeoibaa
open Go.Hp
set_option maxRecDepth 100000
set_option maxHeartbeats 8000000
set_option linter.unusedVariables false
set_option linter.unusedSimpArgs false

/-! ### slices.Clone[[]int,int] -/
def sl_Clone_inti.j1 (s0 : Value) (h : Heap) (Q : Value → Heap → Prop) : Prop := mkSl (if 0 * 1 = 0 then [] else zeros [(.int .i64 0)] 0) 0 [] 3 h fun b h=>app 3 1 8 [(.int .i64 0)] b s0 h fun d h=>Q d h
def sl_Clone_inti.sh (a0 : Value) (h : Heap) (Q : Value → Heap → Prop) : Prop := eqNilS a0 fun b=>ifV b (Q (.slice none 0 0) h) (sl_Clone_inti.j1 a0 h Q)
theorem sl_Clone_inti.body (a0 : Value) (h : Heap) (Q : Value → Heap → Prop) (H : sl_Clone_inti.sh a0 h Q) : sl_Clone_inti.call #[a0] h Q := by
  refine callsH_of (args := [a0]) Try.func101 rfl rfl ?_
  unfold sl_Clone_inti.sh at H
  refine sR <| nS (.slice none 0 0) rfl <| vl_e ?_
  refine WPc_seq (fun e h => sl_Clone_inti.j1 (e 0) h Q) ?_ (fun e h H => ?_)
  rotate_left
  · unfold sl_Clone_inti.j1 at H
    exact sR <| vl_n <| H_mkSl TZ_22 (by decide) rfl H rfl fun _ h H => nM (e 0) rfl <| vl_n <| H_app TZ_22 TU_22 H fun t7 h H => nS t7 rfl <| vl_e <| WPc_ret <| resH_of rfl <| H
  refine sR <| nM a0 rfl <| nP (R_eqNilS Try.underlying22 rfl) H fun _ H => vl_e ?_
  refine cI H (fun H => ?_) fun H => ?_
  · exact sR <| nS (.slice none 0 0) rfl <| vl_e <| WPc_ret <| resH_of rfl <| H
  · exact WPc_skip <| H
/-! ### impl.remainder -/
def i_remainder.sh (a0 a1 : Value) (h : Heap) (Q : Value → Heap → Prop) : Prop := remi a0 a1 fun b=>arith (· + ·) b a1 fun d=>remi d a1 fun g=>Q g h
theorem i_remainder.body (a0 a1 : Value) (h : Heap) (Q : Value → Heap → Prop) (H : i_remainder.sh a0 a1 h Q) : i_remainder.call #[a0, a1] h Q := by
  refine callsH_of (args := [a0, a1]) Try.func53 rfl rfl ?_
  unfold i_remainder.sh at H
  refine sR <| nS (.int .i64 0) rfl <| vl_e <| sR <| nM a0 rfl <| nM a1 rfl <| nP R_rem H fun _ H => nM a1 rfl <| nP R_add H fun _ H => nM a1 rfl <| nP R_rem H fun t11 H => nS t11 rfl <| vl_e <| WPc_ret ?_
  exact resH_of rfl <| H
/-! ### impl.rank -/
def i_rank.j1 (s0 s1 : Value) (h : Heap) (Q : Value → Heap → Prop) : Prop := lenV s0 fun b=>i_remainder.call #[s1, b] h fun d h=>idx 1 s0 d fun g=>load1 g h fun i=>Q i h
def i_rank.sh (a0 a1 : Value) (h : Heap) (Q : Value → Heap → Prop) : Prop := lenV a0 fun b=>cmpI (fun a b=>a == b) b (.int .i64 0) fun d=>ifV d (Q a1 h) (i_rank.j1 a0 a1 h Q)
theorem i_rank.body (a0 a1 : Value) (h : Heap) (Q : Value → Heap → Prop) (H : i_rank.sh a0 a1 h Q) : i_rank.call #[a0, a1] h Q := by
  refine callsH_of (args := [a0, a1]) Try.func103 rfl rfl ?_
  unfold i_rank.sh at H
  refine sR <| nS (.int .i64 0) rfl <| vl_e ?_
  refine WPc_seq (fun e h => i_rank.j1 (e 0) (e 1) h Q) ?_ (fun e h H => ?_)
  rotate_left
  · unfold i_rank.j1 at H
    exact sR <| nM (e 0) rfl <| nM (e 1) rfl <| nM (e 0) rfl <| nP (R_len Try.underlying22) H fun _ H => vl_n <| H_call HB_53 H fun _ h H => nP (R_idx TE_22) H fun _ H => nL T1_3 H fun t15 H => nS t15 rfl <| vl_e <| WPc_ret <| resH_of rfl <| H
  refine sR <| nM a0 rfl <| nP (R_len Try.underlying22) H fun _ H => nP R_eqI H fun _ H => vl_e ?_
  refine cI H (fun H => ?_) fun H => ?_
  · exact sR <| nM a1 rfl <| nS a1 rfl <| vl_e <| WPc_ret <| resH_of rfl <| H
  · exact WPc_skip <| H
/-! ### impl.before$1 -/
def i_before_c1.sh (a0 a1 f0 : Value) (h : Heap) (Q : Value → Heap → Prop) : Prop := box 52 a0 h fun b h=>box 52 a1 h fun d h=>load1 f0 h fun g=>fld 0 b fun i=>load1 i h fun j=>load1 f0 h fun k=>fld 0 d fun l=>load1 l h fun m=>i_rank.call #[g, j] h fun n h=>still1 f0 k h ∧ still1 l m h ∧ i_rank.call #[k, m] h fun o h=>cmpI (fun a b=>decide (a < b)) n o fun p=>Q p h
theorem i_before_c1.body (a0 a1 f0 : Value) (h : Heap) (Q : Value → Heap → Prop) (H : i_before_c1.sh a0 a1 f0 h Q) : i_before_c1.call #[a0, a1, f0] h Q := by
  refine callsH_of (args := [a0, a1, f0]) Try.func102 rfl rfl ?_
  unfold i_before_c1.sh at H
  refine sR <| vl_n <| H_box H fun _ h H => vl_n <| H_box H fun _ h H => nS (.bool false) rfl <| vl_e <| WPc_seq' <| W_drawn [0, 0, 2, 7, 0, 0, 32, 127, 255, 511] (.take 0 (.take 1 (.take 2 (.take 4 (.take 5 (.take 6 (.alt 3 (.alt 7 (.take 8 (.take 9 .done)) .none) .none))))))) mixed (by kernel_rfl) <| pL rfl T1_22 H fun _ _ _ H => pP rfl (R_fld TF_52_0) H fun _ H => pL rfl T1_3 H fun _ _ _ H => pL rfl T1_22 H fun _ _ hat10 H => pP rfl (R_fld TF_52_0) H fun _ H => pL rfl T1_3 H fun _ _ hat12 H => aE rfl <| H_call HB_103 H fun _ h ⟨S, S_2, H⟩ => ⟨(hcons rfl (still_1 S_2 hat12) (hcons rfl (still_1 S hat10) (hskip rfl (hskip rfl hnil)))), ?_⟩
  exact aE rfl <| H_call HB_103 H fun _ h H => ⟨(hskip rfl (hskip rfl hnil)), pP rfl R_lss H fun t14 H => pS t14 rfl rfl <| vp_done <| WPc_ret <| resH_of rfl <| H⟩
/-! ### impl.before -/
def i_before.sh (a0 : Value) (h : Heap) (Q : Value → Heap → Prop) : Prop := sl_Clone_inti.call #[a0] h fun b h=>alloc [(.slice none 0 0)] 22 h fun d h=>store1 d b h fun h=>Q (.func (.func 102) #[] #[d]) h
theorem i_before.body (a0 : Value) (h : Heap) (Q : Value → Heap → Prop) (H : i_before.sh a0 h Q) : i_before.call #[a0] h Q := by
  refine callsH_of (args := [a0]) Try.func79 rfl rfl ?_
  unfold i_before.sh at H
  refine sR <| nS .nilFunc rfl <| vl_e <| sR <| nM a0 rfl <| vl_n <| H_call HB_101 H fun _ h H => vl_n <| H_alloc TV_22 H fun t3 h H => vl_n <| H_store1 TS_22 H fun h H => vl_e <| sR <| nA (R_mkFn (v := (.func (.func 102) #[] #[t3])) rfl) <| nS (.func (.func 102) #[] #[t3]) rfl <| vl_e <| WPc_ret ?_
  exact resH_of rfl <| H
/-! ### impl.grow -/
def i_grow.j1 (s5 : Value) (h : Heap) (Q : Value → Heap → Prop) : Prop := Q s5 h
def i_grow.j4 (s5 s14 s15 s16 : Value) (h : Heap) (K1 : List Value → Heap → Prop) (Q : Value → Heap → Prop) : Prop := arith (· + ·) s16 (.int .i64 1) fun b=>K1 [b] h
def i_grow.j3 (s5 s14 s15 s16 : Value) (h : Heap) (K1 : List Value → Heap → Prop) (Q : Value → Heap → Prop) : Prop := idx 2 s14 s16 fun b=>loadN 2 b h fun d=>alloc [(.int .i64 0), (.int .i64 0)] 52 h fun g h=>storeN 2 g d h fun h=>loadN 2 g h fun i=>BTreeG_I_Set.call #[s5, i] h fun j h=>i_grow.j4 s5 s14 s15 s16 h K1 Q
def i_grow.l2.b (c5 c14 c15 s16 : Value) (h : Heap) (K1 : List Value → Heap → Prop) (Q : Value → Heap → Prop) : Prop := cmpI (fun a b=>decide (a < b)) s16 c15 fun b=>ifV b (i_grow.j3 c5 c14 c15 s16 h K1 Q) (i_grow.j1 c5 h Q)
def i_grow.sh (a0 a1 : Value) (h : Heap) (Q : Value → Heap → Prop) : Prop := box 24 a0 h fun b h=>fld 0 b fun d=>load1 d h fun g=>loadN 3 b h fun i=>i_before.call #[g] h fun j h=>stillN 3 b i h ∧ i_options.call #[i] h fun k h=>NewBTreeGOptions_I.call #[j, k] h fun l h=>lenV a1 fun m=>loopC (fun c s h K1=>i_grow.l2.b (c.getD 0 undef) (c.getD 1 undef) (c.getD 2 undef) (s.getD 0 undef) h K1 Q) [l, a1, m] [(.int .i64 0)] h
theorem i_grow.body (a0 a1 : Value) (h : Heap) (Q : Value → Heap → Prop) (H : i_grow.sh a0 a1 h Q) : i_grow.call #[a0, a1] h Q := by
  refine callsH_of (args := [a0, a1]) Try.func43 rfl rfl ?_
  unfold i_grow.sh at H
  refine sR <| vl_n <| H_box H fun _ h H => nS (.pointer none) rfl <| vl_e <| WPc_seq' <| W_drawn [0, 1, 3, 0, 15, 31, 63] (.take 0 (.take 1 (.take 3 (.alt 2 (.alt 4 (.alt 5 (.take 6 .done) .none) .none) .none)))) mixed (by kernel_rfl) <| pP rfl (R_fld TF_24_0) H fun _ H => pL rfl T1_22 H fun _ _ _ H => tkL rfl <| R_loadN TN_24 H fun _ _ hat11 _ H _ hSt11 => aE rfl <| H_call HB_79 H fun _ h ⟨S, H⟩ => ⟨(hcons rfl (hSt11 _ (still_N S hat11 rfl)) (hskip rfl hnil)), aE rfl <| H_call HB_63 H fun _ h H => ⟨(hskip rfl hnil), aE rfl <| H_call HB_61 H fun t13 h H => ⟨hnil, pS t13 rfl rfl <| vp_done ?_⟩⟩⟩
  refine WPc_seq (fun e h => i_grow.j1 (e 5) h Q) ?_ (fun e h H => ?_)
  rotate_left
  · unfold i_grow.j1 at H
    exact sR <| nM (e 5) rfl <| nS (e 5) rfl <| vl_e <| WPc_ret <| resH_of rfl <| H
  refine sR <| nM a1 rfl <| nP (R_len Try.underlying25) H fun _ H => nM (.int .i64 0) rfl <| vl_e <| WPc_block ?_
  refine loop_at (fun e => [e 16]) (fun e => [e 5, e 14, e 15]) H rfl rfl ?_
  intro K1 e1 h H hin1
  replace H : i_grow.l2.b (e1 5) (e1 14) (e1 15) (e1 16) h K1 Q := H
  unfold i_grow.l2.b at H
  clear hin1
  refine sR <| nP R_lss H fun _ H => vl_e ?_
  refine WPc_seq (fun e h => i_grow.j3 (e 5) (e 14) (e 15) (e 16) h K1 Q ∧ [e1 5, e1 14, e1 15] = [e 5, e 14, e 15]) ?_ (fun e h ⟨H, hq1⟩ => ?_)
  rotate_left
  · unfold i_grow.j3 at H
    refine WPc_seq (fun e h => i_grow.j4 (e 5) (e 14) (e 15) (e 16) h K1 Q ∧ [e1 5, e1 14, e1 15] = [e 5, e 14, e 15]) ?_ (fun e h ⟨H, hq1⟩ => ?_)
    rotate_left
    · unfold i_grow.j4 at H
      refine W_region (by kernel_rfl) <| nP R_add H fun t23 H => nM t23 rfl <| vl_e ?_
      exact ⟨H, hq1⟩
    refine WPc_block <| sR <| nP (R_idx TE_25) H fun _ H => nLN TN_52 H fun _ H => vl_n <| H_alloc TV_52 H fun _ h H => vl_n <| H_storeN TS_52 H fun h H => vl_e <| W_region (by kernel_rfl) <| nM (e 5) rfl <| nLN TN_52 H fun _ H => vl_n <| H_call HB_64 H fun _ h H => vl_e ?_
    exact ⟨H, hq1⟩
  refine cI H (fun H => ?_) fun H => ?_
  · refine WPc_skip ?_
    exact ⟨H, rfl⟩
  · refine WPc_exit ?_
    exact H
/-! ### (*pub/tidwallbtree.BTreeG[impl.Item]).DoorLeaf -/
def BTreeG_I_DoorLeaf.sh (a0 a1 : Value) (h : Heap) (Q : Value → Heap → Prop) : Prop := alloc [(.pointer none)] 91 h fun b h=>BTreeG_I_newNode.call #[a0, (.bool true)] h fun d h=>nilck d fun g=>fld 2 g fun i=>store1 i a1 h fun h=>buildV [(.pointer none)] [(0, 1, d)] fun j=>storeN 1 b j h fun h=>loadN 1 b h fun k=>Q k h
theorem BTreeG_I_DoorLeaf.body (a0 a1 : Value) (h : Heap) (Q : Value → Heap → Prop) (H : BTreeG_I_DoorLeaf.sh a0 a1 h Q) : BTreeG_I_DoorLeaf.call #[a0, a1] h Q := by
  refine callsH_of (args := [a0, a1]) Try.func80 rfl rfl ?_
  unfold BTreeG_I_DoorLeaf.sh at H
  refine sR <| vl_n <| H_alloc TV_91 H fun _ h H => vl_e <| sR <| nM a0 rfl <| vl_n <| H_call HB_104 H fun t7 h H => nS t7 rfl <| vl_e <| sR <| nM t7 rfl <| nM a1 rfl <| nP R_nil H fun _ H => nP (R_fld TF_149_2) H fun _ H => vl_n <| H_store1 TS_25 H fun h H => ?_
  exact vl_e <| sR <| nM t7 rfl <| nP (R_build TB_91 rfl (by decide)) H fun _ H => vl_n <| H_storeN TS_91 H fun h H => vl_e <| WPc_ret <| resH_of rfl <| resL_N TN_91 <| loadN_imp H fun r4 H => H
/-! ### (pub/tidwallbtree.DoorNode[impl.Item]).DoorUpdateCount -/
def DoorNode_I_DoorUpdateCount.sh (a0 : Value) (h : Heap) (Q : Value → Heap → Prop) : Prop := box 91 a0 h fun b h=>fld 0 b fun d=>load1 d h fun g=>node_I_updateCount.call #[g] h fun i h=>Q (.tuple #[]) h
theorem DoorNode_I_DoorUpdateCount.body (a0 : Value) (h : Heap) (Q : Value → Heap → Prop) (H : DoorNode_I_DoorUpdateCount.sh a0 h Q) : DoorNode_I_DoorUpdateCount.call #[a0] h Q := by
  refine callsH_of (args := [a0]) Try.func81 rfl rfl ?_
  unfold DoorNode_I_DoorUpdateCount.sh at H
  exact sR <| vl_n <| H_box H fun _ h H => vl_e <| W_region (by kernel_rfl) <| nP (R_fld TF_91_0) H fun _ H => nL T1_76 H fun _ H => vl_n <| H_call HB_105 H fun _ h H => vl_e <| resH_of rfl <| H
/-! ### (*pub/tidwallbtree.BTreeG[impl.Item]).DoorInner -/
def BTreeG_I_DoorInner.sh (a0 a1 : Value) (h : Heap) (Q : Value → Heap → Prop) : Prop := alloc [(.pointer none)] 91 h fun b h=>BTreeG_I_newNode.call #[a0, (.bool false)] h fun d h=>nilck d fun g=>fld 2 g fun i=>store1 i a1 h fun h=>buildV [(.pointer none)] [(0, 1, d)] fun j=>storeN 1 b j h fun h=>loadN 1 b h fun k=>Q k h
theorem BTreeG_I_DoorInner.body (a0 a1 : Value) (h : Heap) (Q : Value → Heap → Prop) (H : BTreeG_I_DoorInner.sh a0 a1 h Q) : BTreeG_I_DoorInner.call #[a0, a1] h Q := by
  refine callsH_of (args := [a0, a1]) Try.func82 rfl rfl ?_
  unfold BTreeG_I_DoorInner.sh at H
  refine sR <| vl_n <| H_alloc TV_91 H fun _ h H => vl_e <| sR <| nM a0 rfl <| vl_n <| H_call HB_104 H fun t7 h H => nS t7 rfl <| vl_e <| sR <| nM t7 rfl <| nM a1 rfl <| nP R_nil H fun _ H => nP (R_fld TF_149_2) H fun _ H => vl_n <| H_store1 TS_25 H fun h H => ?_
  exact vl_e <| sR <| nM t7 rfl <| nP (R_build TB_91 rfl (by decide)) H fun _ H => vl_n <| H_storeN TS_91 H fun h H => vl_e <| WPc_ret <| resH_of rfl <| resL_N TN_91 <| loadN_imp H fun r4 H => H

end Go.Proofs.Ytgnnidefbeoibaa
end
section
namespace Go.Proofs.Ytgnnidefbeoibaa
open Go.Hp
set_option maxRecDepth 100000
set_option maxHeartbeats 8000000
set_option linter.unusedVariables false
set_option linter.unusedSimpArgs false

/-! ### (pub/tidwallbtree.DoorNode[impl.Item]).DoorAppend -/
def DoorNode_I_DoorAppend.sh (a0 a1 : Value) (h : Heap) (Q : Value → Heap → Prop) : Prop := box 91 a0 h fun b h=>box 91 a1 h fun d h=>fld 0 b fun g=>load1 g h fun i=>nilck i fun j=>fld 3 j fun k=>load1 k h fun l=>fld 0 b fun m=>load1 m h fun n=>nilck n fun o=>fld 3 o fun p=>load1 p h fun q=>nilck q fun u=>load1 u h fun v=>fld 0 d fun w=>load1 w h fun x=>mkSl (if 1 * 1 = 0 then [] else zeros [(.pointer none)] 1) 1 [(0 * 1, 1, x)] 76 h fun y h=>still1 g i h ∧ still1 k l h ∧ still1 m n h ∧ still1 p q h ∧ still1 u v h ∧ app 76 1 8 [(.pointer none)] v y h fun z h=>still1 g i h ∧ still1 k l h ∧ nilck l fun b0=>store1 b0 z h fun h=>Q (.tuple #[]) h
theorem DoorNode_I_DoorAppend.body (a0 a1 : Value) (h : Heap) (Q : Value → Heap → Prop) (H : DoorNode_I_DoorAppend.sh a0 a1 h Q) : DoorNode_I_DoorAppend.call #[a0, a1] h Q := by
  refine callsH_of (args := [a0, a1]) Try.func83 rfl rfl ?_
  unfold DoorNode_I_DoorAppend.sh at H
  refine sR <| vl_n <| H_box H fun _ h H => vl_n <| H_box H fun _ h H => vl_e <| W_drawn [0, 1, 3, 7, 15, 0, 32, 96, 224, 480, 992, 2016, 0, 4096, 12288, 32736, 65535, 131071] (.take 0 (.take 1 (.take 2 (.take 3 (.take 4 (.take 5 (.take 6 (.take 7 (.take 8 (.take 9 (.take 10 (.take 11 (.take 12 (.take 13 (.alt 14 (.alt 15 (.take 16 (.alt 17 .done .none)) .none) .none))))))))))))))) mixed (by kernel_rfl) <| pP rfl (R_fld TF_91_0) H fun _ H => pL rfl T1_76 H fun _ _ hat5 H => pP rfl R_nil H fun _ H => pP rfl (R_fld TF_149_3) H fun _ H => pL rfl T1_147 H fun _ _ hat8 H => pP rfl (R_fld TF_91_0) H fun _ H => pL rfl T1_76 H fun _ _ hat10 H => pP rfl R_nil H fun _ H => pP rfl (R_fld TF_149_3) H fun _ H => ?_
  exact pL rfl T1_147 H fun _ _ hat13 H => pP rfl R_nil H fun _ H => pL rfl T1_146 H fun _ _ hat15 H => pP rfl (R_fld TF_91_0) H fun _ H => pL rfl T1_76 H fun _ _ _ H => aE rfl <| H_mkSl TZ_146 (by decide) rfl H rfl fun _ h ⟨S, S_2, S_3, S_4, S_5, H⟩ => ⟨(hskip rfl (hcons rfl (still_1 S_5 hat15) (hcons rfl (still_1 S_4 hat13) (hcons rfl (still_1 S_3 hat10) (hcons rfl (still_1 S_2 hat8) (hcons rfl (still_1 S hat5) hnil)))))), aE rfl <| H_app TZ_146 TU_146 H fun _ h ⟨S_6, S_7, H⟩ => ⟨(hskip rfl (hskip rfl (hskip rfl (hcons rfl (still_1 S_7 hat8) (hcons rfl (still_1 S_6 hat5) hnil))))), pP rfl R_nil H fun _ H => aE rfl <| H_store1 TS_146 H fun h H => ⟨(hskip rfl (hskip rfl hnil)), vp_done <| resH_of rfl <| H⟩⟩⟩
/-! ### impl.planted -/
def i_planted.j2 (s4 s7 : Value) (h : Heap) (Q : Value → Heap → Prop) : Prop := loadN 1 s7 h fun b=>DoorNode_I_DoorUpdateCount.call #[b] h fun d h=>loadN 1 s7 h fun g=>storeN 1 s4 g h fun h=>loadN 1 s4 h fun i=>Q i h
def i_planted.j5 (s0 s4 s7 s27 s28 s29 : Value) (h : Heap) (K1 : List Value → Heap → Prop) (Q : Value → Heap → Prop) : Prop := arith (· + ·) s29 (.int .i64 1) fun b=>K1 [b] h
def i_planted.j4 (s0 s4 s7 s27 s28 s29 : Value) (h : Heap) (K1 : List Value → Heap → Prop) (Q : Value → Heap → Prop) : Prop := idx 3 s27 s29 fun b=>loadN 3 b h fun d=>alloc [(.slice none 0 0), (.slice none 0 0), (.int .i64 0)] 28 h fun g h=>storeN 3 g d h fun h=>loadN 1 s7 h fun i=>loadN 3 g h fun j=>i_planted.call #[s0, j] h fun k h=>stillN 1 s7 i h ∧ DoorNode_I_DoorAppend.call #[i, k] h fun l h=>i_planted.j5 s0 s4 s7 s27 s28 s29 h K1 Q
def i_planted.l3.b (c0 c4 c7 c27 c28 s29 : Value) (h : Heap) (K1 : List Value → Heap → Prop) (Q : Value → Heap → Prop) : Prop := cmpI (fun a b=>decide (a < b)) s29 c28 fun b=>ifV b (i_planted.j4 c0 c4 c7 c27 c28 s29 h K1 Q) (i_planted.j2 c4 c7 h Q)
def i_planted.j1 (s0 s3 s4 s5 : Value) (h : Heap) (Q : Value → Heap → Prop) : Prop := BTreeG_I_DoorInner.call #[s0, s5] h fun b h=>alloc [(.pointer none)] 91 h fun d h=>storeN 1 d b h fun h=>fld 1 s3 fun g=>load1 g h fun i=>lenV i fun j=>loopC (fun c s h K1=>i_planted.l3.b (c.getD 0 undef) (c.getD 1 undef) (c.getD 2 undef) (c.getD 3 undef) (c.getD 4 undef) (s.getD 0 undef) h K1 Q) [s0, s4, d, i, j] [(.int .i64 0)] h
def i_planted.sh (a0 a1 : Value) (h : Heap) (Q : Value → Heap → Prop) : Prop := box 28 a1 h fun b h=>alloc [(.pointer none)] 91 h fun d h=>fld 0 b fun g=>load1 g h fun i=>app 52 2 16 [(.int .i64 0), (.int .i64 0)] (.slice none 0 0) i h fun j h=>fld 1 b fun k=>load1 k h fun l=>lenV l fun m=>cmpI (fun a b=>a == b) m (.int .i64 0) fun n=>ifV n (BTreeG_I_DoorLeaf.call #[a0, j] h fun o h=>alloc [(.pointer none)] 91 h fun p h=>storeN 1 p o h fun h=>loadN 1 p h fun q=>DoorNode_I_DoorUpdateCount.call #[q] h fun u h=>loadN 1 p h fun v=>storeN 1 d v h fun h=>loadN 1 d h fun w=>Q w h) (i_planted.j1 a0 b d j h Q)
theorem i_planted.body (a0 a1 : Value) (h : Heap) (Q : Value → Heap → Prop) (H : i_planted.sh a0 a1 h Q) : i_planted.call #[a0, a1] h Q := by
  refine callsH_of (args := [a0, a1]) Try.func44 rfl rfl ?_
  unfold i_planted.sh at H
  refine sR <| vl_n <| H_box H fun _ h H => vl_n <| H_alloc TV_91 H fun _ h H => vl_e <| sR <| nP (R_fld TF_28_0) H fun _ H => nL T1_25 H fun _ H => vl_n <| H_app TZ_25 TU_25 H fun t12 h H => nS t12 rfl <| vl_e ?_
  refine WPc_seq (fun e h => i_planted.j1 (e 0) (e 3) (e 4) (e 5) h Q) ?_ (fun e h H => ?_)
  rotate_left
  · unfold i_planted.j1 at H
    refine sR <| nM (e 0) rfl <| nM (e 5) rfl <| vl_n <| H_call HB_82 H fun _ h H => vl_n <| H_alloc TV_91 H fun _ h H => vl_n <| H_storeN TS_91 H fun h H => vl_e ?_
    refine WPc_seq (fun e h => i_planted.j2 (e 4) (e 7) h Q) ?_ (fun e h H => ?_)
    rotate_left
    · unfold i_planted.j2 at H
      exact sR <| nLN TN_91 H fun _ H => vl_n <| H_call HB_81 H fun _ h H => vl_e <| sR <| nLN TN_91 H fun _ H => vl_n <| H_storeN TS_91 H fun h H => vl_e <| WPc_ret <| resH_of rfl <| resL_N TN_91 <| loadN_imp H fun r4 H => H
    refine sR <| nP (R_fld TF_28_1) H fun _ H => nL T1_26 H fun _ H => nP (R_len Try.underlying26) H fun _ H => nM (.int .i64 0) rfl <| vl_e <| WPc_block ?_
    refine loop_at (fun e => [e 29]) (fun e => [e 0, e 4, e 7, e 27, e 28]) H rfl rfl ?_
    intro K1 e1 h H hin1
    replace H : i_planted.l3.b (e1 0) (e1 4) (e1 7) (e1 27) (e1 28) (e1 29) h K1 Q := H
    unfold i_planted.l3.b at H
    clear hin1
    refine sR <| nP R_lss H fun _ H => vl_e ?_
    refine WPc_seq (fun e h => i_planted.j4 (e 0) (e 4) (e 7) (e 27) (e 28) (e 29) h K1 Q ∧ [e1 0, e1 4, e1 7, e1 27, e1 28] = [e 0, e 4, e 7, e 27, e 28]) ?_ (fun e h ⟨H, hq1⟩ => ?_)
    rotate_left
    · unfold i_planted.j4 at H
      refine WPc_seq (fun e h => i_planted.j5 (e 0) (e 4) (e 7) (e 27) (e 28) (e 29) h K1 Q ∧ [e1 0, e1 4, e1 7, e1 27, e1 28] = [e 0, e 4, e 7, e 27, e 28]) ?_ (fun e h ⟨H, hq1⟩ => ?_)
      rotate_left
      · unfold i_planted.j5 at H
        refine W_region (by kernel_rfl) <| nP R_add H fun t38 H => nM t38 rfl <| vl_e ?_
        exact ⟨H, hq1⟩
      refine WPc_block <| sR <| nP (R_idx TE_26) H fun _ H => nLN TN_28 H fun _ H => vl_n <| H_alloc TV_28 H fun _ h H => vl_n <| H_storeN TS_28 H fun h H => vl_e <| W_drawn [0, 0, 0, 6, 15] (.take 0 (.take 1 (.take 2 (.alt 3 (.alt 4 .done .none) .none)))) mixed (by kernel_rfl) <| tkL rfl <| R_loadN TN_91 H fun _ _ hat33 _ H _ hSt33 => pM (e 0) rfl rfl <| tkL rfl <| R_loadN TN_28 H fun _ _ _ _ H _ _ => aE rfl <| H_call HB_44 H fun _ h ⟨S, H⟩ => ⟨(hskip rfl (hcons rfl (hSt33 _ (still_N S hat33 rfl)) hnil)), aE rfl <| H_call HB_83 H fun _ h H => ⟨(hskip rfl hnil), vp_done ?_⟩⟩
      exact ⟨H, hq1⟩
    refine cI H (fun H => ?_) fun H => ?_
    · refine WPc_skip ?_
      exact ⟨H, rfl⟩
    · refine WPc_exit ?_
      exact H
  refine sR <| nP (R_fld TF_28_1) H fun _ H => nL T1_26 H fun _ H => nP (R_len Try.underlying26) H fun _ H => nP R_eqI H fun _ H => vl_e ?_
  refine cI H (fun H => ?_) fun H => ?_
  · refine sR <| nM a0 rfl <| nM t12 rfl <| vl_n <| H_call HB_80 H fun _ h H => vl_n <| H_alloc TV_91 H fun _ h H => vl_n <| H_storeN TS_91 H fun h H => vl_e <| sR <| nLN TN_91 H fun _ H => vl_n <| H_call HB_81 H fun _ h H => vl_e <| sR <| nLN TN_91 H fun _ H => vl_n <| H_storeN TS_91 H fun h H => ?_
    exact vl_e <| WPc_ret <| resH_of rfl <| resL_N TN_91 <| loadN_imp H fun r4 H => H
  · exact WPc_skip <| H
/-! ### (*pub/tidwallbtree.BTreeG[impl.Item]).DoorPlant -/
def BTreeG_I_DoorPlant.sh (a0 a1 : Value) (h : Heap) (Q : Value → Heap → Prop) : Prop := box 91 a1 h fun b h=>fld 0 b fun d=>load1 d h fun g=>fld 0 b fun i=>load1 i h fun j=>nilck j fun k=>fld 1 k fun l=>load1 l h fun m=>nilck a0 fun n=>fld 2 n fun o=>store1 o g h fun h=>nilck a0 fun p=>fld 3 p fun q=>store1 q m h fun h=>Q (.tuple #[]) h
theorem BTreeG_I_DoorPlant.body (a0 a1 : Value) (h : Heap) (Q : Value → Heap → Prop) (H : BTreeG_I_DoorPlant.sh a0 a1 h Q) : BTreeG_I_DoorPlant.call #[a0, a1] h Q := by
  refine callsH_of (args := [a0, a1]) Try.func70 rfl rfl ?_
  unfold BTreeG_I_DoorPlant.sh at H
  refine sR <| vl_n <| H_box H fun _ h H => vl_e <| W_drawn [0, 0, 0, 4, 0, 16, 48, 112, 240, 509, 1021, 2045, 4095, 8191, 16383] (.take 0 (.take 1 (.take 2 (.take 3 (.take 4 (.take 5 (.take 6 (.take 7 (.take 8 (.take 9 (.take 10 (.alt 11 (.take 12 (.take 13 (.alt 14 .done .none))) .none)))))))))))) mixed (by kernel_rfl) <| pM a0 rfl rfl <| pM a0 rfl rfl <| pP rfl (R_fld TF_91_0) H fun _ H => pL rfl T1_76 H fun _ _ _ H => pP rfl (R_fld TF_91_0) H fun _ H => pL rfl T1_76 H fun _ _ _ H => pP rfl R_nil H fun _ H => pP rfl (R_fld TF_149_1) H fun _ H => pL rfl T1_3 H fun _ _ _ H => pP rfl R_nil H fun _ H => ?_
  exact pP rfl (R_fld TF_141_2) H fun _ H => aE rfl <| H_store1 TS_76 H fun h H => ⟨(hskip rfl (hskip rfl (hskip rfl hnil))), pP rfl R_nil H fun _ H => pP rfl (R_fld TF_141_3) H fun _ H => aE rfl <| H_store1 TS_3 H fun h H => ⟨hnil, vp_done <| resH_of rfl <| H⟩⟩
/-! ### impl.stand -/
def i_stand.j1 (s5 : Value) (h : Heap) (Q : Value → Heap → Prop) : Prop := Q s5 h
def i_stand.sh (a0 a1 : Value) (h : Heap) (Q : Value → Heap → Prop) : Prop := box 24 a0 h fun b h=>box 28 a1 h fun d h=>loadN 3 b h fun g=>i_grow.call #[g, (.slice none 0 0)] h fun i h=>fld 0 d fun j=>load1 j h fun k=>lenV k fun l=>cmpI (fun a b=>decide (a > b)) l (.int .i64 0) fun m=>br m false (fld 1 d fun n=>load1 n h fun o=>lenV o fun p=>cmpI (fun a b=>decide (a > b)) p (.int .i64 0) fun q=>ifV q (loadN 3 d h fun u=>i_planted.call #[i, u] h fun v h=>BTreeG_I_DoorPlant.call #[i, v] h fun w h=>i_stand.j1 i h Q) (i_stand.j1 i h Q)) (loadN 3 d h fun x=>i_planted.call #[i, x] h fun y h=>BTreeG_I_DoorPlant.call #[i, y] h fun z h=>i_stand.j1 i h Q)
theorem i_stand.body (a0 a1 : Value) (h : Heap) (Q : Value → Heap → Prop) (H : i_stand.sh a0 a1 h Q) : i_stand.call #[a0, a1] h Q := by
  refine callsH_of (args := [a0, a1]) Try.func37 rfl rfl ?_
  unfold i_stand.sh at H
  refine sR <| vl_n <| H_box H fun _ h H => vl_n <| H_box H fun _ h H => nS (.pointer none) rfl <| vl_e <| sR <| nLN TN_24 H fun _ H => vl_n <| H_call HB_43 H fun t7 h H => nS t7 rfl <| vl_e ?_
  refine WPc_seq (fun e h => i_stand.j1 (e 5) h Q) ?_ (fun e h H => ?_)
  rotate_left
  · unfold i_stand.j1 at H
    exact sR <| nM (e 5) rfl <| nS (e 5) rfl <| vl_e <| WPc_ret <| resH_of rfl <| H
  refine sR <| nP (R_fld TF_28_0) H fun _ H => nL T1_25 H fun _ H => nP (R_len Try.underlying25) H fun _ H => nP R_gtr H fun t11 H => nM t11 rfl ?_
  obtain ⟨b, hb, H1, H2⟩ := H
  cases b
  · have H := H1 rfl
    clear H1 H2
    refine vl_y rfl hb ?_
    refine H_of_R (R_fld TF_28_1 H fun _ H => ?_)
    refine vl_y rfl hb ?_
    refine H_of_R (R_load1 T1_26 H fun _ _ _ _ H => ?_)
    refine vl_y rfl hb ?_
    refine H_of_R (R_len Try.underlying26 H fun _ H => ?_)
    refine vl_y rfl hb ?_
    refine H_of_R (R_gtr H fun t16 H => ?_)
    refine nA (R_pickC (v := t16) false hb rfl) <| vl_e ?_
    refine cI H (fun H => ?_) fun H => ?_
    · exact W_region (by kernel_rfl) <| nM t7 rfl <| nM t7 rfl <| nLN TN_28 H fun _ H => vl_n <| H_call HB_44 H fun _ h H => vl_n <| H_call HB_70 H fun _ h H => vl_e <| H
    · exact WPc_skip <| H
  · have H := H2 rfl
    clear H1 H2
    refine vl_s rfl (nbF hb) ?_
    refine vl_s rfl (nbF hb) ?_
    refine vl_s rfl (nbF hb) ?_
    refine vl_s rfl (nbF hb) ?_
    refine nA (R_pickC (v := (.bool true)) true hb rfl) <| vl_e ?_
    refine WPc_cond (t := true) rfl (fun _ => ?_) (fun hh => by cases hh)
    exact W_region (by kernel_rfl) <| nM t7 rfl <| nM t7 rfl <| nLN TN_28 H fun _ H => vl_n <| H_call HB_44 H fun _ h H => vl_n <| H_call HB_70 H fun _ h H => vl_e <| H
/-! ### (*pub/tidwallbtree.BTreeG[impl.Item]).Len -/
def BTreeG_I_Len.sh (a0 : Value) (h : Heap) (Q : Value → Heap → Prop) : Prop := nilck a0 fun b=>fld 3 b fun d=>load1 d h fun g=>Q g h
theorem BTreeG_I_Len.body (a0 : Value) (h : Heap) (Q : Value → Heap → Prop) (H : BTreeG_I_Len.sh a0 h Q) : BTreeG_I_Len.call #[a0] h Q := by
  refine callsH_of (args := [a0]) Try.func66 rfl rfl ?_
  unfold BTreeG_I_Len.sh at H
  exact sR <| nS (.int .i64 0) rfl <| vl_e <| sR <| nM a0 rfl <| nP R_nil H fun _ H => nP (R_fld TF_141_3) H fun _ H => nL T1_3 H fun t6 H => nS t6 rfl <| vl_e <| WPc_ret <| resH_of rfl <| H
/-! ### (*pub/tidwallbtree.BTreeG[impl.Item]).lock -/
def BTreeG_I_lock.sh (a0 a1 : Value) (h : Heap) (Q : Value → Heap → Prop) : Prop := Q (.bool false) h
theorem BTreeG_I_lock.body (a0 a1 : Value) (h : Heap) (Q : Value → Heap → Prop) (H : BTreeG_I_lock.sh a0 a1 h Q) : BTreeG_I_lock.call #[a0, a1] h Q := by
  refine callsH_of (args := [a0, a1]) Try.func91 rfl rfl ?_
  unfold BTreeG_I_lock.sh at H
  exact sR <| nS (.bool false) rfl <| vl_e <| sR <| nS (.bool false) rfl <| vl_e <| WPc_ret <| resH_of rfl <| H
/-! ### (*pub/tidwallbtree.BTreeG[impl.Item]).nodeItems -/
def BTreeG_I_nodeItems.j2 (s0 s2 s3 s9 : Value) (h : Heap) (Q : Value → Heap → Prop) : Prop := nilck s9 fun b=>fld 3 b fun d=>load1 d h fun g=>nilck g fun i=>load1 i h fun j=>nilck s9 fun k=>fld 3 k fun l=>load1 l h fun m=>nilck m fun n=>load1 n h fun o=>lenV o fun p=>arith (· - ·) p (.int .i64 1) fun q=>idx 1 j q fun u=>BTreeG_I_nodeItems.call #[s0, u, s2, s3] h fun v h=>Q v h
def BTreeG_I_nodeItems.j5 (s0 s2 s3 s9 s10 : Value) (h : Heap) (K1 : List Value → Heap → Prop) (Q : Value → Heap → Prop) : Prop := arith (· + ·) s10 (.int .i64 1) fun b=>K1 [s2, b] h
def BTreeG_I_nodeItems.j4 (s0 s2 s3 s9 s10 : Value) (h : Heap) (K1 : List Value → Heap → Prop) (Q : Value → Heap → Prop) : Prop := nilck s9 fun b=>fld 3 b fun d=>load1 d h fun g=>nilck g fun i=>load1 i h fun j=>idx 1 j s10 fun k=>BTreeG_I_nodeItems.call #[s0, k, s2, s3] h fun l h=>nilck s9 fun m=>fld 2 m fun n=>load1 n h fun o=>idx 2 o s10 fun p=>loadN 2 p h fun q=>mkSl (if 1 * 2 = 0 then [] else zeros [(.int .i64 0), (.int .i64 0)] 1) 1 [(0 * 2, 2, q)] 52 h fun u h=>app 52 2 16 [(.int .i64 0), (.int .i64 0)] l u h fun v h=>BTreeG_I_nodeItems.j5 s0 v s3 s9 s10 h K1 Q
def BTreeG_I_nodeItems.l3.b (c0 c3 c9 s2 s10 : Value) (h : Heap) (K1 : List Value → Heap → Prop) (Q : Value → Heap → Prop) : Prop := nilck c9 fun b=>fld 2 b fun d=>load1 d h fun g=>lenV g fun i=>cmpI (fun a b=>decide (a < b)) s10 i fun j=>ifV j (BTreeG_I_nodeItems.j4 c0 s2 c3 c9 s10 h K1 Q) (BTreeG_I_nodeItems.j2 c0 s2 c3 c9 h Q)
def BTreeG_I_nodeItems.j1 (s0 s2 s3 s9 : Value) (h : Heap) (Q : Value → Heap → Prop) : Prop := loopC (fun c s h K1=>BTreeG_I_nodeItems.l3.b (c.getD 0 undef) (c.getD 1 undef) (c.getD 2 undef) (s.getD 0 undef) (s.getD 1 undef) h K1 Q) [s0, s3, s9] [s2, (.int .i64 0)] h
def BTreeG_I_nodeItems.sh (a0 a1 a2 a3 : Value) (h : Heap) (Q : Value → Heap → Prop) : Prop := BTreeG_I_isoLoad.call #[a0, a1, a3] h fun b h=>node_I_leaf.call #[b] h fun d h=>ifV d (nilck b fun g=>fld 2 g fun i=>load1 i h fun j=>app 52 2 16 [(.int .i64 0), (.int .i64 0)] a2 j h fun k h=>Q k h) (BTreeG_I_nodeItems.j1 a0 a2 a3 b h Q)
theorem BTreeG_I_nodeItems.body (a0 a1 a2 a3 : Value) (h : Heap) (Q : Value → Heap → Prop) (H : BTreeG_I_nodeItems.sh a0 a1 a2 a3 h Q) : BTreeG_I_nodeItems.call #[a0, a1, a2, a3] h Q := by
  refine callsH_of (args := [a0, a1, a2, a3]) Try.func109 rfl rfl ?_
  unfold BTreeG_I_nodeItems.sh at H
  refine sR <| nS (.slice none 0 0) rfl <| vl_e <| sR <| nM a0 rfl <| nM a1 rfl <| nM a3 rfl <| vl_n <| H_call HB_99 H fun t14 h H => nS t14 rfl <| vl_e ?_
  refine WPc_seq (fun e h => BTreeG_I_nodeItems.j1 (e 0) (e 2) (e 3) (e 9) h Q) ?_ (fun e h H => ?_)
  rotate_left
  · unfold BTreeG_I_nodeItems.j1 at H
    refine WPc_seq (fun e h => BTreeG_I_nodeItems.j2 (e 0) (e 2) (e 3) (e 9) h Q) ?_ (fun e h H => ?_)
    rotate_left
    · unfold BTreeG_I_nodeItems.j2 at H
      refine WPc_seq' <| W_drawn [0, 0, 2, 6, 14, 30, 62, 0, 128, 384, 896, 1920, 3968, 8064, 16256, 32766, 0, 0, 262143, 524287] (.take 0 (.take 1 (.take 2 (.take 3 (.take 4 (.take 5 (.take 6 (.take 7 (.take 8 (.take 9 (.take 10 (.take 11 (.take 12 (.take 13 (.take 14 (.take 15 (.take 16 (.take 17 (.alt 18 (.take 19 .done) .none))))))))))))))))))) mixed (by kernel_rfl) <| pM (e 0) rfl rfl <| pM (e 9) rfl rfl <| pP rfl R_nil H fun _ H => pP rfl (R_fld TF_149_3) H fun _ H => pL rfl T1_147 H fun _ _ _ H => pP rfl R_nil H fun _ H => pL rfl T1_146 H fun _ _ _ H => pM (e 9) rfl rfl <| pP rfl R_nil H fun _ H => pP rfl (R_fld TF_149_3) H fun _ H => pL rfl T1_147 H fun _ _ _ H => pP rfl R_nil H fun _ H => ?_
      exact pL rfl T1_146 H fun _ _ _ H => pP rfl (R_len Try.underlying146) H fun _ H => pP rfl R_sub H fun _ H => pP rfl (R_idx TE_146) H fun _ H => pM (e 2) rfl rfl <| pM (e 3) rfl rfl <| aE rfl <| H_call HB_109 H fun t72 h H => ⟨(hskip rfl (hskip rfl (hskip rfl (hskip rfl hnil)))), pS t72 rfl rfl <| vp_done <| WPc_ret <| resH_of rfl <| H⟩
    refine sR <| nS (.int .i64 0) rfl <| vl_e <| WPc_block ?_
    refine loop_at (fun e => [e 2, e 10]) (fun e => [e 0, e 3, e 9]) H rfl rfl ?_
    intro K1 e1 h H hin1
    replace H : BTreeG_I_nodeItems.l3.b (e1 0) (e1 3) (e1 9) (e1 2) (e1 10) h K1 Q := H
    unfold BTreeG_I_nodeItems.l3.b at H
    clear hin1
    refine WPc_seq (fun e h => BTreeG_I_nodeItems.j4 (e 0) (e 2) (e 3) (e 9) (e 10) h K1 Q ∧ [e1 0, e1 3, e1 9] = [e 0, e 3, e 9]) ?_ (fun e h ⟨H, hq1⟩ => ?_)
    rotate_left
    · unfold BTreeG_I_nodeItems.j4 at H
      refine WPc_seq (fun e h => BTreeG_I_nodeItems.j5 (e 0) (e 2) (e 3) (e 9) (e 10) h K1 Q ∧ [e1 0, e1 3, e1 9] = [e 0, e 3, e 9]) ?_ (fun e h ⟨H, hq1⟩ => ?_)
      rotate_left
      · unfold BTreeG_I_nodeItems.j5 at H
        refine W_region (by kernel_rfl) <| nM (e 10) rfl <| nP R_add H fun t31 H => nS t31 rfl <| vl_e ?_
        exact ⟨H, hq1⟩
      refine WPc_block <| sR <| nM (e 0) rfl <| nM (e 9) rfl <| nP R_nil H fun _ H => nP (R_fld TF_149_3) H fun _ H => nL T1_147 H fun _ H => nP R_nil H fun _ H => nL T1_146 H fun _ H => nM (e 10) rfl <| nP (R_idx TE_146) H fun _ H => nM (e 2) rfl <| nM (e 3) rfl <| vl_n <| H_call HB_109 H fun t43 h H => ?_
      refine nS t43 rfl <| vl_e <| W_region (by kernel_rfl) <| nM t43 rfl <| nM (e 9) rfl <| nP R_nil H fun _ H => nP (R_fld TF_149_2) H fun _ H => nL T1_25 H fun _ H => nM (e 10) rfl <| nP (R_idx TE_25) H fun _ H => nLN TN_52 H fun _ H => vl_n <| H_mkSl TZ_25 (by decide) rfl H rfl fun _ h H => vl_n <| H_app TZ_25 TU_25 H fun t53 h H => nS t53 rfl ?_
      refine vl_e ?_
      exact ⟨H, hq1⟩
    refine sR <| nM (e1 10) rfl <| nM (e1 9) rfl <| nP R_nil H fun _ H => nP (R_fld TF_149_2) H fun _ H => nL T1_25 H fun _ H => nP (R_len Try.underlying25) H fun _ H => nP R_lss H fun _ H => vl_e ?_
    refine cI H (fun H => ?_) fun H => ?_
    · refine WPc_skip ?_
      exact ⟨H, rfl⟩
    · refine WPc_exit ?_
      exact H
  refine sR <| nM t14 rfl <| vl_n <| H_call HB_97 H fun _ h H => vl_e ?_
  refine cI H (fun H => ?_) fun H => ?_
  · exact sR <| nM a2 rfl <| nM t14 rfl <| nP R_nil H fun _ H => nP (R_fld TF_149_2) H fun _ H => nL T1_25 H fun _ H => vl_n <| H_app TZ_25 TU_25 H fun t22 h H => nS t22 rfl <| vl_e <| WPc_ret <| resH_of rfl <| H
  · exact WPc_skip <| H
/-! ### (*pub/tidwallbtree.BTreeG[impl.Item]).items -/
def BTreeG_I_items.j2 (s5 : Value) (h : Heap) (Q : Value → Heap → Prop) : Prop := Q s5 h
def BTreeG_I_items.j1 (s0 s1 : Value) (h : Heap) (Q : Value → Heap → Prop) : Prop := BTreeG_I_Len.call #[s0] h fun b h=>mks 52 2 16 [(.int .i64 0), (.int .i64 0)] (.int .i64 0) b h fun d h=>nilck s0 fun g=>fld 2 g fun i=>load1 i h fun j=>neNilP j fun k=>ifV k (nilck s0 fun l=>fld 2 l fun m=>BTreeG_I_nodeItems.call #[s0, m, d, s1] h fun n h=>BTreeG_I_items.j2 n h Q) (BTreeG_I_items.j2 d h Q)
def BTreeG_I_items.sh (a0 a1 : Value) (h : Heap) (Q : Value → Heap → Prop) : Prop := BTreeG_I_lock.call #[a0, a1] h fun b h=>ifV b (False) (BTreeG_I_items.j1 a0 a1 h Q)
theorem BTreeG_I_items.body (a0 a1 : Value) (h : Heap) (Q : Value → Heap → Prop) (H : BTreeG_I_items.sh a0 a1 h Q) : BTreeG_I_items.call #[a0, a1] h Q := by
  refine callsH_of (args := [a0, a1]) Try.func96 rfl rfl ?_
  unfold BTreeG_I_items.sh at H
  refine sR <| nS (.slice none 0 0) rfl <| vl_e ?_
  refine WPc_seq (fun e h => BTreeG_I_items.j1 (e 0) (e 1) h Q) ?_ (fun e h H => ?_)
  rotate_left
  · unfold BTreeG_I_items.j1 at H
    refine sR <| nM (e 0) rfl <| vl_n <| H_call HB_66 H fun _ h H => vl_n <| H_mks TZ_25 rfl H fun t13 h H => nS t13 rfl <| vl_e ?_
    refine WPc_seq (fun e h => BTreeG_I_items.j2 (e 5) h Q) ?_ (fun e h H => ?_)
    rotate_left
    · unfold BTreeG_I_items.j2 at H
      exact sR <| nM (e 5) rfl <| nS (e 5) rfl <| vl_e <| WPc_ret <| resH_of rfl <| H
    refine sR <| nM (e 0) rfl <| nP R_nil H fun _ H => nP (R_fld TF_141_2) H fun _ H => nL T1_76 H fun _ H => nP (R_neNilP Try.underlying76 rfl) H fun _ H => vl_e ?_
    refine cI H (fun H => ?_) fun H => ?_
    · exact W_region (by kernel_rfl) <| nM (e 0) rfl <| nM (e 0) rfl <| nP R_nil H fun _ H => nP (R_fld TF_141_2) H fun _ H => nM t13 rfl <| nM (e 1) rfl <| vl_n <| H_call HB_109 H fun t25 h H => nS t25 rfl <| vl_e <| H
    · exact WPc_skip <| H
  refine sR <| nM a0 rfl <| nM a1 rfl <| vl_n <| H_call HB_91 H fun _ h H => vl_e ?_
  refine cI H (fun H => ?_) fun H => ?_
  · refine W_region (by kernel_rfl) <| nM a0 rfl <| nM a1 rfl ?_
    refine vl_n ?_
    exact H.elim
  · exact WPc_skip <| H
/-! ### (*pub/tidwallbtree.BTreeG[impl.Item]).Items -/
def BTreeG_I_Items.sh (a0 : Value) (h : Heap) (Q : Value → Heap → Prop) : Prop := BTreeG_I_items.call #[a0, (.bool false)] h fun b h=>Q b h
theorem BTreeG_I_Items.body (a0 : Value) (h : Heap) (Q : Value → Heap → Prop) (H : BTreeG_I_Items.sh a0 h Q) : BTreeG_I_Items.call #[a0] h Q := by
  refine callsH_of (args := [a0]) Try.func65 rfl rfl ?_
  unfold BTreeG_I_Items.sh at H
  exact sR <| nS (.slice none 0 0) rfl <| vl_e <| sR <| nM a0 rfl <| vl_n <| H_call HB_96 H fun t4 h H => nS t4 rfl <| vl_e <| WPc_ret <| resH_of rfl <| H
/-! ### (*pub/tidwallbtree.BTreeG[impl.Item]).Height -/
def BTreeG_I_Height.j2 (s3 : Value) (h : Heap) (Q : Value → Heap → Prop) : Prop := Q s3 h
def BTreeG_I_Height.j4 (s3 s4 : Value) (h : Heap) (K1 : List Value → Heap → Prop) (Q : Value → Heap → Prop) : Prop := nilck s4 fun b=>fld 3 b fun d=>load1 d h fun g=>nilck g fun i=>load1 i h fun j=>idx 1 j (.int .i64 0) fun k=>load1 k h fun l=>K1 [s3, l] h
def BTreeG_I_Height.l3.b (s3 s4 : Value) (h : Heap) (K1 : List Value → Heap → Prop) (Q : Value → Heap → Prop) : Prop := arith (· + ·) s3 (.int .i64 1) fun b=>node_I_leaf.call #[s4] h fun d h=>ifV d (BTreeG_I_Height.j2 b h Q) (BTreeG_I_Height.j4 b s4 h K1 Q)
def BTreeG_I_Height.j1 (s0 : Value) (h : Heap) (Q : Value → Heap → Prop) : Prop := nilck s0 fun b=>fld 2 b fun d=>load1 d h fun g=>neNilP g fun i=>ifV i (nilck s0 fun j=>fld 2 j fun k=>load1 k h fun l=>loopC (fun c s h K1=>BTreeG_I_Height.l3.b (s.getD 0 undef) (s.getD 1 undef) h K1 Q) [] [(.int .i64 0), l] h) (BTreeG_I_Height.j2 (.int .i64 0) h Q)
def BTreeG_I_Height.sh (a0 : Value) (h : Heap) (Q : Value → Heap → Prop) : Prop := BTreeG_I_lock.call #[a0, (.bool false)] h fun b h=>ifV b (False) (BTreeG_I_Height.j1 a0 h Q)
theorem BTreeG_I_Height.body (a0 : Value) (h : Heap) (Q : Value → Heap → Prop) (H : BTreeG_I_Height.sh a0 h Q) : BTreeG_I_Height.call #[a0] h Q := by
  refine callsH_of (args := [a0]) Try.func67 rfl rfl ?_
  unfold BTreeG_I_Height.sh at H
  refine sR <| nS (.int .i64 0) rfl <| vl_e ?_
  refine WPc_seq (fun e h => BTreeG_I_Height.j1 (e 0) h Q) ?_ (fun e h H => ?_)
  rotate_left
  · unfold BTreeG_I_Height.j1 at H
    refine sR <| nS (.int .i64 0) rfl <| vl_e ?_
    refine WPc_seq (fun e h => BTreeG_I_Height.j2 (e 3) h Q) ?_ (fun e h H => ?_)
    rotate_left
    · unfold BTreeG_I_Height.j2 at H
      exact sR <| nM (e 3) rfl <| nS (e 3) rfl <| vl_e <| WPc_ret <| resH_of rfl <| H
    refine sR <| nM (e 0) rfl <| nP R_nil H fun _ H => nP (R_fld TF_141_2) H fun _ H => nL T1_76 H fun _ H => nP (R_neNilP Try.underlying76 rfl) H fun _ H => vl_e ?_
    refine cI H (fun H => ?_) fun H => ?_
    · refine sR <| nM (e 0) rfl <| nP R_nil H fun _ H => nP (R_fld TF_141_2) H fun _ H => nL T1_76 H fun t16 H => nS t16 rfl <| vl_e <| WPc_block ?_
      refine loop_at (fun e => [e 3, e 4]) (fun e => []) H rfl rfl ?_
      intro K1 e1 h H hin1
      replace H : BTreeG_I_Height.l3.b (e1 3) (e1 4) h K1 Q := H
      unfold BTreeG_I_Height.l3.b at H
      clear hin1
      refine WPc_block <| sR <| nM (e1 3) rfl <| nP R_add H fun t18 H => nS t18 rfl <| vl_e ?_
      refine WPc_seq (fun e h => BTreeG_I_Height.j4 (e 3) (e 4) h K1 Q) ?_ (fun e h H => ?_)
      rotate_left
      · unfold BTreeG_I_Height.j4 at H
        refine W_region (by kernel_rfl) <| nM (e 4) rfl <| nP R_nil H fun _ H => nP (R_fld TF_149_3) H fun _ H => nL T1_147 H fun _ H => nP R_nil H fun _ H => nL T1_146 H fun _ H => nP (R_idx TE_146) H fun _ H => nL T1_76 H fun t28 H => nS t28 rfl <| vl_e ?_
        exact ⟨H, rfl⟩
      refine sR <| nM (e1 4) rfl <| vl_n <| H_call HB_97 H fun _ h H => vl_e ?_
      refine cI H (fun H => ?_) fun H => ?_
      · refine WPc_exit ?_
        exact H
      · exact WPc_skip <| H
    · exact WPc_skip <| H
  refine sR <| nM a0 rfl <| vl_n <| H_call HB_91 H fun _ h H => vl_e ?_
  refine cI H (fun H => ?_) fun H => ?_
  · refine W_region (by kernel_rfl) <| nM a0 rfl ?_
    refine vl_n ?_
    exact H.elim
  · exact WPc_skip <| H
/-! ### impl.NItems -/
def i_NItems.sh (a0 a1 : Value) (h : Heap) (Q : Value → Heap → Prop) : Prop := box 24 a0 h fun b h=>box 28 a1 h fun d h=>loadN 3 b h fun g=>loadN 3 d h fun i=>i_stand.call #[g, i] h fun j h=>BTreeG_I_Items.call #[j] h fun k h=>BTreeG_I_Len.call #[j] h fun l h=>BTreeG_I_Height.call #[j] h fun m h=>Q (.tuple #[k, l, m]) h
theorem i_NItems.body (a0 a1 : Value) (h : Heap) (Q : Value → Heap → Prop) (H : i_NItems.sh a0 a1 h Q) : i_NItems.call #[a0, a1] h Q := by
  refine callsH_of (args := [a0, a1]) Try.func32 rfl rfl ?_
  unfold i_NItems.sh at H
  refine sR <| vl_n <| H_box H fun _ h H => vl_n <| H_box H fun _ h H => nS (.slice none 0 0) rfl <| nS (.int .i64 0) rfl <| nS (.int .i64 0) rfl <| vl_e <| sR <| nLN TN_24 H fun _ H => nLN TN_28 H fun _ H => vl_n <| H_call HB_37 H fun t10 h H => nS t10 rfl <| vl_e <| sR ?_
  exact nM t10 rfl <| vl_n <| H_call HB_65 H fun t12 h H => nM t10 rfl <| vl_n <| H_call HB_66 H fun t14 h H => nM t10 rfl <| vl_n <| H_call HB_67 H fun t16 h H => nS t12 rfl <| nS t14 rfl <| nS t16 rfl <| vl_e <| WPc_ret <| resH_of rfl <| H
/-! ### laws.exMake -/
def l_exMake.sh (h : Heap) (Q : Value → Heap → Prop) : Prop := alloc [(.slice none 0 0), (.int .i64 0), (.bool false)] 24 h fun b h=>buildV [(.slice none 0 0), (.int .i64 0), (.bool false)] [(1, 1, (.int .i64 2))] fun d=>storeN 3 b d h fun h=>loadN 3 b h fun g=>Q g h
theorem l_exMake.body (h : Heap) (Q : Value → Heap → Prop) (H : l_exMake.sh h Q) : l_exMake.call #[] h Q := by
  refine callsH_of (args := []) Try.func33 rfl rfl ?_
  unfold l_exMake.sh at H
  exact sR <| vl_n <| H_alloc TV_24 H fun _ h H => vl_e <| sR <| nP (R_build TB_24 rfl (by decide)) H fun _ H => vl_n <| H_storeN TS_24 H fun h H => vl_e <| WPc_ret <| resH_of rfl <| resL_N TN_24 <| loadN_imp H fun r0 H => H
/-! ### laws.exNode -/
def l_exNode.sh (h : Heap) (Q : Value → Heap → Prop) : Prop := alloc [(.slice none 0 0), (.slice none 0 0), (.int .i64 0)] 28 h fun b h=>buildV [(.int .i64 0), (.int .i64 0)] [(0, 1, (.int .i64 4)), (1, 1, (.int .i64 1))] fun d=>mkSl (if 1 * 2 = 0 then [] else zeros [(.int .i64 0), (.int .i64 0)] 1) 1 [(0 * 2, 2, d)] 52 h fun g h=>buildV [(.int .i64 0), (.int .i64 0)] [(0, 1, (.int .i64 2)), (1, 1, (.int .i64 2))] fun i=>mkSl (if 1 * 2 = 0 then [] else zeros [(.int .i64 0), (.int .i64 0)] 1) 1 [(0 * 2, 2, i)] 52 h fun j h=>buildV [(.slice none 0 0), (.slice none 0 0), (.int .i64 0)] [(0, 1, j)] fun k=>buildV [(.int .i64 0), (.int .i64 0)] [(0, 1, (.int .i64 6)), (1, 1, (.int .i64 3))] fun l=>mkSl (if 1 * 2 = 0 then [] else zeros [(.int .i64 0), (.int .i64 0)] 1) 1 [(0 * 2, 2, l)] 52 h fun m h=>buildV [(.slice none 0 0), (.slice none 0 0), (.int .i64 0)] [(0, 1, m)] fun n=>mkSl (if 2 * 3 = 0 then [] else zeros [(.slice none 0 0), (.slice none 0 0), (.int .i64 0)] 2) 2 [(0 * 3, 3, k), (1 * 3, 3, n)] 28 h fun o h=>buildV [(.slice none 0 0), (.slice none 0 0), (.int .i64 0)] [(0, 1, g), (1, 1, o)] fun p=>storeN 3 b p h fun h=>loadN 3 b h fun q=>Q q h
theorem l_exNode.body (h : Heap) (Q : Value → Heap → Prop) (H : l_exNode.sh h Q) : l_exNode.call #[] h Q := by
  refine callsH_of (args := []) Try.func34 rfl rfl ?_
  unfold l_exNode.sh at H
  refine sR <| vl_n <| H_alloc TV_28 H fun _ h H => vl_e <| sR <| nP (R_build TB_52 rfl (by decide)) H fun _ H => vl_n <| H_mkSl TZ_25 (by decide) rfl H rfl fun _ h H => nP (R_build TB_52 rfl (by decide)) H fun _ H => vl_n <| H_mkSl TZ_25 (by decide) rfl H rfl fun _ h H => nP (R_build TB_28 rfl (by decide)) H fun _ H => nP (R_build TB_52 rfl (by decide)) H fun _ H => vl_n <| H_mkSl TZ_25 (by decide) rfl H rfl fun _ h H => nP (R_build TB_28 rfl (by decide)) H fun _ H => vl_n <| H_mkSl TZ_26 (by decide) rfl H rfl fun _ h H => nP (R_build TB_28 rfl (by decide)) H fun _ H => ?_
  exact vl_n <| H_storeN TS_28 H fun h H => vl_e <| WPc_ret <| resH_of rfl <| resL_N TN_28 <| loadN_imp H fun r0 H => H
/-! ### laws.aliveN -/
def l_aliveN.sh (h : Heap) (Q : Value → Heap → Prop) : Prop := l_exMake.call #[] h fun b h=>l_exNode.call #[] h fun d h=>i_NItems.call #[b, d] h fun g h=>extr 0 g fun i=>extr 1 g fun j=>extr 2 g fun k=>lenV i fun l=>cmpI (fun a b=>a == b) l (.int .i64 3) fun m=>br m true (cmpI (fun a b=>a == b) j (.int .i64 3) fun n=>br n true (cmpI (fun a b=>a == b) k (.int .i64 2) fun o=>Q o h) (Q (.bool false) h)) (Q (.bool false) h)
theorem l_aliveN.body (h : Heap) (Q : Value → Heap → Prop) (H : l_aliveN.sh h Q) : l_aliveN.call #[] h Q := by
  refine callsH_of (args := []) Try.func10 rfl rfl ?_
  unfold l_aliveN.sh at H
  refine sR <| nS (.bool false) rfl <| vl_e <| sR <| vl_n <| H_call HB_33 H fun _ h H => vl_n <| H_call HB_34 H fun _ h H => vl_n <| H_call HB_32 H fun t7 h H => nM t7 rfl <| nP R_ext H fun t8 H => nP R_ext H fun t9 H => nP R_ext H fun t10 H => nS t8 rfl <| nS t9 rfl <| nS t10 rfl ?_
  refine vl_e <| sR <| nM t8 rfl <| nP (R_len Try.underlying25) H fun _ H => nP R_eqI H fun t13 H => nM t13 rfl ?_
  obtain ⟨b, hb, H1, H2⟩ := H
  cases b
  · have H := H2 rfl
    clear H1 H2
    refine vl_s rfl (nbT hb) ?_
    refine vl_s rfl (nbT hb) ?_
    refine nA (R_pickC (v := (.bool false)) false hb rfl) <| nM (.bool false) rfl ?_
    refine vl_s rfl (nbT rfl) ?_
    refine vl_s rfl (nbT rfl) ?_
    exact nA (R_pickC (v := (.bool false)) false rfl rfl) <| nS (.bool false) rfl <| vl_e <| WPc_ret <| resH_of rfl <| H
  · have H := H1 rfl
    clear H1 H2
    refine vl_y rfl hb ?_
    refine H_of_R (R_move (v := t9) rfl ?_)
    refine vl_y rfl hb ?_
    refine H_of_R (R_eqI H fun t16 H => ?_)
    refine nA (R_pickC (v := t16) true hb rfl) <| nM t16 rfl ?_
    obtain ⟨b_2, hb_2, H1, H2⟩ := H
    cases b_2
    · have H := H2 rfl
      clear H1 H2
      refine vl_s rfl (nbT hb_2) ?_
      refine vl_s rfl (nbT hb_2) ?_
      exact nA (R_pickC (v := (.bool false)) false hb_2 rfl) <| nS (.bool false) rfl <| vl_e <| WPc_ret <| resH_of rfl <| H
    · have H := H1 rfl
      clear H1 H2
      refine vl_y rfl hb_2 ?_
      refine H_of_R (R_move (v := t10) rfl ?_)
      refine vl_y rfl hb_2 ?_
      refine H_of_R (R_eqI H fun t20 H => ?_)
      exact nA (R_pickC (v := t20) true hb_2 rfl) <| nS t20 rfl <| vl_e <| WPc_ret <| resH_of rfl <| H

end Go.Proofs.Ytgnnidefbeoibaa
end
section
namespace Go.Proofs.Ytgnnidefbeoibaa
open Go.Hp
set_option linter.unusedVariables false
set_option linter.unusedSimpArgs false
theorem degree_ok {h : Heap} {Q : Value → Heap → Prop} {d : Int} (h1 : 2 ≤ d) (h2 : d ≤ 1073741824) (H : Q (.tuple #[.int .i64 (d - 1), .int .i64 (2 * d - 1)]) h) : degreeToMinMax.call #[.int .i64 d] h Q := by
  refine degreeToMinMax.body _ _ _ ?_
  unfold degreeToMinMax.sh
  simp only [w_load1, w_loadN, w_nil, w_fld, w_idx, w_len, w_lenStr, w_cap, w_arith, w_divi, w_remi, w_cmpI, w_cmpS, w_not, w_ext, w_eqNilP, w_neNilP, w_eqB, w_pick, w_max, w_ifV, w_br, w_store1, w_storeN, w_alloc, w_box, add_mk, Nat.zero_add, Nat.add_zero, Option.some.injEq, exists_eq_left', List.getElem?_cons_zero, List.getElem?_cons_succ, List.getD_cons_zero, List.getD_cons_succ]
  refine ⟨fun e => absurd e (by simp; omega), fun _ => ⟨fun e => absurd e (by simp; omega), fun _ => ?_⟩⟩
  unfold degreeToMinMax.j1
  simp only [w_load1, w_loadN, w_nil, w_fld, w_idx, w_len, w_lenStr, w_cap, w_arith, w_divi, w_remi, w_cmpI, w_cmpS, w_not, w_ext, w_eqNilP, w_neNilP, w_eqB, w_pick, w_max, w_ifV, w_br, w_store1, w_storeN, w_alloc, w_box, add_mk, Nat.zero_add, Nat.add_zero, Option.some.injEq, exists_eq_left', List.getElem?_cons_zero, List.getElem?_cons_succ, List.getD_cons_zero, List.getD_cons_succ]
  rw [i64w (n := d * 2) (by omega) (by omega), i64w (n := d * 2 - 1) (by omega) (by omega)]
  have hd : (d * 2 - 1).tdiv 2 = d - 1 := by rw [Int.tdiv_eq_ediv_of_nonneg (by omega)]; omega
  rw [hd, i64w (n := d - 1) (by omega) (by omega), show d * 2 - 1 = 2 * d - 1 by omega]
  exact ⟨by decide, H⟩
theorem degree_zero {h : Heap} {Q : Value → Heap → Prop} (H : Q (.tuple #[.int .i64 31, .int .i64 63]) h) : degreeToMinMax.call #[.int .i64 0] h Q := by
  refine degreeToMinMax.body _ _ _ ?_
  unfold degreeToMinMax.sh
  simp only [w_load1, w_loadN, w_nil, w_fld, w_idx, w_len, w_lenStr, w_cap, w_arith, w_divi, w_remi, w_cmpI, w_cmpS, w_not, w_ext, w_eqNilP, w_neNilP, w_eqB, w_pick, w_max, w_ifV, w_br, w_store1, w_storeN, w_alloc, w_box, add_mk, Nat.zero_add, Nat.add_zero, Option.some.injEq, exists_eq_left', List.getElem?_cons_zero, List.getElem?_cons_succ, List.getD_cons_zero, List.getD_cons_succ]
  refine ⟨fun _ => ?_, fun e => absurd e (by simp)⟩
  unfold degreeToMinMax.j1
  simp only [w_load1, w_loadN, w_nil, w_fld, w_idx, w_len, w_lenStr, w_cap, w_arith, w_divi, w_remi, w_cmpI, w_cmpS, w_not, w_ext, w_eqNilP, w_neNilP, w_eqB, w_pick, w_max, w_ifV, w_br, w_store1, w_storeN, w_alloc, w_box, add_mk, Nat.zero_add, Nat.add_zero, Option.some.injEq, exists_eq_left', List.getElem?_cons_zero, List.getElem?_cons_succ, List.getD_cons_zero, List.getD_cons_succ]
  exact ⟨by decide, H⟩
end Go.Proofs.Ytgnnidefbeoibaa
end
section
namespace Go.Proofs.Ytgnnidefbeoibaa
open Go.Hp Go.ChangeShapes Go.WideShapes Go.ChangeAt Go.RowKit
set_option linter.unusedVariables false
set_option linter.unusedSimpArgs false

section
variable {H : Type}
theorem bulk_all : ∀ l : List (DataW H), Rows.uptoBulkAll l = (l.map Rows.uptoBulk).sum
  | [] => rfl
  | d :: r => by simp only [Rows.uptoBulkAll, List.map_cons, List.sum_cons, bulk_all r]
theorem bulk_agg (l : List (DataW H)) : Rows.uptoBulk (.agg l) = (l.map Rows.uptoBulk).sum + 1 := by simp only [Rows.uptoBulk, bulk_all]
theorem bulk_slice (e s : List (DataW H)) : Rows.uptoBulk (.slice e s) = (e.map Rows.uptoBulk).sum + (s.map Rows.uptoBulk).sum + 1 := by simp only [Rows.uptoBulk, bulk_all]
theorem bulk_one : ∀ d : DataW H, 1 ≤ Rows.uptoBulk d
  | .lit l => by cases l <;> simp only [Rows.uptoBulk] <;> omega
  | .nil => by simp only [Rows.uptoBulk]; omega
  | .ptr d => by simp only [Rows.uptoBulk]; omega
  | .slice e s => by simp only [Rows.uptoBulk]; omega
  | .agg l => by simp only [Rows.uptoBulk]; omega
  | .iface _ d => by simp only [Rows.uptoBulk]; omega
  | .map l => by simp only [Rows.uptoBulk]; omega
  | .held _ => by simp only [Rows.uptoBulk]; omega
theorem bulk_of {ds : List (DataW H)} (hk : Rows.uptoSmall H ds = true) {d : DataW H} (hd : d ∈ ds) : Rows.uptoBulk d ≤ 1048576 := by
  have h : Rows.uptoBulkAll ds ≤ 1048576 := of_decide_eq_true hk
  rw [bulk_all] at h
  exact Nat.le_trans (mem_le_sum (List.mem_map.2 ⟨d, hd, rfl⟩)) h
end

set_option maxRecDepth 100000 in
theorem nodeTy : ∃ f0 f1 f2 g0 g1, NodeTy Try.prog 28 25 26 52 3 f0 f1 f2 g0 g1 := ⟨_, _, _, _, _, Try.underlying28, ⟨rfl, rfl, rfl⟩, ⟨rfl, rfl, rfl⟩, by kernel_rfl, ⟨by kernel_rfl, by kernel_rfl, by kernel_rfl⟩, Try.underlying25, Try.underlying26, Try.underlying3, Try.underlying52, by kernel_rfl, ⟨rfl, rfl⟩, ⟨by kernel_rfl, by kernel_rfl⟩, ⟨Try.underlying3, Try.underlying3⟩⟩

set_option maxRecDepth 100000 in
/-- A node among the arguments. -/
theorem open_arg {H : Type} {en : TypeId × Value → H} {W : World} {base : Nat} {v : Value} {d : DataW H} {ps : List MemPlace} (hval : Value.okWide Try.prog W .any base 28 v) (hd : DataW.Trod en Try.prog W 0 (fun _ => true) true 28 v d ps) (hb : Rows.uptoBulk d ≤ 1048576) :
    ∃ (k : Nat) (t : DT (k + 1)) (vi vk : Value) (c : Int), k ≤ 1048576 ∧ v = .agg #[vi, vk, .int .i64 c] ∧ ArgD W.heap t vi vk ∧ t.bulk ≤ 1048576 := by
  obtain ⟨cs, hv, hsz⟩ := okWide_struct Try.underlying28 hval
  subst hv
  obtain ⟨fuel, hf⟩ := hd
  obtain ⟨_, _, _, _, _, hty⟩ := nodeTy
  obtain ⟨k, hk⟩ : ∃ k, Rows.uptoBulk d = k + 1 := ⟨Rows.uptoBulk d - 1, by have := bulk_one d; omega⟩
  obtain ⟨t, vi, vk, c, hc, ha, hbk⟩ := open_node hty bulk_one bulk_agg bulk_slice (k + 1) fuel _ _ hf (Nat.le_of_eq hk)
  refine ⟨k, t, vi, vk, c, by omega, ?_, ha, Nat.le_trans hbk hb⟩
  have : cs.toList = [vi, vk, .int .i64 c] := hc
  rw [← Array.toArray_toList (xs := cs), this]
end Go.Proofs.Ytgnnidefbeoibaa
end
section
namespace Go.Proofs.Ytgnnidefbeoibaa.Gi
open Go.Hp
set_option linter.unusedVariables false
set_option linter.unusedSimpArgs false
abbrev It := Int × Int
abbrev enc (p : It) : List Value := [.int .i64 p.1, .int .i64 p.2]
abbrev emp : It := (0, 0)
abbrev av (p : It) : Value := .agg (enc p).toArray
/-- The cells of a tree's head, in parts. -/
abbrev hd0 (iso : Int) (ctr : Option Addr) : List Value := [.int .u64 iso, .pointer ctr]
abbrev hd4 (lf : Value) (mn mx : Int) : List Value := [.bool false, .bool false, lf] ++ enc emp ++ [.int .i64 mx, .int .i64 mn]
abbrev hdr (iso : Int) (ctr root : Option Addr) (cnt : Int) (lf : Value) (mn mx : Int) : List Value := [.int .u64 iso, .pointer ctr, .pointer root, .int .i64 cnt] ++ hd4 lf mn mx
theorem encl (p : It) : (enc p).length = 2 := rfl
theorem enc1 (p : It) : ∀ y ∈ enc p, one1 y = true := by simp [one1]
/-- A function value that answers as the order does, as long as what it hangs on stays. -/
structure OrdC (Z : List Rg) (lf : Value) (lt : It → It → Bool) : Prop where
  nn : notNil lf = true
  one : one1 lf = true
  call : ∀ {h0 h : Heap} {E : List Rg} {a b : It} {Q : Value → Heap → Prop}, St h0 Z E h → (∀ E' h', St h [] E' h' → Q (.bool (lt a b)) h') → callV Try.prog lf #[av a, av b] h Q
theorem OrdC.mono {Z Z' : List Rg} {lf : Value} {lt : It → It → Bool} (o : OrdC Z lf lt) (hz : ∀ r, r ∈ Z → r ∈ Z') : OrdC Z' lf lt := ⟨o.nn, o.one, fun s H => o.call (s.subZ hz) H⟩
theorem u64w {n : Int} (h1 : 0 ≤ n) (h2 : n ≤ 9223372036854775807) : IntKind.wrap .u64 n = n := by
  have e : IntKind.wrap .u64 n = n % 18446744073709551616 := rfl
  rw [e]; omega
end Go.Proofs.Ytgnnidefbeoibaa.Gi
end
section
namespace Go.Proofs.Ytgnnidefbeoibaa.Gi
open Go.Hp Go.Proofs.Ytgnnidefbeoibaa
set_option linter.unusedVariables false
set_option linter.unusedSimpArgs false
variable {h0 h : Heap} {Z E : List Rg} {Q : Value → Heap → Prop} {lt : It → It → Bool} {lf : Value}

theorem node_leaf_ok {n : Nat} {a : Option Addr} (hn : cl h n 3 = some (.pointer a)) (H : Q (.bool a.isNone) h) : node_I_leaf.call #[ptr n 0] h Q := by
  refine node_I_leaf.body _ _ _ ?_
  unfold node_I_leaf.sh
  have s := St.start h
  refine r_nil ?_
  refine r_fld ?_
  refine s.r_loadB hn ?_
  refine r_eqNilP ?_
  exact H
section
variable {tb n hb ho dp : Nat} {iv : Value} {its : List It} {x : It} {a : Option Addr}
end
end Go.Proofs.Ytgnnidefbeoibaa.Gi
end
section
namespace Go.Proofs.Ytgnnidefbeoibaa.Gi
open Go.Hp Go.Proofs.Ytgnnidefbeoibaa
set_option linter.unusedVariables false
set_option linter.unusedSimpArgs false
variable {h0 h : Heap} {Z E : List Rg} {Q : Value → Heap → Prop} {lt : It → It → Bool} {lf : Value}

/-- One's own node, or a node that is only read. -/
theorem isoLoad_ok {tb pb po n : Nat} {iso : Int} {m : Bool} (hi : cl h tb 0 = some (.int .u64 iso)) (hp : cl h pb po = some (ptr n 0)) (hn : m = true → cl h n 0 = some (.int .u64 iso)) (H : Q (ptr n 0) h) :
    BTreeG_I_isoLoad.call #[ptr tb 0, ptr pb po, .bool m] h Q := by
  refine BTreeG_I_isoLoad.body _ _ _ _ _ ?_
  unfold BTreeG_I_isoLoad.sh
  have hj : BTreeG_I_isoLoad.j1 (ptr pb po) h Q := by
    unfold BTreeG_I_isoLoad.j1
    refine r_nil ?_
    exact r_ld hp H
  refine r_br (fun hm => ?_) (fun _ => hj)
  refine r_nil ?_
  refine r_ld hp ?_
  refine r_nil ?_
  refine r_fld ?_
  refine r_ld (hn hm) ?_
  refine r_nil ?_
  refine r_fld ?_
  refine r_ld hi ?_
  refine r_cmpI ?_
  refine r_if (fun e => absurd e (by simp)) (fun _ => hj)

theorem newNode_leaf {tb : Nat} {iso : Int} (hi : cl h tb 0 = some (.int .u64 iso)) (H : ∀ n h', St h [] [(n, 0, [.int .u64 iso, .int .i64 0, .slice none 0 0, .pointer none])] h' → Q (ptr n 0) h') : BTreeG_I_newNode.call #[ptr tb 0, .bool true] h Q := by
  refine BTreeG_I_newNode.body _ _ _ _ ?_
  unfold BTreeG_I_newNode.sh
  have s := St.start h
  refine r_nil ?_
  refine r_fld ?_
  refine s.r_loadB hi ?_
  ((apply r_build; ((simp only [fillV, fill1, Value.cells, zeros_succ, zeros_zero, List.size_toArray, List.length_cons, List.length_nil, List.length_append, List.take_succ_cons, List.take_zero, List.take_nil, List.drop_succ_cons, List.drop_zero, List.drop_nil, List.cons_append, List.nil_append, List.append_nil, Nat.reduceAdd, Nat.reduceMul, Nat.reduceLeDiff, Nat.reduceEqDiff, and_self, and_true, true_and, if_true, Nat.le_refl, Nat.zero_add, Nat.add_zero, Nat.zero_mul, reduceIte, if_false] <;> rfl))))
  refine St.r_box (cs := [.int .u64 iso, .int .i64 0, .slice none 0 0, .pointer none]) s fun n h s => ?_
  refine r_not ?_
  refine r_if (fun e => absurd e (by decide)) (fun _ => ?_)
  unfold BTreeG_I_newNode.j1
  exact H n h s
theorem newNode_inner {tb : Nat} {iso : Int} (hi : cl h tb 0 = some (.int .u64 iso)) (H : ∀ n kb h', St h [] [(n, 0, [.int .u64 iso, .int .i64 0, .slice none 0 0, ptr kb 0]), (kb, 0, [.slice none 0 0])] h' → Q (ptr n 0) h') : BTreeG_I_newNode.call #[ptr tb 0, .bool false] h Q := by
  refine BTreeG_I_newNode.body _ _ _ _ ?_
  unfold BTreeG_I_newNode.sh
  have s := St.start h
  refine r_nil ?_
  refine r_fld ?_
  refine s.r_loadB hi ?_
  ((apply r_build; ((simp only [fillV, fill1, Value.cells, zeros_succ, zeros_zero, List.size_toArray, List.length_cons, List.length_nil, List.length_append, List.take_succ_cons, List.take_zero, List.take_nil, List.drop_succ_cons, List.drop_zero, List.drop_nil, List.cons_append, List.nil_append, List.append_nil, Nat.reduceAdd, Nat.reduceMul, Nat.reduceLeDiff, Nat.reduceEqDiff, and_self, and_true, true_and, if_true, Nat.le_refl, Nat.zero_add, Nat.add_zero, Nat.zero_mul, reduceIte, if_false] <;> rfl))))
  refine St.r_box (cs := [.int .u64 iso, .int .i64 0, .slice none 0 0, .pointer none]) s fun n h s => ?_
  refine r_not ?_
  refine r_if (fun _ => ?_) (fun e => absurd e (by decide))
  refine s.r_alloc fun kb h s => ?_
  refine r_nil ?_
  refine r_fld ?_
  refine St.r_store0 s 1 rfl (by simp) rfl ?_; intro h s
  unfold BTreeG_I_newNode.j1
  exact H n kb h (s.perm (by ((apply perm_rg; intro f; simp only [List.set_cons_zero, List.set_cons_succ, List.eraseIdx_cons_zero, List.eraseIdx_cons_succ, List.cons_append, List.nil_append, List.map_append, List.map_cons, List.map_nil, List.sum_append, List.sum_cons, List.sum_nil, List.map_flatMap, Nat.add_zero, Nat.zero_add]; ac_rfl))))

theorem updateCount_leaf {n b o len : Nat} {c1 c2 iv : Value} {xs sp : List Value} (s : St h0 Z ((n, 0, [c1, c2, iv, .pointer none]) :: E) h) (w : Own 2 iv len b o xs sp)
    (H : ∀ h', St h0 Z ((n, 0, [c1, .int .i64 len, iv, .pointer none]) :: E) h' → Q (.tuple #[]) h') : node_I_updateCount.call #[ptr n 0] h Q := by
  refine node_I_updateCount.body _ _ _ ?_
  unfold node_I_updateCount.sh
  refine r_nil ?_
  refine r_fld ?_
  refine St.r_load0 s 0 rfl rfl ?_
  refine w.lenV ?_
  refine r_nil ?_
  refine r_fld ?_
  refine St.r_store0 s 0 rfl (by simp) rfl ?_
  intro h s
  try simp only [List.set_cons_zero, List.set_cons_succ] at s
  refine node_leaf_ok (a := none) (s.get (k := 0) (j := 3) rfl (by simp)) ?_
  refine r_not ?_
  refine r_if (fun e => absurd e (by decide)) (fun _ => ?_)
  exact H _ s
theorem updateCount_inner {n kb b o rb ro len : Nat} {c1 c2 iv kv : Value} {xs sp ksp : List Value} {ids : List Nat} {c : Nat → Int} (s : St h0 Z ((n, 0, [c1, c2, iv, ptr kb 0]) :: (kb, 0, [kv]) :: (rb, ro, (ids.map fun m => ptr m 0) ++ ksp) :: E) h)
    (w : Own 2 iv len b o xs sp) (wkid : Own 1 kv ids.length rb ro (ids.map fun m => ptr m 0) ksp) (hids : ids.length ≤ 4294967296)
    (hc : ∀ j (hj : j < ids.length), ∃ a1 a2 a3, (ids[j], 0, [a1, .int .i64 (c j), a2, a3]) ∈ E ++ Z) (hb : ∀ j, j ≤ ids.length → 0 ≤ (len : Int) + ((List.range j).map c).sum ∧ (len : Int) + ((List.range j).map c).sum ≤ 9223372036854775807)
    (H : ∀ h', St h0 Z ((n, 0, [c1, .int .i64 ((len : Int) + ((List.range ids.length).map c).sum), iv, ptr kb 0]) :: (kb, 0, [kv]) :: (rb, ro, (ids.map fun m => ptr m 0) ++ ksp) :: E) h' → Q (.tuple #[]) h') : node_I_updateCount.call #[ptr n 0] h Q := by
  refine node_I_updateCount.body _ _ _ ?_
  unfold node_I_updateCount.sh
  refine r_nil ?_
  refine r_fld ?_
  refine St.r_load0 s 0 rfl rfl ?_
  refine w.lenV ?_
  refine r_nil ?_
  refine r_fld ?_
  refine St.r_store0 s 0 rfl (by simp) rfl ?_
  intro h s
  try simp only [List.set_cons_zero, List.set_cons_succ] at s
  refine node_leaf_ok (a := some ⟨kb, 0, none⟩) (s.get (k := 0) (j := 3) rfl (by simp)) ?_
  refine r_not ?_
  refine r_if (fun _ => ?_) (fun e => absurd e (by simp))
  refine loop_intro (fun t h => ∃ j : Nat, t = [.int .i64 j] ∧ j ≤ ids.length ∧ St h0 Z ((n, 0, [c1, .int .i64 ((len : Int) + ((List.range j).map c).sum), iv, ptr kb 0]) :: (kb, 0, [kv]) :: (rb, ro, (ids.map fun m => ptr m 0) ++ ksp) :: E) h)
    (fun t _ => ids.length - (Hp.iv (t.getD 0 undef)).toNat) ⟨0, rfl, by omega, by simpa using s⟩ ?_
  rintro t h ⟨j, rfl, hj, s⟩
  unfold node_I_updateCount.l1.b
  refine r_nil ?_
  refine r_fld ?_
  refine St.r_load0 s 0 rfl rfl ?_
  refine r_nil ?_
  refine St.r_load0 s 1 rfl rfl ?_
  refine wkid.lenV ?_
  refine r_cmpI ?_
  refine r_if (fun hlt => ?_) (fun hge => ?_)
  · have hlt : j < ids.length := by simpa using hlt
    unfold node_I_updateCount.j2
    refine r_nil ?_
    refine r_fld ?_
    refine St.r_load0 s 0 rfl rfl ?_
    refine r_nil ?_
    refine r_fld ?_
    refine St.r_load0 s 0 rfl rfl ?_
    refine r_nil ?_
    refine St.r_load0 s 1 rfl rfl ?_
    refine wkid.idx (n := j) rfl hlt ?_
    refine s.r_load1 2 rfl (v := ptr ids[j] 0) (by rw [Nat.mul_one, List.getElem?_append_left (by simpa using hlt), List.getElem?_map, List.getElem?_eq_getElem hlt]; rfl) ?_
    obtain ⟨a1, a2, a3, hm⟩ := hc j hlt
    refine r_nil ?_
    refine r_fld ?_
    refine s.r_loadM (xs := [a1, .int .i64 (c j), a2, a3]) (by simp only [List.cons_append, List.mem_cons]; exact .inr (.inr (.inr hm))) rfl ?_
    refine r_add (z := (len : Int) + ((List.range (j + 1)).map c).sum) ?_ ?_
    · have := hb (j + 1) hlt
      rw [List.range_succ, List.map_append, List.sum_append] at this ⊢
      simp only [List.map_cons, List.map_nil, List.sum_cons, List.sum_nil] at this ⊢
      rw [i64w (by omega) (by omega)]; omega
    · refine r_nil ?_
      refine r_fld ?_
      refine St.r_store0 s 0 rfl (by simp) rfl ?_
      intro h s
      try simp only [List.set_cons_zero, List.set_cons_succ] at s
      unfold node_I_updateCount.j3
      refine r_add (z := ((j + 1 : Nat) : Int)) (by rw [i64w (by omega) (by omega)]; omega) ?_
      exact ⟨⟨j + 1, rfl, hlt, s⟩, by simp; omega⟩
  · have hge : j = ids.length := by simp at hge; omega
    subst hge
    exact H h s
/-- A tree whose nodes are all the map's own, as they should be. -/
structure Gd (iso : Int) {k : Nat} (t : GT It k) : Prop where
  wf : t.Wf enc 2 iso
  cn : t.Cn
  mine : t.Mine
theorem Gd.kid {iso : Int} {k : Nat} {t : GT It (k + 1)} (g : Gd iso t) {c : GT It k} (hc : c ∈ t.2) : Gd iso c := ⟨(g.wf.2.2.2 c hc).1, g.cn.2 c hc, g.mine.2 c hc⟩
abbrev fp (m : Nat) : List Value := [ptr m 0]
theorem fpl (m : Nat) : (fp m).length = 1 := rfl
theorem mfp (l : List Nat) : (l.map fun m => ptr m 0) = l.flatMap fp := List.map_eq_flatMap
theorem GT.topA : ∀ {k : Nat} {t : GT It k}, ∃ a1 a2 a3, (t.id, 0, [a1, .int .i64 t.nd.cnt, a2, a3]) ∈ t.all enc
  | 0, d => ⟨_, _, _, List.mem_cons_self ..⟩
  | _ + 1, t => ⟨_, _, _, List.mem_append.2 (.inl (List.mem_cons_self ..))⟩
theorem updateCount_kids {k : Nat} {ts : List (GT It k)} {n kb b o rb ro len : Nat} {c1 c2 iv kv : Value} {xs sp ksp : List Value}
    (s : St h0 Z ((n, 0, [c1, c2, iv, ptr kb 0]) :: (kb, 0, [kv]) :: (rb, ro, (ts.map GT.id).flatMap fp ++ ksp) :: E) h)
    (w : Own 2 iv len b o xs sp) (wK : Own 1 kv (ts.map GT.id).length rb ro ((ts.map GT.id).flatMap fp) ksp) (hm : ∀ t ∈ ts, t.Cn) (hE : ∀ t ∈ ts, ∀ r ∈ t.all enc, r ∈ E)
    (hl : ts.length ≤ 4294967296) (hsz : len + (ts.map fun t => t.pt.items.length).sum ≤ 4611686018427387904)
    (H : ∀ h', St h0 Z ((n, 0, [c1, .int .i64 ((len + (ts.map fun t => t.pt.items.length).sum : Nat) : Int), iv, ptr kb 0]) :: (kb, 0, [kv]) :: (rb, ro, (ts.map GT.id).flatMap fp ++ ksp) :: E) h' → Q (.tuple #[]) h') : node_I_updateCount.call #[ptr n 0] h Q := by
  have hmm : (ts.map fun t => t.pt.items).map List.length = ts.map fun t => t.pt.items.length := by rw [List.map_map]; rfl
  have hsum : ∀ i, i ≤ ts.length → ((List.range i).map fun j => (ts.map fun t => t.nd.cnt)[j]?.getD 0).sum = (((ts.map fun t => t.pt.items.length).take i).sum : Nat) := fun i hi => by
    rw [sum_range _ i (by simpa using hi), ← List.map_take, GT.Cn.sum (fun t ht => hm t (List.mem_of_mem_take ht)), List.map_map, ← List.map_take]; rfl
  rw [← mfp] at s wK
  refine updateCount_inner (c := fun j => (ts.map fun t => t.nd.cnt)[j]?.getD 0) s w wK (by simp; omega) (fun i hi => ?_) (fun i hi => ?_) fun h s => ?_
  · have hi' : i < ts.length := by simpa using hi
    obtain ⟨a1, a2, a3, hmem⟩ := GT.topA (t := ts[i])
    refine ⟨a1, a2, a3, ?_⟩
    simp only [List.getElem_map, List.getElem?_map, List.getElem?_eq_getElem hi', Option.map_some, Option.getD_some]
    exact List.mem_append.2 (.inl (hE _ (List.getElem_mem hi') _ hmem))
  · rw [hsum i (by simpa using hi)]
    have := sum_take_le (ts.map fun t => t.pt.items.length) i
    omega
  · rw [show (ts.map GT.id).length = ts.length by simp, hsum _ (Nat.le_refl _), List.take_of_length_le (by simp)] at s
    rw [mfp] at s
    exact H h (by rw [Int.natCast_add]; exact s)

end Go.Proofs.Ytgnnidefbeoibaa.Gi
end
section
namespace Go.Proofs.Ytgnnidefbeoibaa.Gi
open Go.Hp Go.Proofs.Ytgnnidefbeoibaa
set_option linter.unusedVariables false
set_option linter.unusedSimpArgs false
variable {h0 h : Heap} {Z E : List Rg} {Q : Value → Heap → Prop} {lt : It → It → Bool} {lf : Value}

/-- The item that was there. -/
abbrev old (r : Option It) : Value := av (r.getD emp)
theorem snoc_enc (l : List It) (e : It) : l.flatMap enc ++ enc e = (l ++ [e]).flatMap enc := by rw [List.flatMap_append, List.flatMap_singleton]
theorem Gd.leaf {iso : Int} {d : Nd It} (w : Own 2 d.iv d.its.length d.ib d.io (d.its.flatMap enc) d.isp) (ho : d.own = true) (hi : d.iso = iso) (hc : d.cnt = d.its.length) : Gd iso (k := 0) d := ⟨⟨w, by simp [ho, hi]⟩, hc, ho⟩
theorem Gd.inner {iso : Int} {k : Nat} {d : Nd It} {ts : List (GT It k)} (w : Own 2 d.iv d.its.length d.ib d.io (d.its.flatMap enc) d.isp) (ho : d.own = true) (hi : d.iso = iso) (wK : Own 1 d.kv ts.length d.krb d.kro ((ts.map GT.id).flatMap fp) d.ksp)
    (hl : ts.length = d.its.length + 1) (hk : ∀ c ∈ ts, Gd iso c) (hc : d.cnt = (GT.pt (h := k + 1) (d, ts)).items.length) : Gd iso (k := k + 1) (d, ts) :=
  ⟨⟨⟨w, by simp [ho, hi]⟩, by rw [mfp]; exact wK, hl, fun c hc => ⟨(hk c hc).wf, fun e => by rw [ho] at e; cases e⟩⟩, ⟨hc, fun c hc => (hk c hc).cn⟩, ⟨ho, fun c hc => (hk c hc).mine⟩⟩

end Go.Proofs.Ytgnnidefbeoibaa.Gi
end
section
namespace Go.Proofs.Ytgnnidefbeoibaa.Gi
open Go.Hp Go.Proofs.Ytgnnidefbeoibaa
set_option linter.unusedVariables false
set_option linter.unusedSimpArgs false
variable {h0 h : Heap} {Z E : List Rg} {Q : Value → Heap → Prop} {lt : It → It → Bool} {lf : Value}
abbrev pp (m : Nat) : Value := ptr m 0
end Go.Proofs.Ytgnnidefbeoibaa.Gi
end
section
namespace Go.Proofs.Ytgnnidefbeoibaa.Gi
open Go.Hp Go.Proofs.Ytgnnidefbeoibaa
set_option linter.unusedVariables false
set_option linter.unusedSimpArgs false
variable {h0 h : Heap} {Z E : List Rg} {Q : Value → Heap → Prop} {lt : It → It → Bool} {lf : Value}

/-- A tree's root: none, or a tree. -/
abbrev Rt := Option ((k : Nat) × GT It k)
def rA : Rt → Option Addr
  | none => none
  | some t => some ⟨t.2.id, 0, none⟩
def rAll : Rt → List Rg
  | none => []
  | some t => t.2.all enc
def rPt : Rt → MT It
  | none => none
  | some t => some ⟨t.1, t.2.pt⟩
def rGd (iso : Int) : Rt → Prop
  | none => True
  | some t => Gd iso t.2
end Go.Proofs.Ytgnnidefbeoibaa.Gi
end
section
namespace Go.Proofs.Ytgnnidefbeoibaa.Gi
open Go.Hp Go.Proofs.Ytgnnidefbeoibaa
set_option linter.unusedVariables false
set_option linter.unusedSimpArgs false
variable {h0 h : Heap} {Z E : List Rg} {Q : Value → Heap → Prop} {lt : It → It → Bool} {lf : Value}

/-! ### orders -/
abbrev fi (k : Int) : List Value := [.int .i64 k]
theorem fil (k : Int) : (fi k).length = 1 := rfl
/-- The rank of a key. -/
def rnk (ow : List Int) (k : Int) : Int := if ow = [] then k else ow[(k % ow.length).toNat]?.getD 0
def ltO (ow : List Int) (a b : It) : Bool := decide (rnk ow a.1 < rnk ow b.1)
theorem swoO (ow : List Int) : Swo (ltO ow) where
  irr a := by simp [ltO]
  tr a b c h1 h2 := by simp only [ltO, decide_eq_true_eq] at *; omega
  ntr a b c h1 h2 := by simp only [ltO, decide_eq_false_iff_not, Int.not_lt] at *; omega
/-- A function value that answers as the order does, as long as the ranges A stay. -/
def OrdA (A : List Rg) (lf : Value) (lt : It → It → Bool) : Prop := ∀ Z, (∀ r, r ∈ A → r ∈ Z) → OrdC Z lf lt
theorem remainder_ok {k : Int} {n : Nat} (h1 : 1 ≤ n) (h2 : n ≤ 1152921504606846976) (H : Q (.int .i64 (k % n)) h) : i_remainder.call #[.int .i64 k, .int .i64 n] h Q := by
  refine i_remainder.body _ _ _ _ ?_
  unfold i_remainder.sh
  have hn0 : (n : Int) ≠ 0 := by omega
  have hb1 : k.tmod n < n := Int.tmod_lt_of_pos k (by omega)
  have hb2 : -(n : Int) < k.tmod n := by
    have := Int.lt_tmod_of_pos k (show (0 : Int) < n by omega)
    omega
  refine ⟨.i64, _, _, rfl, rfl, hn0, ?_⟩
  refine r_add (z := k.tmod n + n) (i64w (by omega) (by omega)) ?_
  refine ⟨.i64, _, _, rfl, rfl, hn0, ?_⟩
  have e : (k.tmod n + n).tmod n = k % n := by
    rw [Int.tmod_eq_emod_of_nonneg (by omega), Int.add_emod_right]
    have e1 := Int.mul_tdiv_add_tmod k n
    conv => rhs; rw [← e1, Int.add_comm, Int.add_mul_emod_self_left]
  rw [e]; exact H
theorem rank_ok {v : Value} {ow : List Int} {k : Int} (hr : Rdl 1 h v ow.length (ow.flatMap fi)) (hl : ow.length ≤ 1152921504606846976) (H : Q (.int .i64 (rnk ow k)) h) : i_rank.call #[v, .int .i64 k] h Q := by
  refine i_rank.body _ _ _ _ ?_
  unfold i_rank.sh
  refine hr.lenV ?_
  refine r_cmpI ?_
  refine r_if (fun e => ?_) (fun e => ?_)
  · have : ow = [] := by have : ow.length = 0 := by simpa using e
                         exact List.length_eq_zero_iff.1 this
    unfold rnk at H; rw [if_pos this] at H; exact H
  · have hne : ow ≠ [] := fun e2 => by subst e2; simp at e
    have hpos : 1 ≤ ow.length := by have := List.length_pos_iff.2 hne; omega
    unfold i_rank.j1
    refine hr.lenV ?_
    refine remainder_ok hpos hl ?_
    have hm0 : 0 ≤ k % (ow.length : Int) := Int.emod_nonneg _ (by omega)
    have hm1 : k % (ow.length : Int) < ow.length := Int.emod_lt_of_pos _ (by omega)
    have hlt : (k % (ow.length : Int)).toNat < ow.length := by generalize k % (ow.length : Int) = z at *; omega
    refine hr.at (n := (k % (ow.length : Int)).toNat) (f := fi) rfl fil (Int.toNat_of_nonneg hm0).symm rfl hlt fun b o hb => ?_
    refine hb.load0 rfl ?_
    unfold rnk at H
    rw [if_neg hne, List.getElem?_eq_getElem hlt] at H
    exact H
theorem Clone_ok {v : Value} {l : List Int} (hr : Rdl 1 h v l.length (l.flatMap fi)) (hl : l.length ≤ 2147483647)
    (H : ∀ v' b o sp E' h', Own 1 v' l.length b o (l.flatMap fi) sp → St h [] ((b, o, l.flatMap fi ++ sp) :: E') h' → Q v' h') : sl_Clone_inti.call #[v] h Q := by
  refine sl_Clone_inti.body _ _ _ ?_
  unfold sl_Clone_inti.sh
  have s := St.start h
  have hr0 := hr
  obtain ⟨a, cap, e, _, hc, _⟩ := hr0
  subst e
  refine ⟨a, _, _, rfl, ?_⟩
  refine r_if (fun ha => ?_) (fun ha => ?_)
  · have : l = [] := by
      cases l with
      | nil => rfl
      | cons x r =>
        obtain ⟨b, o, e, _⟩ := hc (by simp)
        subst e; cases ha
    subst this
    exact H _ 0 0 [] _ _ (Own.nil 1 0 0) (s.empty 0 0)
  · unfold sl_Clone_inti.j1
    refine St.r_mkSl (sz := 1) (cs := []) s (by ((simp only [fillV, fill1, Value.cells, zeros_succ, zeros_zero, List.size_toArray, List.length_cons, List.length_nil, List.length_append, List.take_succ_cons, List.take_zero, List.take_nil, List.drop_succ_cons, List.drop_zero, List.drop_nil, List.cons_append, List.nil_append, List.append_nil, Nat.reduceAdd, Nat.reduceMul, Nat.reduceLeDiff, Nat.reduceEqDiff, and_self, and_true, true_and, if_true, Nat.le_refl, Nat.zero_add, Nat.add_zero, Nat.zero_mul, reduceIte, if_false] <;> rfl))) rfl fun q h s wq => ?_
    refine s.r_appL (f := fi) (L := []) (M := l) 0 rfl wq rfl (hr.st s) (fun _ _ => by simp [one1]) (by simp; omega) (by simp; omega) fun v' b' o' sp' h s w' => ?_
    exact H _ _ _ _ _ _ w' s
theorem less_ok {cb : Nat} {v : Value} {ow : List Int} {a b : It} (s : St h0 Z E h) (hc : cl h cb 0 = some v) (hr : Rdl 1 h v ow.length (ow.flatMap fi)) (hl : ow.length ≤ 1152921504606846976) (H : ∀ E' h', St h [] E' h' → Q (.bool (ltO ow a b)) h') : i_before_c1.call #[av a, av b, ptr cb 0] h Q := by
  refine i_before_c1.body _ _ _ _ _ ?_
  unfold i_before_c1.sh
  have u := St.start h
  refine St.r_box (cs := enc a) u fun t3 h1 u => ?_
  refine St.r_box (cs := enc b) u fun t4 h1 u => ?_
  refine u.r_loadB hc ?_
  refine r_fld ?_
  refine St.r_load0 u 1 rfl rfl ?_
  refine u.r_loadB hc ?_
  refine r_fld ?_
  refine St.r_load0 u 0 rfl rfl ?_
  refine rank_ok (hr.st u) hl ?_
  refine ⟨⟨_, rfl, u.base hc⟩, St.r_still0 u 0 rfl rfl, ?_⟩
  refine rank_ok (hr.st u) hl ?_
  refine r_cmpI ?_
  exact H _ _ u
theorem before_ok {v : Value} {ow : List Int} (hr : Rdl 1 h v ow.length (ow.flatMap fi)) (hl : ow.length ≤ 2147483647)
    (H : ∀ lf A E' h', OrdA A lf (ltO ow) → St h [] (A ++ E') h' → Q lf h') : i_before.call #[v] h Q := by
  refine i_before.body _ _ _ ?_
  unfold i_before.sh
  refine Clone_ok hr hl fun v' b o sp E' h1 w s => ?_
  refine s.r_alloc fun t3 h1 s => ?_
  refine St.r_store0 s 0 rfl (by simp) w.one ?_; intro h1 s
  refine H _ [(t3, 0, [v']), (b, o, ow.flatMap fi ++ sp)] E' h1 (fun Z hz => ⟨rfl, rfl, fun {h0} {h} {E} {x} {y} {Q} s H => ?_⟩) s
  refine r_callV ⟨_, Try.func102, rfl, by kernel_rfl⟩ ?_
  refine less_ok s (s.clz (hz _ (List.mem_cons_self ..)) 0 rfl rfl) (w.rdlZ s (hz _ (List.mem_cons_of_mem _ (List.mem_cons_self ..)))) (by omega) H

/-! ### trees -/
structure TreeOk (lt : It → It → Bool) (m : Nat) (iso : Int) (g : Rt) : Prop where
  gd : rGd iso g
  fl : (rPt g).Fl m
  asc : Asc lt (rPt g).items
  m3 : 3 ≤ m
  m1 : m ≤ 1024
  odd : m % 2 = 1
theorem TreeOk.none {m : Nat} {iso : Int} (m3 : 3 ≤ m) (m1 : m ≤ 1024) (odd : m % 2 = 1) : TreeOk lt m iso none := ⟨trivial, trivial, List.Pairwise.nil, m3, m1, odd⟩
theorem init_set {tb : Nat} {d a b iso cnt : Int} {ctr root : Option Addr} (s : St h0 Z ((tb, 0, hdr iso ctr root cnt lf 0 0) :: E) h) (hd : ∀ {h : Heap} {Q : Value → Heap → Prop}, Q (.tuple #[.int .i64 a, .int .i64 b]) h → degreeToMinMax.call #[.int .i64 d] h Q)
    (H : ∀ h', St h0 Z ((tb, 0, hdr iso ctr root cnt lf a b) :: E) h' → Q (.tuple #[]) h') : BTreeG_I_init.call #[ptr tb 0, .int .i64 d] h Q := by
  refine BTreeG_I_init.body _ _ _ _ ?_
  unfold BTreeG_I_init.sh
  refine r_nil ?_
  refine r_fld ?_
  refine St.r_load0 s 0 rfl rfl ?_
  refine r_cmpI ?_
  refine r_if (fun e => absurd e (by decide)) (fun _ => ?_)
  unfold BTreeG_I_init.j1
  refine hd ?_
  refine r_ext rfl ?_
  refine r_ext rfl ?_
  refine r_nil ?_
  refine r_fld ?_
  (refine St.r_store0 s 0 rfl (by simp) rfl ?_; intro h s; try simp only [List.set_cons_zero, List.set_cons_succ] at s)
  refine r_nil ?_
  refine r_fld ?_
  (refine St.r_store0 s 0 rfl (by simp) rfl ?_; intro h s; try simp only [List.set_cons_zero, List.set_cons_succ] at s)
  refine r_nil ?_
  refine r_fld ?_
  refine St.r_loadN0 s 0 rfl (by simp) ?_
  refine r_ext rfl ?_
  refine r_ext rfl ?_
  refine r_nil ?_
  refine r_fld ?_
  (refine St.r_store0 s 0 rfl (by simp) rfl ?_; intro h s; try simp only [List.set_cons_zero, List.set_cons_succ] at s)
  refine r_nil ?_
  refine r_fld ?_
  refine St.r_load0 s 0 rfl rfl ?_
  refine r_not ?_
  refine r_if (fun _ => ?_) (fun e => absurd e (by decide))
  refine r_nil ?_
  refine r_fld ?_
  refine St.r_loadN0 s 0 rfl (by simp) ?_
  refine r_ext rfl ?_
  refine r_ext rfl ?_
  refine r_nil ?_
  refine r_fld ?_
  (refine St.r_store0 s 0 rfl (by simp) rfl ?_; intro h s; try simp only [List.set_cons_zero, List.set_cons_succ] at s)
  exact H _ s
/-- The least and the greatest number of items of a node. -/
def dmin (d : Nat) : Nat := if d = 0 then 31 else d - 1
def dmax (d : Nat) : Nat := if d = 0 then 63 else 2 * d - 1
theorem degree_any {d : Nat} (hd : d = 0 ∨ 2 ≤ d) (hd2 : d ≤ 512) {h : Heap} {Q : Value → Heap → Prop} (H : Q (.tuple #[.int .i64 (dmin d : Nat), .int .i64 (dmax d : Nat)]) h) : degreeToMinMax.call #[.int .i64 d] h Q := by
  by_cases e : d = 0
  · subst e; exact degree_zero H
  · unfold dmin dmax at H
    rw [if_neg e, if_neg e] at H
    refine degree_ok (d := d) (by omega) (by omega) ?_
    have e1 : (d : Int) - 1 = ((d - 1 : Nat) : Int) := by omega
    have e2 : 2 * (d : Int) - 1 = ((2 * d - 1 : Nat) : Int) := by omega
    rw [e1, e2]; exact H
theorem dmax_ok {d : Nat} (hd : d = 0 ∨ 2 ≤ d) (hd2 : d ≤ 512) : 3 ≤ dmax d ∧ dmax d ≤ 1024 ∧ dmax d % 2 = 1 ∧ dmin d = dmax d / 2 ∧ dmin d ≠ 0 := by
  unfold dmax dmin; split <;> omega
theorem newIsoID_ok {cb : Nat} {c : Int} (hc0 : 0 ≤ c) (hc1 : c ≤ 1073741824) (s : St h0 Z ((cb, 0, [.int .u64 c]) :: E) h) (H : ∀ h', St h0 Z ((cb, 0, [.int .u64 (c + 1)]) :: E) h' → Q (.int .u64 (c + 1)) h') : newIsoID.call #[ptr cb 0] h Q := by
  refine newIsoID.body _ _ _ ?_
  unfold newIsoID.sh
  refine r_nil ?_
  refine St.r_load0 s 0 rfl rfl ?_
  refine r_add (z := c + 1) (u64w (by omega) (by omega)) ?_
  refine r_nil ?_
  (refine St.r_store0 s 0 rfl (by simp) rfl ?_; intro h s; try simp only [List.set_cons_zero, List.set_cons_succ] at s)
  refine r_nil ?_
  refine St.r_load0 s 0 rfl rfl ?_
  exact H _ s
theorem New_ok (s : St h0 Z E h) {d : Nat} (hd : d = 0 ∨ 2 ≤ d) (hd2 : d ≤ 512) {nl : Bool} (hlf : one1 lf = true) (H : ∀ b cb h', St h0 Z ((b, 0, hdr 1 (some ⟨cb, 0, none⟩) none 0 lf (dmin d : Nat) (dmax d : Nat)) :: (cb, 0, [.int .u64 1]) :: E) h' → Q (ptr b 0) h') : NewBTreeGOptions_I.call #[lf, .agg #[.int .i64 d, .bool nl]] h Q := by
  refine NewBTreeGOptions_I.body _ _ _ _ ?_
  unfold NewBTreeGOptions_I.sh
  refine St.r_box (cs := [.int .i64 d, .bool nl]) s fun t3 h s => ?_
  refine s.r_alloc fun t6 h s => ?_
  refine s.r_alloc fun t8 h s => ?_
  refine r_nil ?_
  refine r_fld ?_
  (refine St.r_store0 s 1 rfl (by simp) rfl ?_; intro h s; try simp only [List.set_cons_zero, List.set_cons_succ] at s)
  refine r_nil ?_
  refine r_fld ?_
  refine St.r_load0 s 1 rfl rfl ?_
  refine newIsoID_ok (c := 0) (by decide) (by decide) s fun h s => ?_
  refine r_nil ?_
  refine r_fld ?_
  (refine St.r_store0 s 1 rfl (by simp) rfl ?_; intro h s; try simp only [List.set_cons_zero, List.set_cons_succ] at s)
  refine r_nil ?_
  refine r_fld ?_
  refine St.r_store0 s 1 rfl (by simp) hlf ?_; intro h s
  refine r_fld ?_
  refine St.r_load0 s 2 rfl rfl ?_
  have s : St h0 Z ((t6, 0, hdr 1 (some ⟨t8, 0, none⟩) none 0 lf 0 0) :: (t8, 0, [.int .u64 1]) :: (t3, 0, [.int .i64 d, .bool nl]) :: E) h := s.perm (List.Perm.swap _ _ _)
  refine init_set s (fun K => degree_any hd hd2 K) fun h s => ?_
  exact H _ _ _ (s.sub (List.Sublist.cons_cons _ (List.Sublist.cons_cons _ (List.sublist_cons_self _ _))))
/-- A tree's head in parts. -/
theorem hdr_cut {tb : Nat} {iso cnt mn mx : Int} {ctr root : Option Addr} (s : St h0 Z ((tb, 0, hdr iso ctr root cnt lf mn mx) :: E) h) : St h0 Z ((tb, 0, hd0 iso ctr) :: (tb, 4, hd4 lf mn mx) :: (tb, 2, [.pointer root]) :: (tb, 3, [.int .i64 cnt]) :: E) h := by
  have s1 : St h0 Z ((tb, 0, hd0 iso ctr ++ ([.pointer root] ++ ([.int .i64 cnt] ++ hd4 lf mn mx))) :: E) h := s
  have s2 := s1.cut
  have s3 := (s2.front 1 rfl).cut
  have s4 := (s3.front 1 rfl).cut
  exact s4.perm (E' := (tb, 0, hd0 iso ctr) :: (tb, 4, hd4 lf mn mx) :: (tb, 2, [.pointer root]) :: (tb, 3, [.int .i64 cnt]) :: E) (by
    show ((tb, 0, hd0 iso ctr) :: (tb, 4, hd4 lf mn mx) :: (tb, 2, [.pointer root]) :: (tb, 3, [.int .i64 cnt]) :: E).Perm ((tb, 3, [.int .i64 cnt]) :: (tb, 4, hd4 lf mn mx) :: (tb, 2, [.pointer root]) :: (tb, 0, hd0 iso ctr) :: E)
    ((apply perm_rg; intro f; simp only [List.set_cons_zero, List.set_cons_succ, List.eraseIdx_cons_zero, List.eraseIdx_cons_succ, List.cons_append, List.nil_append, List.map_append, List.map_cons, List.map_nil, List.sum_append, List.sum_cons, List.sum_nil, List.map_flatMap, Nat.add_zero, Nat.zero_add]; ac_rfl)))
end Go.Proofs.Ytgnnidefbeoibaa.Gi
end
section
namespace Go.Proofs.Ytgnnidefbeoibaa.Gi
open Go.Hp Go.Proofs.Ytgnnidefbeoibaa
set_option linter.unusedVariables false
set_option linter.unusedSimpArgs false
set_option maxHeartbeats 4000000
variable {h0 h : Heap} {Z E : List Rg} {Q : Value → Heap → Prop} {lf : Value}

def GT.kp : {k : Nat} → GT It k → Value
  | 0, _ => .pointer none
  | _ + 1, t => ptr t.1.kb 0
def GT.rest : {k : Nat} → GT It k → List Rg
  | 0, _ => []
  | _ + 1, t => (t.1.kb, 0, [t.1.kv]) :: (t.1.krb, t.1.kro, ((t.2.map GT.id).map pp).flatMap fv ++ t.1.ksp) :: t.2.flatMap (GT.all enc)
theorem all_eq : ∀ {k : Nat} (t : GT It k), t.all enc = (t.id, 0, [.int .u64 t.nd.iso, .int .i64 t.nd.cnt, t.nd.iv, GT.kp t]) :: (t.nd.ib, t.nd.io, t.nd.its.flatMap enc ++ t.nd.isp) :: GT.rest t
  | 0, _ => rfl
  | _ + 1, t => by
    have e : GT.rest (k := _ + 1) t = (t.1.kb, 0, [t.1.kv]) :: (t.1.krb, t.1.kro, ((t.2.map GT.id).map pp).flatMap fv ++ t.1.ksp) :: t.2.flatMap (GT.all enc) := rfl
    rw [e, flat_fv]; rfl
theorem Gd.own {iso : Int} : ∀ {k : Nat} {t : GT It k}, Gd iso t → Own 2 t.nd.iv t.nd.its.length t.nd.ib t.nd.io (t.nd.its.flatMap enc) t.nd.isp
  | 0, _, g => g.wf.1
  | _ + 1, _, g => g.wf.1.1
theorem Gd.iso {iso : Int} : ∀ {k : Nat} {t : GT It k}, Gd iso t → t.nd.iso = iso
  | 0, _, g => g.wf.2.1 g.mine
  | _ + 1, _, g => g.wf.1.2.1 g.mine.1
theorem Gd.ownK {iso : Int} {k : Nat} {t : GT It (k + 1)} (g : Gd iso t) : Own 1 t.1.kv ((t.2.map GT.id).map pp).length t.1.krb t.1.kro (((t.2.map GT.id).map pp).flatMap fv) t.1.ksp := by
  have := g.wf.2.1
  rw [flat_fv, List.length_map, List.length_map]; exact this
theorem Gd.cntEq {iso : Int} {k : Nat} {t : GT It k} (g : Gd iso t) : t.nd.cnt = t.pt.items.length := g.cn.cnt
theorem fl_its {m lo : Nat} : ∀ {k : Nat} {t : GT It k}, t.pt.Fl m lo → lo ≤ t.nd.its.length ∧ t.nd.its.length ≤ m
  | 0, _, f => f
  | _ + 1, _, f => ⟨f.1, f.2.1⟩
/-- Of a node and its kids: a tree of the given parts. -/
theorem mk_inner {iso : Int} {k n ib io kb krb kro : Nat} {its : List It} {iv kv : Value} {isp ksp : List Value} {ts : List (GT It k)} (w : Own 2 iv its.length ib io (its.flatMap enc) isp) (wK : Own 1 kv ((ts.map GT.id).map pp).length krb kro (((ts.map GT.id).map pp).flatMap fv) ksp)
    (hl : ts.length = its.length + 1) (hk : ∀ c ∈ ts, Gd iso c) : ∃ t : GT It (k + 1), t.id = n ∧ Gd iso t ∧ t.pt = (its, ts.map GT.pt) ∧ t.nd.its = its ∧
      t.all enc = (n, 0, [.int .u64 iso, .int .i64 (PT.items (h := k + 1) (its, ts.map GT.pt)).length, iv, ptr kb 0]) :: (ib, io, its.flatMap enc ++ isp) :: (kb, 0, [kv]) :: (krb, kro, ((ts.map GT.id).map pp).flatMap fv ++ ksp) :: ts.flatMap (GT.all enc) := by
  refine ⟨((⟨true, n, iso, (PT.items (h := k + 1) (its, ts.map GT.pt)).length, its, iv, ib, io, isp, kb, kv, krb, kro, ksp⟩ : Nd It), ts), rfl, Gd.inner w rfl rfl ?_ hl hk rfl, rfl, rfl, ?_⟩
  · rw [flat_fv, List.length_map, List.length_map] at wK
    rw [← mfp]; exact wK
  · show Nd.inner enc _ (ts.map GT.id) ++ ts.flatMap (GT.all enc) = _
    unfold Nd.inner
    rw [flat_fv]; rfl
theorem mk_leaf {iso : Int} {n ib io : Nat} {its : List It} {iv : Value} {isp : List Value} (w : Own 2 iv its.length ib io (its.flatMap enc) isp) : ∃ t : GT It 0, t.id = n ∧ Gd iso t ∧ t.pt = its ∧ t.nd.its = its ∧
      t.all enc = [(n, 0, [.int .u64 iso, .int .i64 its.length, iv, .pointer none]), (ib, io, its.flatMap enc ++ isp)] :=
  ⟨(⟨true, n, iso, its.length, its, iv, ib, io, isp, 0, .pointer none, 0, 0, []⟩ : Nd It), rfl, Gd.leaf w rfl rfl rfl, rfl, rfl, rfl⟩
theorem ids_pp {k : Nat} (A B : List (GT It k)) (l r : GT It k) : (((A ++ l :: r :: B).map GT.id).map pp) = (A.map GT.id).map pp ++ pp l.id :: pp r.id :: (B.map GT.id).map pp := by simp
theorem ids_one {k : Nat} (A B : List (GT It k)) (l : GT It k) : (((A ++ l :: B).map GT.id).map pp) = (A.map GT.id).map pp ++ pp l.id :: (B.map GT.id).map pp := by simp
theorem two_of {β : Type} {ts : List β} {j : Nat} (h : j + 1 < ts.length) : ∃ A l r B, ts = A ++ l :: r :: B ∧ A.length = j :=
  ⟨ts.take j, ts[j], ts[j + 1], ts.drop (j + 2), by
    rw [← List.drop_eq_getElem_cons h, ← List.drop_eq_getElem_cons (by omega), List.take_append_drop], by rw [List.length_take]; omega⟩
theorem one_of {β : Type} {ts : List β} {j : Nat} (h : j < ts.length) : ∃ A l B, ts = A ++ l :: B ∧ A.length = j :=
  ⟨ts.take j, ts[j], ts.drop (j + 1), by rw [← List.drop_eq_getElem_cons h, List.take_append_drop], by rw [List.length_take]; omega⟩

/-- What mending leaves. -/
def Mended (iso : Int) (m j : Nat) {k : Nat} (t t' : GT It (k + 1)) : Prop := t'.id = t.id ∧ t'.pt.items = t.pt.items ∧ t'.pt.Fl m (t.pt.1.length - 1) ∧ Gd iso t' ∧ t'.pt = PT.mendAt m t.pt j

theorem mended_two {iso : Int} {m j k : Nat} {A B : List (GT It k)} {l r l' r' : GT It k} {P S : List It} {y z : It} {t t' : GT It (k + 1)} (e : t.pt = (P ++ y :: S, (A ++ l :: r :: B).map GT.pt)) (e' : t'.pt = (P ++ z :: S, (A ++ l' :: r' :: B).map GT.pt)) (hA : A.length = P.length) (hB : B.length = S.length)
    (hi : t'.id = t.id) (g' : Gd iso t') (hab : ∀ c ∈ A ++ B, PT.Fl m (m / 2) c.pt) (hlm : t.pt.1.length ≤ m) (fl : l'.pt.Fl m (m / 2)) (fr : r'.pt.Fl m (m / 2)) (hx : l.pt.items ++ y :: r.pt.items = l'.pt.items ++ z :: r'.pt.items) (hPj : P.length = j)
    (hs : ¬ l.nd.its.length + r.nd.its.length < m ∧ ((r.nd.its.length < l.nd.its.length ∧ PT.shR y l.pt r.pt = (l'.pt, z, r'.pt)) ∨ (¬ r.nd.its.length < l.nd.its.length ∧ PT.shL y l.pt r.pt = (l'.pt, z, r'.pt)))) : Mended iso m j t t' := by
  refine ⟨hi, ?_, ?_, g', ?_⟩
  rotate_right
  · have e1 : t.pt = (P ++ y :: S, A.map GT.pt ++ l.pt :: r.pt :: B.map GT.pt) := e.trans (congrArg (Prod.mk (P ++ y :: S)) (by rw [List.map_append, List.map_cons, List.map_cons]))
    have e2 : t'.pt = (P ++ z :: S, A.map GT.pt ++ l'.pt :: r'.pt :: B.map GT.pt) := e'.trans (congrArg (Prod.mk (P ++ z :: S)) (by rw [List.map_append, List.map_cons, List.map_cons]))
    have key := PT.mendAt_eq (m := m) (S := S) (A := A.map GT.pt) (B := B.map GT.pt) (y := y) (l := l.pt) (r := r.pt) hPj (by rw [List.length_map]; omega)
    rw [GT.pt_its, GT.pt_its, if_neg hs.1] at key
    rw [e1, e2]
    refine Eq.trans ?_ key.symm
    rcases hs.2 with ⟨h1, h2⟩ | ⟨h1, h2⟩
    · (rw [if_pos h1, h2]) <;> rfl
    · (rw [if_neg h1, h2]) <;> rfl
  · have e1 : t.pt = (P ++ y :: S, A.map GT.pt ++ l.pt :: r.pt :: B.map GT.pt) := e.trans (congrArg (Prod.mk (P ++ y :: S)) (by rw [List.map_append, List.map_cons, List.map_cons]))
    have e2 : t'.pt = (P ++ z :: S, A.map GT.pt ++ l'.pt :: r'.pt :: B.map GT.pt) := e'.trans (congrArg (Prod.mk (P ++ z :: S)) (by rw [List.map_append, List.map_cons, List.map_cons]))
    rw [e1, e2, PT.items_two _ _ _ _ _ _ _ (by rw [List.length_map]; exact hA) (by rw [List.length_map]; exact hB), PT.items_two _ _ _ _ _ _ _ (by rw [List.length_map]; exact hA) (by rw [List.length_map]; exact hB)]
    have h2 := congrArg (fun q => lz P ((A.map GT.pt).map PT.items) ++ (q ++ rz S ((B.map GT.pt).map PT.items))) hx
    simp only [List.append_assoc, List.cons_append] at h2 ⊢
    exact h2.symm
  · rw [e] at hlm ⊢
    rw [e']
    have hl : (P ++ y :: S).length ≤ m := hlm
    simp only [List.length_append, List.length_cons] at hl
    refine ⟨by show (P ++ y :: S).length - 1 ≤ (P ++ z :: S).length; simp, by show (P ++ z :: S).length ≤ m; simp; omega, by show ((A ++ l' :: r' :: B).map GT.pt).length = (P ++ z :: S).length + 1; simp; omega, fun c hc => ?_⟩
    obtain ⟨q, hq, rfl⟩ := List.mem_map.1 hc
    rcases List.mem_append.1 hq with h | h
    · exact hab q (List.mem_append.2 (.inl h))
    · rcases List.mem_cons.1 h with h | h
      · subst h; exact fl
      · rcases List.mem_cons.1 h with h | h
        · subst h; exact fr
        · exact hab q (List.mem_append.2 (.inr h))
theorem mended_one {iso : Int} {m j k : Nat} {A B : List (GT It k)} {l r l' : GT It k} {P S : List It} {y : It} {t t' : GT It (k + 1)} (e : t.pt = (P ++ y :: S, (A ++ l :: r :: B).map GT.pt)) (e' : t'.pt = (P ++ S, (A ++ l' :: B).map GT.pt)) (hA : A.length = P.length) (hB : B.length = S.length)
    (hi : t'.id = t.id) (g' : Gd iso t') (hab : ∀ c ∈ A ++ B, PT.Fl m (m / 2) c.pt) (hlm : t.pt.1.length ≤ m) (fl : l'.pt.Fl m (m / 2)) (hx : l.pt.items ++ y :: r.pt.items = l'.pt.items) (hPj : P.length = j) (hs : l.nd.its.length + r.nd.its.length < m ∧ PT.join2 y l.pt r.pt = l'.pt) : Mended iso m j t t' := by
  refine ⟨hi, ?_, ?_, g', ?_⟩
  rotate_right
  · have e1 : t.pt = (P ++ y :: S, A.map GT.pt ++ l.pt :: r.pt :: B.map GT.pt) := e.trans (congrArg (Prod.mk (P ++ y :: S)) (by rw [List.map_append, List.map_cons, List.map_cons]))
    have e2 : t'.pt = (P ++ S, A.map GT.pt ++ l'.pt :: B.map GT.pt) := e'.trans (congrArg (Prod.mk (P ++ S)) (by rw [List.map_append, List.map_cons]))
    have key := PT.mendAt_eq (m := m) (S := S) (A := A.map GT.pt) (B := B.map GT.pt) (y := y) (l := l.pt) (r := r.pt) hPj (by rw [List.length_map]; omega)
    rw [GT.pt_its, GT.pt_its, if_pos hs.1, hs.2] at key
    rw [e1, e2]
    exact key.symm
  · have e1 : t.pt = (P ++ y :: S, A.map GT.pt ++ l.pt :: r.pt :: B.map GT.pt) := e.trans (congrArg (Prod.mk (P ++ y :: S)) (by rw [List.map_append, List.map_cons, List.map_cons]))
    have e2 : t'.pt = (P ++ S, A.map GT.pt ++ l'.pt :: B.map GT.pt) := e'.trans (congrArg (Prod.mk (P ++ S)) (by rw [List.map_append, List.map_cons]))
    rw [e1, e2, PT.items_two _ _ _ _ _ _ _ (by rw [List.length_map]; exact hA) (by rw [List.length_map]; exact hB), PT.items_one _ _ _ _ _ (by rw [List.length_map]; exact hA) (by rw [List.length_map]; exact hB), ← hx]
    simp only [List.append_assoc, List.cons_append]
  · rw [e] at hlm ⊢
    rw [e']
    have hl : (P ++ y :: S).length ≤ m := hlm
    simp only [List.length_append, List.length_cons] at hl
    refine ⟨by show (P ++ y :: S).length - 1 ≤ (P ++ S).length; simp, by show (P ++ S).length ≤ m; simp; omega, by show ((A ++ l' :: B).map GT.pt).length = (P ++ S).length + 1; simp; omega, fun c hc => ?_⟩
    obtain ⟨q, hq, rfl⟩ := List.mem_map.1 hc
    rcases List.mem_append.1 hq with h | h
    · exact hab q (List.mem_append.2 (.inl h))
    · rcases List.mem_cons.1 h with h | h
      · subst h; exact fl
      · exact hab q (List.mem_append.2 (.inr h))
end Go.Proofs.Ytgnnidefbeoibaa.Gi
end
section
namespace Go.Proofs.Ytgnnidefbeoibaa.Gi
open Go.Hp Go.Proofs.Ytgnnidefbeoibaa
set_option linter.unusedVariables false
set_option linter.unusedSimpArgs false
set_option maxHeartbeats 4000000
variable {h0 h : Heap} {Z E : List Rg} {Q : Value → Heap → Prop} {lf : Value}
attribute [local irreducible] load1 loadN store1 storeN fld nilck lenV idx arith cmpI notV extr mkSl app cpy slc ifV

theorem rebalance_j {tb m j : Nat} {iso mn : Int} {ctr : Option Addr} (hT0 : (tb, 0, hd0 iso ctr) ∈ Z) (hT4 : (tb, 4, hd4 lf mn m) ∈ Z) (hm3 : 3 ≤ m) (hm1 : m ≤ 1024) (ho : m % 2 = 1) {k : Nat} (t : GT It (k + 1))
    (hlm : t.pt.1.length ≤ m) (hj : j < t.pt.1.length) (hfx : ∀ c ∈ t.pt.2, PT.Fl m (m / 2 - 1) c) (hd : ∀ c c', t.pt.2[j]? = some c → t.pt.2[j + 1]? = some c' → (c.its.length + 1 = m / 2 ∧ PT.Fl m (m / 2) c') ∨ (PT.Fl m (m / 2) c ∧ c'.its.length + 1 = m / 2)) (hfy : ∀ i c, t.pt.2[i]? = some c → i ≠ j → i ≠ j + 1 → PT.Fl m (m / 2) c)
    (hsz : t.pt.items.length ≤ 4611686018427387903) (g : Gd iso t) (s : St h0 Z (t.all enc ++ E) h)
    (H : ∀ (t' : GT It (k + 1)) h', Mended iso m j t t' → St h0 Z (t'.all enc ++ E) h' → Q (.tuple #[]) h') : BTreeG_I_nodeRebalance.j1 (ptr tb 0) (ptr t.id 0) (.int .i64 j) h Q := by
  obtain ⟨d, ts⟩ := t
  obtain ⟨own, n, is', cnt, its, iv, ib, io, isp, kb, kv, krb, kro, ksp⟩ := d
  have hj : j < its.length := hj
  have hlm : its.length ≤ m := hlm
  have w : Own 2 iv its.length ib io (its.flatMap enc) isp := g.own
  have wK : Own 1 kv ((ts.map GT.id).map pp).length krb kro (((ts.map GT.id).map pp).flatMap fv) ksp := g.ownK
  have hkl : ts.length = its.length + 1 := g.wf.2.2.1
  have hiso : is' = iso := g.iso
  have hcn : cnt = (PT.items (h := k + 1) (its, ts.map GT.pt)).length := g.cn.1
  subst hiso
  have s : St h0 Z (((n, 0, [.int .u64 is', .int .i64 cnt, iv, ptr kb 0]) :: (ib, io, its.flatMap enc ++ isp) :: (kb, 0, [kv]) :: (krb, kro, ((ts.map GT.id).map pp).flatMap fv ++ ksp) :: ts.flatMap (GT.all enc)) ++ E) h := by
    have e := all_eq (k := k + 1) ((⟨own, n, is', cnt, its, iv, ib, io, isp, kb, kv, krb, kro, ksp⟩ : Nd It), ts)
    rw [e] at s; exact s
  obtain ⟨A, l, r, B, ets, hA⟩ := two_of (ts := ts) (j := j) (by omega)
  obtain ⟨P, y, S, eits, hP⟩ := one_of (ts := its) (j := j) hj
  have hB : B.length = S.length := by rw [ets, eits] at hkl; simp at hkl; omega
  subst ets; subst eits
  have gl : Gd is' l := g.kid (by simp)
  have gr : Gd is' r := g.kid (by simp)
  have fl0 : l.pt.Fl m (m / 2 - 1) := hfx _ (List.mem_map.2 ⟨l, by simp, rfl⟩)
  have fr0 : r.pt.Fl m (m / 2 - 1) := hfx _ (List.mem_map.2 ⟨r, by simp, rfl⟩)
  have flr : (l.pt.its.length + 1 = m / 2 ∧ r.pt.Fl m (m / 2)) ∨ (l.pt.Fl m (m / 2) ∧ r.pt.its.length + 1 = m / 2) := by
    have h1 : ((A ++ l :: r :: B).map GT.pt)[j]? = some l.pt := by rw [List.map_append, List.map_cons]; exact getAt (by simpa using hA)
    have h2 : ((A ++ l :: r :: B).map GT.pt)[j + 1]? = some r.pt := by
      rw [show A ++ l :: r :: B = (A ++ [l]) ++ r :: B by simp, List.map_append, List.map_cons]; exact getAt (by simp [hA])
    exact hd _ _ h1 h2
  have hab : ∀ c ∈ A ++ B, PT.Fl m (m / 2) c.pt := fun c hc => by
    obtain ⟨i, hi, e⟩ := List.getElem_of_mem hc
    rcases Nat.lt_or_ge i A.length with hl | hl
    · rw [List.getElem_append_left hl] at e
      refine hfy i c.pt ?_ (by omega) (by omega)
      show ((A ++ l :: r :: B).map GT.pt)[i]? = some c.pt
      rw [List.getElem?_map, List.getElem?_append_left hl, List.getElem?_eq_getElem hl, e]; rfl
    · rw [List.getElem_append_right hl] at e
      rw [List.length_append] at hi
      refine hfy (i + 2) c.pt ?_ (by omega) (by omega)
      show ((A ++ l :: r :: B).map GT.pt)[i + 2]? = some c.pt
      rw [List.getElem?_map, List.getElem?_append_right (by omega), show i + 2 - A.length = (i - A.length) + 2 by omega, List.getElem?_cons_succ, List.getElem?_cons_succ, List.getElem?_eq_getElem (by omega), e]; rfl
  have ll := fl_its fl0
  have lr := fl_its fr0
  have hlr : (l.nd.its.length + 1 = m / 2 ∧ m / 2 ≤ r.nd.its.length) ∨ (m / 2 ≤ l.nd.its.length ∧ r.nd.its.length + 1 = m / 2) := by
    rw [GT.pt_its, GT.pt_its] at flr
    exact flr.imp (fun f => ⟨f.1, (fl_its f.2).1⟩) (fun f => ⟨(fl_its f.1).1, f.2⟩)
  have wl := gl.own
  have wr := gr.own
  have cl0 := gl.cntEq
  have cr0 := gr.cntEq
  have il := gl.iso
  have ir := gr.iso
  rw [ids_pp] at s wK
  have hKl : ((A.map GT.id).map pp ++ pp l.id :: pp r.id :: (B.map GT.id).map pp).length = P.length + S.length + 2 := by simp; omega
  have hil : (P ++ y :: S).length = P.length + S.length + 1 := by simp; omega
  have s : St h0 Z ((l.id, 0, [.int .u64 l.nd.iso, .int .i64 l.nd.cnt, l.nd.iv, GT.kp l]) :: (l.nd.ib, l.nd.io, l.nd.its.flatMap enc ++ l.nd.isp) :: (r.id, 0, [.int .u64 r.nd.iso, .int .i64 r.nd.cnt, r.nd.iv, GT.kp r]) :: (r.nd.ib, r.nd.io, r.nd.its.flatMap enc ++ r.nd.isp) ::
      (n, 0, [.int .u64 is', .int .i64 cnt, iv, ptr kb 0]) :: (ib, io, (P ++ y :: S).flatMap enc ++ isp) :: (kb, 0, [kv]) :: (krb, kro, ((A.map GT.id).map pp ++ pp l.id :: pp r.id :: (B.map GT.id).map pp).flatMap fv ++ ksp) :: (GT.rest l ++ (GT.rest r ++ (A.flatMap (GT.all enc) ++ (B.flatMap (GT.all enc) ++ E))))) h := by
    have e : (A ++ l :: r :: B).flatMap (GT.all enc) = A.flatMap (GT.all enc) ++ (l.all enc ++ (r.all enc ++ B.flatMap (GT.all enc))) := by rw [List.flatMap_append, List.flatMap_cons, List.flatMap_cons]
    refine s.perm ?_
    rw [e, all_eq l, all_eq r]
    ((apply perm_rg; intro f; simp only [List.set_cons_zero, List.set_cons_succ, List.eraseIdx_cons_zero, List.eraseIdx_cons_succ, List.cons_append, List.nil_append, List.map_append, List.map_cons, List.map_nil, List.sum_append, List.sum_cons, List.sum_nil, List.map_flatMap, Nat.add_zero, Nat.zero_add]; ac_rfl))
  rw [il, ir, cl0, cr0] at s
  have hr1 : r.nd.its.length ≤ r.pt.items.length := by have := (PT.its_sub r.pt).length_le; rwa [GT.pt_its] at this
  have hl1 : l.nd.its.length ≤ l.pt.items.length := by have := (PT.its_sub l.pt).length_le; rwa [GT.pt_its] at this
  have hsz2 : (lz P (A.map fun c => c.pt.items)).length + l.pt.items.length + 1 + r.pt.items.length + (rz S (B.map fun c => c.pt.items)).length ≤ 4611686018427387903 := by
    have e := PT.items_two P S y (A.map GT.pt) (B.map GT.pt) l.pt r.pt (by rw [List.length_map]; omega) (by rw [List.length_map]; omega)
    have h2 : (PT.items (h := k + 1) (P ++ y :: S, (A ++ l :: r :: B).map GT.pt)).length ≤ 4611686018427387903 := hsz
    rw [List.map_append, List.map_cons, List.map_cons, e] at h2
    simp only [List.length_append, List.length_cons, List.map_map, Function.comp_def] at h2
    omega
  have gA : ∀ c ∈ A, Gd is' c := fun c hc => g.kid (by simp [hc])
  have gB : ∀ c ∈ B, Gd is' c := fun c hc => g.kid (by simp [hc])
  have hi : ∀ {E h}, St h0 Z E h → cl h tb 0 = some (.int .u64 is') := fun s => by have := s.getZ hT0 (j := 0) (by simp); simpa using this
  have kj : ((A.map GT.id).map pp ++ pp l.id :: pp r.id :: (B.map GT.id).map pp)[j]? = some (ptr l.id 0) := getAt (by simp [hA])
  have kj1 : ((A.map GT.id).map pp ++ pp l.id :: pp r.id :: (B.map GT.id).map pp)[j + 1]? = some (ptr r.id 0) := by
    have : (A.map GT.id).map pp ++ pp l.id :: pp r.id :: (B.map GT.id).map pp = ((A.map GT.id).map pp ++ [pp l.id]) ++ pp r.id :: (B.map GT.id).map pp := by simp
    rw [this]; exact getAt (by simp [hA])
  have pj : (P ++ y :: S)[j]? = some y := getAt hP
  show BTreeG_I_nodeRebalance.j1 (ptr tb 0) (ptr n 0) (.int .i64 j) h Q
  unfold BTreeG_I_nodeRebalance.j1
  refine r_nil ?_
  refine r_fld ?_
  refine St.r_load0 s 4 rfl rfl ?_
  refine r_nil ?_
  refine St.r_load0 s 6 rfl rfl ?_
  (refine Own.idx (by assumption) rfl (by first | omega | (simp; done) | (simp; omega)) ?_)
  refine isoLoad_ok (hi s) (s.clV 7 rfl kj) (fun _ => s.cl0 0 rfl rfl) ?_
  refine r_nil ?_
  refine r_fld ?_
  refine St.r_load0 s 4 rfl rfl ?_
  refine r_nil ?_
  refine St.r_load0 s 6 rfl rfl ?_
  refine r_add1 (by omega) ?_
  (refine Own.idx (by assumption) rfl (by first | omega | (simp; done) | (simp; omega)) ?_)
  refine isoLoad_ok (hi s) (s.clV 7 rfl kj1) (fun _ => s.cl0 2 rfl rfl) ?_
  refine r_nil ?_
  refine r_fld ?_
  refine St.r_load0 s 0 rfl rfl ?_
  refine Own.lenV (by assumption) ?_
  refine r_nil ?_
  refine r_fld ?_
  refine St.r_load0 s 2 rfl rfl ?_
  refine Own.lenV (by assumption) ?_
  refine r_addN (by omega) ?_
  refine r_nil ?_
  refine r_fld ?_
  refine s.r_lz hT4 5 rfl rfl ?_
  refine r_cmpI ?_
  refine r_if (fun hlt => ?_) (fun hge => ?_)
  · have hlt : l.nd.its.length + r.nd.its.length < m := by have := of_decide_eq_true hlt; omega
    refine r_nil ?_
    refine r_fld ?_
    refine St.r_load0 s 0 rfl rfl ?_
    refine r_nil ?_
    refine r_fld ?_
    refine St.r_load0 s 4 rfl rfl ?_
    (refine Own.idx (by assumption) rfl (by first | omega | (simp; done) | (simp; omega)) ?_)
    refine s.r_loadF encl 5 rfl (by assumption) ?_
    refine St.r_mkSl (sz := 2) (cs := enc y) s (by ((simp only [fillV, fill1, Value.cells, zeros_succ, zeros_zero, List.size_toArray, List.length_cons, List.length_nil, List.length_append, List.take_succ_cons, List.take_zero, List.take_nil, List.drop_succ_cons, List.drop_zero, List.drop_nil, List.cons_append, List.nil_append, List.append_nil, Nat.reduceAdd, Nat.reduceMul, Nat.reduceLeDiff, Nat.reduceEqDiff, and_self, and_true, true_and, if_true, Nat.le_refl, Nat.zero_add, Nat.add_zero, Nat.zero_mul, reduceIte, if_false] <;> rfl))) rfl fun q h s w1 => ?_
    refine And.intro (by exact St.r_still0 s 1 rfl rfl) ?_
    refine s.r_appL (M := [y]) 2 rfl wl rfl (by have := w1.rdl s 0 rfl; simpa using this) (fun _ _ => enc1 _) (by simp; omega) (by simp; omega) fun liv1 lib1 lio1 lisp1 h s wl1 => ?_
    have s := s.tail rfl
    refine r_nil ?_
    refine r_fld ?_
    (refine St.r_store0 s 0 rfl (by simp) (Own.one (by assumption)) ?_; intro h s; try simp only [List.set_cons_zero, List.set_cons_succ] at s)
    refine r_nil ?_
    refine r_fld ?_
    refine St.r_load0 s 0 rfl rfl ?_
    refine r_nil ?_
    refine r_fld ?_
    refine St.r_load0 s 2 rfl rfl ?_
    refine s.r_appL (M := r.nd.its) 1 rfl wl1 rfl (wr.rdl s 3 rfl) (fun _ _ => enc1 _) (by simp; omega) (by simp; omega) fun liv2 lib2 lio2 lisp2 h s wl2 => ?_
    refine r_nil ?_
    refine r_fld ?_
    (refine St.r_store0 s 0 rfl (by simp) (Own.one (by assumption)) ?_; intro h s; try simp only [List.set_cons_zero, List.set_cons_succ] at s)
    -- the node itself
    have tail : ∀ {X : List Rg} {kp : Value} {h : Heap}, St h0 Z ((l.id, 0, [.int .u64 is', .int .i64 l.pt.items.length, liv2, kp]) :: (lib2, lio2, (l.nd.its ++ [y] ++ r.nd.its).flatMap enc ++ lisp2) :: (r.id, 0, [.int .u64 is', .int .i64 r.pt.items.length, r.nd.iv, GT.kp r]) :: (r.nd.ib, r.nd.io, r.nd.its.flatMap enc ++ r.nd.isp) ::
        (n, 0, [.int .u64 is', .int .i64 cnt, iv, ptr kb 0]) :: (ib, io, (P ++ y :: S).flatMap enc ++ isp) :: (kb, 0, [kv]) :: (krb, kro, ((A.map GT.id).map pp ++ pp l.id :: pp r.id :: (B.map GT.id).map pp).flatMap fv ++ ksp) :: X) h →
        (∀ iv2 isp2 kv2 ksp2 h, Own 2 iv2 (P ++ S).length ib io ((P ++ S).flatMap enc) isp2 → Own 1 kv2 ((A.map GT.id).map pp ++ pp l.id :: (B.map GT.id).map pp).length krb kro (((A.map GT.id).map pp ++ pp l.id :: (B.map GT.id).map pp).flatMap fv) ksp2 →
          St h0 Z ((l.id, 0, [.int .u64 is', .int .i64 ((l.pt.items.length + (r.pt.items.length + 1) : Nat) : Int), liv2, kp]) :: (lib2, lio2, (l.nd.its ++ [y] ++ r.nd.its).flatMap enc ++ lisp2) :: (r.id, 0, [.int .u64 is', .int .i64 r.pt.items.length, r.nd.iv, GT.kp r]) :: (r.nd.ib, r.nd.io, r.nd.its.flatMap enc ++ r.nd.isp) ::
            (n, 0, [.int .u64 is', .int .i64 cnt, iv2, ptr kb 0]) :: (ib, io, (P ++ S).flatMap enc ++ isp2) :: (kb, 0, [kv2]) :: (krb, kro, ((A.map GT.id).map pp ++ pp l.id :: (B.map GT.id).map pp).flatMap fv ++ ksp2) :: X) h → Q (.tuple #[]) h) →
        BTreeG_I_nodeRebalance.j2 (ptr tb 0) (ptr n 0) (.int .i64 j) (ptr l.id 0) (ptr r.id 0) h Q := by
      intro X kp h s K
      unfold BTreeG_I_nodeRebalance.j2
      refine r_nil ?_
      refine r_fld ?_
      refine St.r_load0 s 0 rfl rfl ?_
      refine r_nil ?_
      refine r_fld ?_
      refine St.r_load0 s 2 rfl rfl ?_
      refine r_add1 (by omega) ?_
      refine r_addN (by omega) ?_
      refine r_nil ?_
      refine r_fld ?_
      (refine St.r_store0 s 0 rfl (by simp) rfl ?_; intro h s; try simp only [List.set_cons_zero, List.set_cons_succ] at s)
      refine r_nil ?_
      refine r_fld ?_
      refine St.r_load0 s 4 rfl rfl ?_
      refine w.slcLo encl (i := j) rfl (by omega) fun dd wd => ?_
      refine r_nil ?_
      refine r_fld ?_
      refine St.r_load0 s 4 rfl rfl ?_
      refine r_add1 (by omega) ?_
      refine (w.rdl s 5 rfl).slcLo encl (i := j + 1) rfl (by omega) fun src rs => ?_
      refine s.r_cpyF encl 5 (L := P ++ y :: S) (M := (P ++ y :: S).drop (j + 1)) rfl wd (by simp; omega) rs rfl (fun y _ => enc1 y) fun h s => ?_
      refine r_nil ?_
      refine r_fld ?_
      refine St.r_load0 s 4 rfl rfl ?_
      refine r_nil ?_
      refine r_fld ?_
      refine St.r_load0 s 4 rfl rfl ?_
      refine Own.lenV (by assumption) ?_
      refine r_sub1 (by omega) (by omega) ?_
      refine r_nil ?_
      refine r_fld ?_
      refine s.r_lzE hT4 3 (enc emp) rfl (by simp) rfl ?_
      (refine Own.idx (by assumption) rfl (by first | omega | (simp; done) | (simp; omega)) ?_)
      (refine s.r_storeF encl 5 rfl (by first | omega | (simp; done) | (simp; omega)) (enc1 _) ?_; intro h s; try simp only [List.set_cons_zero, List.set_cons_succ] at s)
      refine r_nil ?_
      refine r_fld ?_
      refine St.r_load0 s 4 rfl rfl ?_
      refine r_nil ?_
      refine r_fld ?_
      refine St.r_load0 s 4 rfl rfl ?_
      refine Own.lenV (by assumption) ?_
      refine r_sub1 (by omega) (by omega) ?_
      have hj2 : j < (P ++ y :: S).length := by omega
      have hpe : (P ++ y :: S).eraseIdx j = P ++ S := eraseIdx_at hP
      refine (w.list encl (del_len (P ++ y :: S) emp hj2)).slcHi encl rfl (by rw [del_len _ _ hj2]; omega) fun iv2 w2 => ?_
      have s := s.del (f := enc) 5 rfl _ (del_erase (P ++ y :: S) emp hj2)
      rw [del_erase (P ++ y :: S) emp hj2, hpe] at w2
      rw [hpe] at s
      refine r_nil ?_
      refine r_fld ?_
      (refine St.r_store0 s 4 rfl (by simp) (Own.one (by assumption)) ?_; intro h s; try simp only [List.set_cons_zero, List.set_cons_succ] at s)
      refine r_nil ?_
      refine r_fld ?_
      refine St.r_load0 s 4 rfl rfl ?_
      refine r_nil ?_
      refine St.r_load0 s 6 rfl rfl ?_
      refine r_add1 (by omega) ?_
      generalize hKK : (A.map GT.id).map pp ++ pp l.id :: pp r.id :: (B.map GT.id).map pp = KK at *
      have hK1 : KK.eraseIdx (j + 1) = (A.map GT.id).map pp ++ pp l.id :: (B.map GT.id).map pp := by
        rw [← hKK, show (A.map GT.id).map pp ++ pp l.id :: pp r.id :: (B.map GT.id).map pp = ((A.map GT.id).map pp ++ [pp l.id]) ++ pp r.id :: (B.map GT.id).map pp by simp, eraseIdx_at (by simp [hA])]
        simp
      have hKo : ∀ x ∈ KK, one1 x = true := fun x hx => by
        rw [← hKK] at hx
        rcases List.mem_append.1 hx with h | h
        · obtain ⟨a, _, rfl⟩ := List.mem_map.1 h; rfl
        · rcases List.mem_cons.1 h with h | h
          · rw [h]; rfl
          · rcases List.mem_cons.1 h with h | h
            · rw [h]; rfl
            · obtain ⟨a, _, rfl⟩ := List.mem_map.1 h; rfl
      refine wK.slcLo fvl (i := j + 1) rfl (by omega) fun dk wdk => ?_
      refine r_nil ?_
      refine r_fld ?_
      refine St.r_load0 s 4 rfl rfl ?_
      refine r_nil ?_
      refine St.r_load0 s 6 rfl rfl ?_
      refine r_add2 (by omega) ?_
      refine (wK.rdl s 7 rfl).slcLo fvl (i := j + 1 + 1) rfl (by omega) fun sk rsk => ?_
      refine s.r_cpyF fvl 7 (L := KK) (M := KK.drop (j + 1 + 1)) rfl wdk (by simp; omega) rsk rfl (fun x hx => by intro c hc; rw [List.mem_singleton.1 hc]; exact hKo x (List.mem_of_mem_drop hx)) fun h s => ?_
      refine r_nil ?_
      refine r_fld ?_
      refine St.r_load0 s 4 rfl rfl ?_
      refine r_nil ?_
      refine St.r_load0 s 6 rfl rfl ?_
      refine r_nil ?_
      refine r_fld ?_
      refine St.r_load0 s 4 rfl rfl ?_
      refine r_nil ?_
      refine St.r_load0 s 6 rfl rfl ?_
      refine Own.lenV (by assumption) ?_
      refine r_sub1 (by omega) (by omega) ?_
      (refine Own.idx (by assumption) rfl (by first | omega | (simp; done) | (simp; omega)) ?_)
      (refine s.r_storeV 7 rfl (by first | omega | (simp; done) | (simp; omega)) rfl ?_; intro h s; try simp only [List.set_cons_zero, List.set_cons_succ] at s)
      refine r_nil ?_
      refine r_fld ?_
      refine St.r_load0 s 4 rfl rfl ?_
      refine r_nil ?_
      refine r_fld ?_
      refine St.r_load0 s 4 rfl rfl ?_
      refine r_nil ?_
      refine St.r_load0 s 6 rfl rfl ?_
      refine r_nil ?_
      refine r_fld ?_
      refine St.r_load0 s 4 rfl rfl ?_
      refine r_nil ?_
      refine St.r_load0 s 6 rfl rfl ?_
      refine Own.lenV (by assumption) ?_
      refine r_sub1 (by omega) (by omega) ?_
      have hj3 : j + 1 < KK.length := by omega
      refine (wK.list fvl (del_len KK (.pointer none) hj3)).slcHi fvl rfl (by rw [del_len _ _ hj3]; omega) fun kv2 wk2 => ?_
      have s := s.del (f := fv) 7 rfl _ (del_erase KK (.pointer none) hj3)
      rw [del_erase KK (.pointer none) hj3, hK1] at wk2
      rw [hK1] at s
      refine r_nil ?_
      (refine St.r_store0 s 6 rfl (by simp) (Own.one (by assumption)) ?_; intro h s; try simp only [List.set_cons_zero, List.set_cons_succ] at s)
      exact K _ _ _ _ _ w2 wk2 s
    cases k with
    | zero =>
      refine node_leaf_ok (a := none) (s.cl0 0 rfl rfl) ?_
      refine r_not ?_
      refine r_if (fun e => absurd e (by simp)) (fun _ => ?_)
      have s := St.kids0 s
      refine tail s fun iv2 isp2 kv2 ksp2 h w2 wk2 s => ?_
      obtain ⟨l', hl1', gl', hl2', hl3', hl4'⟩ := mk_leaf (iso := is') (n := l.id) wl2
      have wK2 : Own 1 kv2 (((A ++ l' :: B).map GT.id).map pp).length krb kro ((((A ++ l' :: B).map GT.id).map pp).flatMap fv) ksp2 := by rw [ids_one, hl1']; exact wk2
      obtain ⟨t', ht1, gt, ht2, ht3, ht4⟩ := mk_inner (n := n) (kb := kb) (iso := is') w2 wK2 (by simp; omega) (fun c hc => by
        rcases List.mem_append.1 hc with h | h
        · exact gA c h
        · rcases List.mem_cons.1 h with h | h
          · subst h; exact gl'
          · exact gB c h)
      have hfl' : l'.pt.Fl m (m / 2) := by rw [hl2']; exact fl_leaf (by simp; omega) (by simp; omega)
      refine (fun M => H t' h M ((s.perm (E' := (r.id, 0, [.int .u64 is', .int .i64 r.pt.items.length, r.nd.iv, GT.kp r]) :: (r.nd.ib, r.nd.io, r.nd.its.flatMap enc ++ r.nd.isp) :: (t'.all enc ++ E)) ?_).drop 2)) ?_
      rotate_left
      · refine mended_one rfl ht2 (by omega) (by omega) ht1 gt hab hlm hfl' ?_ hP ⟨hlt, ?_⟩
        · rw [hl2']
          show l.nd.its ++ y :: r.nd.its = l.nd.its ++ [y] ++ r.nd.its
          simp
        · rw [hl2']
          show l.nd.its ++ y :: r.nd.its = l.nd.its ++ [y] ++ r.nd.its
          simp
      have e1 := M.2.1
      rw [ht2] at e1
      have e1 : ((PT.items (h := 1) (P ++ S, (A ++ l' :: B).map GT.pt)).length : Int) = cnt := by rw [hcn, e1]; rfl
      have e2 : (A ++ l' :: B).flatMap (GT.all enc) = A.flatMap (GT.all enc) ++ (l'.all enc ++ B.flatMap (GT.all enc)) := by rw [List.flatMap_append, List.flatMap_cons]
      have e3 : l.pt.items.length + (r.pt.items.length + 1) = (l.nd.its ++ [y] ++ r.nd.its).length := by
        show l.nd.its.length + (r.nd.its.length + 1) = _
        simp <;> omega
      rw [ht4, e1, e2, hl4', ids_one, hl1', e3]
      ((apply perm_rg; intro f; simp only [List.set_cons_zero, List.set_cons_succ, List.eraseIdx_cons_zero, List.eraseIdx_cons_succ, List.cons_append, List.nil_append, List.map_append, List.map_cons, List.map_nil, List.sum_append, List.sum_cons, List.sum_nil, List.map_flatMap, Nat.add_zero, Nat.zero_add]; ac_rfl))
    | succ k =>
      obtain ⟨dl, lk⟩ := l
      obtain ⟨dr, rk⟩ := r
      refine node_leaf_ok (a := some ⟨dl.kb, 0, none⟩) (s.cl0 0 rfl rfl) ?_
      refine r_not ?_
      refine r_if (fun _ => ?_) (fun e => absurd e (by simp))
      have s := St.kids8 s
      have s : St h0 Z ((dl.n, 0, [_, _, _, ptr dl.kb 0]) :: _ :: (dr.n, 0, [_, _, _, ptr dr.kb 0]) :: _ :: _ :: _ :: _ :: _ :: (dl.kb, 0, [dl.kv]) :: (dl.krb, dl.kro, ((lk.map GT.id).map pp).flatMap fv ++ dl.ksp) :: (dr.kb, 0, [dr.kv]) :: (dr.krb, dr.kro, ((rk.map GT.id).map pp).flatMap fv ++ dr.ksp) ::
        (lk.flatMap (GT.all enc) ++ (rk.flatMap (GT.all enc) ++ (A.flatMap (GT.all enc) ++ (B.flatMap (GT.all enc) ++ E))))) h := s
      have wLK : Own 1 dl.kv ((lk.map GT.id).map pp).length dl.krb dl.kro (((lk.map GT.id).map pp).flatMap fv) dl.ksp := gl.ownK
      have wRK : Own 1 dr.kv ((rk.map GT.id).map pp).length dr.krb dr.kro (((rk.map GT.id).map pp).flatMap fv) dr.ksp := gr.ownK
      have hlk : lk.length = dl.its.length + 1 := gl.wf.2.2.1
      have hrk : rk.length = dr.its.length + 1 := gr.wf.2.2.1
      have hdl : dl.its.length ≤ m := ll.2
      have hdr : dr.its.length ≤ m := lr.2
      have hrkL : ((rk.map GT.id).map pp).length = dr.its.length + 1 := by rw [List.length_map, List.length_map]; exact hrk
      have hlkL : ((lk.map GT.id).map pp).length = dl.its.length + 1 := by rw [List.length_map, List.length_map]; exact hlk
      refine r_nil ?_
      refine r_fld ?_
      refine St.r_load0 s 0 rfl rfl ?_
      refine r_nil ?_
      refine r_fld ?_
      refine St.r_load0 s 0 rfl rfl ?_
      refine r_nil ?_
      refine St.r_load0 s 8 rfl rfl ?_
      refine r_nil ?_
      refine r_fld ?_
      refine St.r_load0 s 2 rfl rfl ?_
      refine r_nil ?_
      refine St.r_load0 s 10 rfl rfl ?_
      refine s.r_appL (f := fv) (L := (lk.map GT.id).map pp) (M := (rk.map GT.id).map pp) 9 rfl wLK rfl (wRK.rdl s 11 rfl) (fun x hx => by obtain ⟨a, _, rfl⟩ := List.mem_map.1 hx; simp [one1]) (by omega) (by omega) fun lkv1 lkb1 lko1 lks1 h s wLK1 => ?_
      refine And.intro (by exact St.r_still0 s 0 rfl rfl) ?_
      refine r_nil ?_
      (refine St.r_store0 s 8 rfl (by simp) (Own.one (by assumption)) ?_; intro h s; try simp only [List.set_cons_zero, List.set_cons_succ] at s)
      refine tail s fun iv2 isp2 kv2 ksp2 h w2 wk2 s => ?_
      have eL : ((lk ++ rk).map GT.id).map pp = (lk.map GT.id).map pp ++ (rk.map GT.id).map pp := by simp
      rw [← eL] at s wLK1
      obtain ⟨l', hl1', gl', hl2', hl3', hl4'⟩ := mk_inner (iso := is') (n := dl.n) (kb := dl.kb) (ts := lk ++ rk) wl2 wLK1 (by show _ = (dl.its ++ [y] ++ dr.its).length + 1; simp; omega) (fun q hq => by
        rcases List.mem_append.1 hq with h | h
        · exact gl.kid h
        · exact gr.kid h)
      have wK2 : Own 1 kv2 (((A ++ l' :: B).map GT.id).map pp).length krb kro ((((A ++ l' :: B).map GT.id).map pp).flatMap fv) ksp2 := by rw [ids_one, hl1']; exact wk2
      obtain ⟨t', ht1, gt, ht2, ht3, ht4⟩ := mk_inner (n := n) (kb := kb) (iso := is') w2 wK2 (by simp; omega) (fun c hc => by
        rcases List.mem_append.1 hc with h | h
        · exact gA c h
        · rcases List.mem_cons.1 h with h | h
          · subst h; exact gl'
          · exact gB c h)
      have fkl : ∀ q ∈ lk, PT.Fl m (m / 2) q.pt := fun q hq => fl0.2.2.2 _ (List.mem_map.2 ⟨q, hq, rfl⟩)
      have fkr : ∀ q ∈ rk, PT.Fl m (m / 2) q.pt := fun q hq => fr0.2.2.2 _ (List.mem_map.2 ⟨q, hq, rfl⟩)
      have hlt2 : dl.its.length + dr.its.length < m := hlt
      have hlr2 : (dl.its.length + 1 = m / 2 ∧ m / 2 ≤ dr.its.length) ∨ (m / 2 ≤ dl.its.length ∧ dr.its.length + 1 = m / 2) := hlr
      have hfl' : l'.pt.Fl m (m / 2) := by
        rw [hl2']
        refine fl_inner (by show m / 2 ≤ (dl.its ++ [y] ++ dr.its).length; simp; omega) (by show (dl.its ++ [y] ++ dr.its).length ≤ m; simp; omega) (by show _ = (dl.its ++ [y] ++ dr.its).length + 1; simp; omega) fun q hq => ?_
        obtain ⟨x, hx, rfl⟩ := List.mem_map.1 hq
        rcases List.mem_append.1 hx with h | h
        · exact fkl x h
        · exact fkr x h
      have hlI : l'.pt.items = (GT.pt (h := k + 1) (dl, lk)).items ++ y :: (GT.pt (h := k + 1) (dr, rk)).items := by
        rw [hl2']
        show inter (dl.its ++ [y] ++ dr.its) (((lk ++ rk).map GT.pt).map PT.items) = inter dl.its ((lk.map GT.pt).map PT.items) ++ y :: inter dr.its ((rk.map GT.pt).map PT.items)
        rw [List.map_append, List.map_append, List.append_assoc]
        exact inter_join _ _ _ _ _ (by simp; omega)
      refine (fun M => H t' h M ((s.perm (E' := (dr.n, 0, [.int .u64 is', .int .i64 (GT.pt (h := k + 1) (dr, rk)).items.length, dr.iv, ptr dr.kb 0]) :: (dr.ib, dr.io, dr.its.flatMap enc ++ dr.isp) :: (dr.kb, 0, [dr.kv]) :: (dr.krb, dr.kro, ((rk.map GT.id).map pp).flatMap fv ++ dr.ksp) :: (t'.all enc ++ E)) ?_).drop 4)) ?_
      rotate_left
      · refine mended_one rfl ht2 (by omega) (by omega) ht1 gt hab hlm hfl' (by rw [hlI]) hP ⟨hlt, ?_⟩
        rw [hl2']
        show (dl.its ++ y :: dr.its, lk.map GT.pt ++ rk.map GT.pt) = (dl.its ++ [y] ++ dr.its, (lk ++ rk).map GT.pt)
        rw [List.map_append]; simp
      have e1 := M.2.1
      rw [ht2] at e1
      have e1 : ((PT.items (h := k + 2) (P ++ S, (A ++ l' :: B).map GT.pt)).length : Int) = cnt := by rw [hcn, e1]; rfl
      have e2 : (A ++ l' :: B).flatMap (GT.all enc) = A.flatMap (GT.all enc) ++ (l'.all enc ++ B.flatMap (GT.all enc)) := by rw [List.flatMap_append, List.flatMap_cons]
      have e3 : (PT.items (h := k + 1) ((GT.nd (h := k + 1) (dl, lk)).its ++ [y] ++ (GT.nd (h := k + 1) (dr, rk)).its, (lk ++ rk).map GT.pt)).length = (GT.pt (h := k + 1) (dl, lk)).items.length + ((GT.pt (h := k + 1) (dr, rk)).items.length + 1) := by
        have := congrArg List.length hlI
        rw [hl2', List.length_append, List.length_cons] at this
        exact this
      have e5 : (lk ++ rk).flatMap (GT.all enc) = lk.flatMap (GT.all enc) ++ rk.flatMap (GT.all enc) := List.flatMap_append
      rw [ht4, e1, e2, hl4', ids_one, hl1', e3, e5]
      ((apply perm_rg; intro f; simp only [List.set_cons_zero, List.set_cons_succ, List.eraseIdx_cons_zero, List.eraseIdx_cons_succ, List.cons_append, List.nil_append, List.map_append, List.map_cons, List.map_nil, List.sum_append, List.sum_cons, List.sum_nil, List.map_flatMap, Nat.add_zero, Nat.zero_add]; ac_rfl))
  · have hge : m ≤ l.nd.its.length + r.nd.its.length := by have := of_decide_eq_false hge; omega
    refine r_nil ?_
    refine r_fld ?_
    refine St.r_load0 s 0 rfl rfl ?_
    refine Own.lenV (by assumption) ?_
    refine r_nil ?_
    refine r_fld ?_
    refine St.r_load0 s 2 rfl rfl ?_
    refine Own.lenV (by assumption) ?_
    refine r_cmpI ?_
    refine r_if (fun hgt => ?_) (fun hle => ?_)
    · have hgt : r.nd.its.length < l.nd.its.length := by have := of_decide_eq_true hgt; omega
      refine r_nil ?_
      refine r_fld ?_
      refine St.r_load0 s 2 rfl rfl ?_
      refine r_nil ?_
      refine r_fld ?_
      refine s.r_lzE hT4 3 (enc emp) rfl (by simp) rfl ?_
      refine St.r_mkSl (sz := 2) (cs := enc emp) s (by ((simp only [fillV, fill1, Value.cells, zeros_succ, zeros_zero, List.size_toArray, List.length_cons, List.length_nil, List.length_append, List.take_succ_cons, List.take_zero, List.take_nil, List.drop_succ_cons, List.drop_zero, List.drop_nil, List.cons_append, List.nil_append, List.append_nil, Nat.reduceAdd, Nat.reduceMul, Nat.reduceLeDiff, Nat.reduceEqDiff, and_self, and_true, true_and, if_true, Nat.le_refl, Nat.zero_add, Nat.add_zero, Nat.zero_mul, reduceIte, if_false] <;> rfl))) rfl fun q h s w1 => ?_
      refine And.intro (by exact St.r_still0 s 3 rfl rfl) ?_
      refine s.r_appL (M := [emp]) 4 rfl wr rfl (by have := w1.rdl s 0 rfl; simpa using this) (fun _ _ => enc1 _) (by simp; omega) (by simp; omega) fun riv1 rib1 rio1 risp1 h s wr1 => ?_
      have s := s.tail rfl
      refine r_nil ?_
      refine r_fld ?_
      (refine St.r_store0 s 2 rfl (by simp) (Own.one (by assumption)) ?_; intro h s; try simp only [List.set_cons_zero, List.set_cons_succ] at s)
      refine r_nil ?_
      refine r_fld ?_
      refine St.r_load0 s 2 rfl rfl ?_
      refine wr1.slcLo encl (i := 1) rfl (by simp) fun dd wd => ?_
      refine r_nil ?_
      refine r_fld ?_
      refine St.r_load0 s 2 rfl rfl ?_
      refine s.r_cpyF encl 3 (L := r.nd.its ++ [emp]) (M := (r.nd.its ++ [emp]).drop 0) rfl wd (by simp; omega) (wr1.rdl s 3 rfl).z0 rfl (fun y _ => enc1 y) fun h s => ?_
      have hl0 : 1 ≤ l.nd.its.length := by omega
      obtain ⟨L, z, hL⟩ := last_of hl0
      have hzl : l.nd.its[l.nd.its.length - 1]? = some z := by rw [hL]; simp
      have hLl : l.nd.its.length = L.length + 1 := by rw [hL]; simp
      refine r_nil ?_
      refine r_fld ?_
      refine St.r_load0 s 2 rfl rfl ?_
      refine r_nil ?_
      refine r_fld ?_
      refine St.r_load0 s 4 rfl rfl ?_
      (refine Own.idx (by assumption) rfl (by first | omega | (simp; done) | (simp; omega)) ?_)
      refine s.r_loadF encl 5 rfl (by assumption) ?_
      (refine Own.idx (by assumption) rfl (by first | omega | (simp; done) | (simp; omega)) ?_)
      (refine s.r_storeF encl 3 rfl (by first | omega | (simp; done) | (simp; omega)) (enc1 _) ?_; intro h s; try simp only [List.set_cons_zero, List.set_cons_succ] at s)
      refine r_nil ?_
      refine r_fld ?_
      refine St.r_load0 s 2 rfl rfl ?_
      refine r_add1 (by omega) ?_
      refine r_nil ?_
      refine r_fld ?_
      (refine St.r_store0 s 2 rfl (by simp) rfl ?_; intro h s; try simp only [List.set_cons_zero, List.set_cons_succ] at s)
      refine r_nil ?_
      refine r_fld ?_
      refine St.r_load0 s 4 rfl rfl ?_
      refine r_nil ?_
      refine r_fld ?_
      refine St.r_load0 s 0 rfl rfl ?_
      refine r_nil ?_
      refine r_fld ?_
      refine St.r_load0 s 0 rfl rfl ?_
      refine Own.lenV (by assumption) ?_
      refine r_sub1 (by omega) (by omega) ?_
      (refine Own.idx (by assumption) rfl (by first | omega | (simp; done) | (simp; omega)) ?_)
      refine s.r_loadF encl 1 rfl (by assumption) ?_
      (refine Own.idx (by assumption) rfl (by first | omega | (simp; done) | (simp; omega)) ?_)
      (refine s.r_storeF encl 5 rfl (by first | omega | (simp; done) | (simp; omega)) (enc1 _) ?_; intro h s; try simp only [List.set_cons_zero, List.set_cons_succ] at s)
      refine r_nil ?_
      refine r_fld ?_
      refine St.r_load0 s 0 rfl rfl ?_
      refine r_nil ?_
      refine r_fld ?_
      refine St.r_load0 s 0 rfl rfl ?_
      refine Own.lenV (by assumption) ?_
      refine r_sub1 (by omega) (by omega) ?_
      refine r_nil ?_
      refine r_fld ?_
      refine s.r_lzE hT4 3 (enc emp) rfl (by simp) rfl ?_
      (refine Own.idx (by assumption) rfl (by first | omega | (simp; done) | (simp; omega)) ?_)
      (refine s.r_storeF encl 1 rfl (by first | omega | (simp; done) | (simp; omega)) (enc1 _) ?_; intro h s; try simp only [List.set_cons_zero, List.set_cons_succ] at s)
      refine r_nil ?_
      refine r_fld ?_
      refine St.r_load0 s 0 rfl rfl ?_
      refine r_nil ?_
      refine r_fld ?_
      refine St.r_load0 s 0 rfl rfl ?_
      refine Own.lenV (by assumption) ?_
      refine r_sub1 (by omega) (by omega) ?_
      rw [ins_steps r.nd.its emp y (Nat.zero_le _), ins0] at s
      have wr2 : Own 2 riv1 (y :: r.nd.its).length rib1 rio1 ((y :: r.nd.its).flatMap enc) risp1 := wr1.list encl (by simp)
      rw [setAt hP] at s
      refine (wl.list encl (pop_len (e := emp))).slcHi encl rfl (by rw [pop_len]; omega) fun liv2 wl2 => ?_
      have s := s.del (f := enc) 1 rfl _ (pop_steps (e := emp) hL)
      rw [pop_steps (e := emp) hL] at wl2
      refine r_nil ?_
      refine r_fld ?_
      (refine St.r_store0 s 0 rfl (by simp) (Own.one (by assumption)) ?_; intro h s; try simp only [List.set_cons_zero, List.set_cons_succ] at s)
      refine r_nil ?_
      refine r_fld ?_
      refine St.r_load0 s 0 rfl rfl ?_
      refine r_sub1 (by omega) (by omega) ?_
      refine r_nil ?_
      refine r_fld ?_
      (refine St.r_store0 s 0 rfl (by simp) rfl ?_; intro h s; try simp only [List.set_cons_zero, List.set_cons_succ] at s)
      have w2 : Own 2 iv (P ++ z :: S).length ib io ((P ++ z :: S).flatMap enc) isp := w.list encl (by simp)
      cases k with
      | zero =>
        refine node_leaf_ok (a := none) (s.cl0 0 rfl rfl) ?_
        refine r_not ?_
        refine r_if (fun e => absurd e (by simp)) (fun _ => ?_)
        have s := St.kids0 s
        obtain ⟨l', hl1', gl', hl2', hl3', hl4'⟩ := mk_leaf (iso := is') (n := l.id) wl2
        obtain ⟨r', hr1', gr', hr2', hr3', hr4'⟩ := mk_leaf (iso := is') (n := r.id) wr2
        have wK2 : Own 1 kv (((A ++ l' :: r' :: B).map GT.id).map pp).length krb kro ((((A ++ l' :: r' :: B).map GT.id).map pp).flatMap fv) ksp := by rw [ids_pp, hl1', hr1']; exact wK
        obtain ⟨t', ht1, gt, ht2, ht3, ht4⟩ := mk_inner (n := n) (kb := kb) (iso := is') w2 wK2 (by simp; omega) (fun c hc => by
          rcases List.mem_append.1 hc with h | h
          · exact gA c h
          · rcases List.mem_cons.1 h with h | h
            · subst h; exact gl'
            · rcases List.mem_cons.1 h with h | h
              · subst h; exact gr'
              · exact gB c h)
        have hfl' : l'.pt.Fl m (m / 2) := by rw [hl2']; exact fl_leaf (by omega) (by omega)
        have hfr' : r'.pt.Fl m (m / 2) := by rw [hr2']; exact fl_leaf (by simp; omega) (by simp; omega)
        refine (fun M => H t' h M (s.perm ?_)) ?_
        rotate_left
        · refine mended_two rfl ht2 (by omega) (by omega) ht1 gt hab hlm hfl' hfr' ?_ hP ⟨by omega, .inl ⟨hgt, ?_⟩⟩
          · rw [hl2', hr2']
            show l.nd.its ++ y :: r.nd.its = L ++ z :: (y :: r.nd.its)
            rw [hL]; simp
          · rw [hl2', hr2']
            show (l.nd.its.dropLast, l.nd.its.getLast?.getD y, y :: r.nd.its) = (L, z, y :: r.nd.its)
            rw [hL]; simp
        have e1 := M.2.1
        rw [ht2] at e1
        have e1 : ((PT.items (h := 1) (P ++ z :: S, (A ++ l' :: r' :: B).map GT.pt)).length : Int) = cnt := by rw [hcn, e1]; rfl
        have e2 : (A ++ l' :: r' :: B).flatMap (GT.all enc) = A.flatMap (GT.all enc) ++ (l'.all enc ++ (r'.all enc ++ B.flatMap (GT.all enc))) := by rw [List.flatMap_append, List.flatMap_cons, List.flatMap_cons]
        have e3 : l.pt.items.length = l.nd.its.length := rfl
        have e4 : r.pt.items.length = r.nd.its.length := rfl
        rw [ht4, e1, e2, hl4', hr4', ids_pp, hl1', hr1', e3, e4, hLl, List.length_cons, Nat.add_sub_cancel]
        ((apply perm_rg; intro f; simp only [List.set_cons_zero, List.set_cons_succ, List.eraseIdx_cons_zero, List.eraseIdx_cons_succ, List.cons_append, List.nil_append, List.map_append, List.map_cons, List.map_nil, List.sum_append, List.sum_cons, List.sum_nil, List.map_flatMap, Nat.add_zero, Nat.zero_add]; ac_rfl))
      | succ k =>
        obtain ⟨dl, lk⟩ := l
        obtain ⟨dr, rk⟩ := r
        refine node_leaf_ok (a := some ⟨dl.kb, 0, none⟩) (s.cl0 0 rfl rfl) ?_
        refine r_not ?_
        refine r_if (fun _ => ?_) (fun e => absurd e (by simp))
        have s := St.kids8 s
        have s : St h0 Z ((dl.n, 0, [_, _, _, ptr dl.kb 0]) :: _ :: (dr.n, 0, [_, _, _, ptr dr.kb 0]) :: _ :: _ :: _ :: _ :: _ :: (dl.kb, 0, [dl.kv]) :: (dl.krb, dl.kro, ((lk.map GT.id).map pp).flatMap fv ++ dl.ksp) :: (dr.kb, 0, [dr.kv]) :: (dr.krb, dr.kro, ((rk.map GT.id).map pp).flatMap fv ++ dr.ksp) ::
          (lk.flatMap (GT.all enc) ++ (rk.flatMap (GT.all enc) ++ (A.flatMap (GT.all enc) ++ (B.flatMap (GT.all enc) ++ E))))) h := s
        have wLK : Own 1 dl.kv ((lk.map GT.id).map pp).length dl.krb dl.kro (((lk.map GT.id).map pp).flatMap fv) dl.ksp := gl.ownK
        have wRK : Own 1 dr.kv ((rk.map GT.id).map pp).length dr.krb dr.kro (((rk.map GT.id).map pp).flatMap fv) dr.ksp := gr.ownK
        have hlk : lk.length = dl.its.length + 1 := gl.wf.2.2.1
        have hrk : rk.length = dr.its.length + 1 := gr.wf.2.2.1
        have hdl : dl.its.length ≤ m := ll.2
        have hdr : dr.its.length ≤ m := lr.2
        have hLl : dl.its.length = L.length + 1 := hLl
        obtain ⟨lk', c, ec⟩ := last_of (show 1 ≤ lk.length by omega)
        have hrkL : ((rk.map GT.id).map pp).length = dr.its.length + 1 := by rw [List.length_map, List.length_map]; exact hrk
        have hlkL : ((lk.map GT.id).map pp).length = dl.its.length + 1 := by rw [List.length_map, List.length_map]; exact hlk
        have hlkE : (lk.map GT.id).map pp = (lk'.map GT.id).map pp ++ [ptr c.id 0] := by rw [ec]; simp
        have hlast : ((lk.map GT.id).map pp)[((lk.map GT.id).map pp).length - 1]? = some (ptr c.id 0) := by rw [hlkE]; simp
        refine r_nil ?_
        refine r_fld ?_
        refine St.r_load0 s 2 rfl rfl ?_
        refine r_nil ?_
        refine r_fld ?_
        refine St.r_load0 s 2 rfl rfl ?_
        refine r_nil ?_
        refine St.r_load0 s 10 rfl rfl ?_
        refine St.r_mkSl (sz := 1) (cs := [.pointer none]) s (by ((simp only [fillV, fill1, Value.cells, zeros_succ, zeros_zero, List.size_toArray, List.length_cons, List.length_nil, List.length_append, List.take_succ_cons, List.take_zero, List.take_nil, List.drop_succ_cons, List.drop_zero, List.drop_nil, List.cons_append, List.nil_append, List.append_nil, Nat.reduceAdd, Nat.reduceMul, Nat.reduceLeDiff, Nat.reduceEqDiff, and_self, and_true, true_and, if_true, Nat.le_refl, Nat.zero_add, Nat.add_zero, Nat.zero_mul, reduceIte, if_false] <;> rfl))) rfl fun q h s w1 => ?_
        refine And.intro (by exact St.r_still0 s 3 rfl rfl) ?_
        refine And.intro (by exact St.r_still0 s 3 rfl rfl) ?_
        refine And.intro (by exact St.r_still0 s 11 rfl rfl) ?_
        refine s.r_appL (f := fv) (L := (rk.map GT.id).map pp) (M := [.pointer none]) 12 rfl wRK rfl (w1.rdl s 0 rfl) (fun _ h => by simp [one1, List.mem_singleton.1 h]) (by simp; omega) (by simp; omega) fun rkv1 rkb1 rko1 rks1 h s wRK1 => ?_
        have s := s.tail rfl
        refine And.intro (by exact St.r_still0 s 2 rfl rfl) ?_
        refine r_nil ?_
        (refine St.r_store0 s 10 rfl (by simp) (Own.one (by assumption)) ?_; intro h s; try simp only [List.set_cons_zero, List.set_cons_succ] at s)
        refine r_nil ?_
        refine r_fld ?_
        refine St.r_load0 s 2 rfl rfl ?_
        refine r_nil ?_
        refine St.r_load0 s 10 rfl rfl ?_
        refine wRK1.slcLo fvl (i := 1) rfl (by simp) fun dd wd2 => ?_
        refine r_nil ?_
        refine r_fld ?_
        refine St.r_load0 s 2 rfl rfl ?_
        refine r_nil ?_
        refine St.r_load0 s 10 rfl rfl ?_
        refine s.r_cpyF fvl 11 (L := (rk.map GT.id).map pp ++ [Value.pointer none]) (M := ((rk.map GT.id).map pp ++ [Value.pointer none]).drop 0) rfl wd2 (by simp; omega) (wRK1.rdl s 11 rfl).z0 rfl (fun y hy => by
          rw [List.drop_zero] at hy
          rcases List.mem_append.1 hy with hy | hy
          · obtain ⟨a, _, rfl⟩ := List.mem_map.1 hy; simp [one1]
          · rw [List.mem_singleton.1 hy]; simp [one1]) fun h s => ?_
        refine r_nil ?_
        refine r_fld ?_
        refine St.r_load0 s 2 rfl rfl ?_
        refine r_nil ?_
        refine St.r_load0 s 10 rfl rfl ?_
        refine r_nil ?_
        refine r_fld ?_
        refine St.r_load0 s 0 rfl rfl ?_
        refine r_nil ?_
        refine St.r_load0 s 8 rfl rfl ?_
        refine r_nil ?_
        refine r_fld ?_
        refine St.r_load0 s 0 rfl rfl ?_
        refine r_nil ?_
        refine St.r_load0 s 8 rfl rfl ?_
        refine Own.lenV (by assumption) ?_
        refine r_sub1 (by omega) (by omega) ?_
        (refine Own.idx (by assumption) rfl (by first | omega | (simp; done) | (simp; omega)) ?_)
        refine s.r_loadV 9 rfl (by assumption) ?_
        (refine Own.idx (by assumption) rfl (by first | omega | (simp; done) | (simp; omega)) ?_)
        (refine s.r_storeV 11 rfl (by first | omega | (simp; done) | (simp; omega)) rfl ?_; intro h s; try simp only [List.set_cons_zero, List.set_cons_succ] at s)
        refine r_nil ?_
        refine r_fld ?_
        refine St.r_load0 s 0 rfl rfl ?_
        refine r_nil ?_
        refine St.r_load0 s 8 rfl rfl ?_
        refine r_nil ?_
        refine r_fld ?_
        refine St.r_load0 s 0 rfl rfl ?_
        refine r_nil ?_
        refine St.r_load0 s 8 rfl rfl ?_
        refine Own.lenV (by assumption) ?_
        refine r_sub1 (by omega) (by omega) ?_
        (refine Own.idx (by assumption) rfl (by first | omega | (simp; done) | (simp; omega)) ?_)
        (refine s.r_storeV 9 rfl (by first | omega | (simp; done) | (simp; omega)) rfl ?_; intro h s; try simp only [List.set_cons_zero, List.set_cons_succ] at s)
        refine r_nil ?_
        refine r_fld ?_
        refine St.r_load0 s 0 rfl rfl ?_
        refine r_nil ?_
        refine r_fld ?_
        refine St.r_load0 s 0 rfl rfl ?_
        refine r_nil ?_
        refine St.r_load0 s 8 rfl rfl ?_
        refine r_nil ?_
        refine r_fld ?_
        refine St.r_load0 s 0 rfl rfl ?_
        refine r_nil ?_
        refine St.r_load0 s 8 rfl rfl ?_
        refine Own.lenV (by assumption) ?_
        refine r_sub1 (by omega) (by omega) ?_
        rw [ins_steps ((rk.map GT.id).map pp) (.pointer none) (ptr c.id 0) (Nat.zero_le _), ins0] at s
        have wRK2 : Own 1 rkv1 (ptr c.id 0 :: (rk.map GT.id).map pp).length rkb1 rko1 ((ptr c.id 0 :: (rk.map GT.id).map pp).flatMap fv) rks1 := wRK1.list fvl (by simp)
        clear wRK1
        refine (wLK.list fvl (pop_len (e := .pointer none))).slcHi fvl rfl (by rw [pop_len]; omega) fun lkv2 wLK2 => ?_
        have s := s.del (f := fv) 9 rfl _ (pop_steps (e := .pointer none) hlkE)
        rw [pop_steps (e := .pointer none) hlkE] at wLK2
        obtain ⟨a1, a2, a3, hcm⟩ := GT.topA (t := c)
        have hcl : c ∈ lk := by rw [ec]; simp
        have gc : Gd is' c := gl.kid hcl
        have hcm' : (c.id, 0, [a1, .int .i64 c.nd.cnt, a2, a3]) ∈ lk.flatMap (GT.all enc) := List.mem_flatMap.2 ⟨c, hcl, hcm⟩
        rw [gc.cntEq] at hcm'
        have hL' : dl.its = L ++ [z] := hL
        have hlk'l : lk'.length = L.length + 1 := by rw [ec] at hlk; simp at hlk; omega
        have hlI : (GT.pt (h := k + 1) (dl, lk)).items = inter L ((lk'.map GT.pt).map PT.items) ++ z :: c.pt.items := by
          show inter dl.its ((lk.map GT.pt).map PT.items) = _
          rw [ec, hL', List.map_append, List.map_append]
          exact inter_snoc _ _ _ _ (by simp; omega)
        have hlL := congrArg List.length hlI
        rw [List.length_append, List.length_cons] at hlL
        have hc0 : (ptr c.id 0 :: (rk.map GT.id).map pp)[0]? = some (ptr c.id 0) := rfl
        refine r_nil ?_
        (refine St.r_store0 s 8 rfl (by simp) (Own.one (by assumption)) ?_; intro h s; try simp only [List.set_cons_zero, List.set_cons_succ] at s)
        refine r_nil ?_
        refine r_fld ?_
        refine St.r_load0 s 0 rfl rfl ?_
        refine r_nil ?_
        refine r_fld ?_
        refine St.r_load0 s 2 rfl rfl ?_
        refine r_nil ?_
        refine St.r_load0 s 10 rfl rfl ?_
        (refine Own.idx (by assumption) rfl (by first | omega | (simp; done) | (simp; omega)) ?_)
        refine s.r_loadI 11 0 rfl rfl rfl ?_
        refine r_nil ?_
        refine r_fld ?_
        refine s.r_loadD 12 (List.mem_append.2 (.inl hcm')) rfl ?_
        refine r_subN (by omega) (by omega) ?_
        refine r_nil ?_
        refine r_fld ?_
        (refine St.r_store0 s 0 rfl (by simp) rfl ?_; intro h s; try simp only [List.set_cons_zero, List.set_cons_succ] at s)
        refine r_nil ?_
        refine r_fld ?_
        refine St.r_load0 s 2 rfl rfl ?_
        refine r_nil ?_
        refine r_fld ?_
        refine St.r_load0 s 2 rfl rfl ?_
        refine r_nil ?_
        refine St.r_load0 s 10 rfl rfl ?_
        (refine Own.idx (by assumption) rfl (by first | omega | (simp; done) | (simp; omega)) ?_)
        refine s.r_loadI 11 0 rfl rfl rfl ?_
        refine r_nil ?_
        refine r_fld ?_
        refine s.r_loadD 12 (List.mem_append.2 (.inl hcm')) rfl ?_
        refine r_addN (by omega) ?_
        refine r_nil ?_
        refine r_fld ?_
        (refine St.r_store0 s 2 rfl (by simp) rfl ?_; intro h s; try simp only [List.set_cons_zero, List.set_cons_succ] at s)
        obtain ⟨l', hl1', gl', hl2', hl3', hl4'⟩ := mk_inner (iso := is') (n := dl.n) (kb := dl.kb) (ts := lk') wl2 wLK2 hlk'l (fun q hq => gl.kid (by rw [ec]; exact List.mem_append.2 (.inl hq)))
        obtain ⟨r', hr1', gr', hr2', hr3', hr4'⟩ := mk_inner (iso := is') (n := dr.n) (kb := dr.kb) (ts := c :: rk) wr2 wRK2 (by show _ = (y :: dr.its).length + 1; simp; omega) (fun q hq => by
          rcases List.mem_cons.1 hq with h | h
          · rw [h]; exact gc
          · exact gr.kid h)
        have wK2 : Own 1 kv (((A ++ l' :: r' :: B).map GT.id).map pp).length krb kro ((((A ++ l' :: r' :: B).map GT.id).map pp).flatMap fv) ksp := by rw [ids_pp, hl1', hr1']; exact wK
        obtain ⟨t', ht1, gt, ht2, ht3, ht4⟩ := mk_inner (n := n) (kb := kb) (iso := is') w2 wK2 (by simp; omega) (fun c hc => by
          rcases List.mem_append.1 hc with h | h
          · exact gA c h
          · rcases List.mem_cons.1 h with h | h
            · subst h; exact gl'
            · rcases List.mem_cons.1 h with h | h
              · subst h; exact gr'
              · exact gB c h)
        have fkl : ∀ q ∈ lk, PT.Fl m (m / 2) q.pt := fun q hq => fl0.2.2.2 _ (List.mem_map.2 ⟨q, hq, rfl⟩)
        have fkr : ∀ q ∈ rk, PT.Fl m (m / 2) q.pt := fun q hq => fr0.2.2.2 _ (List.mem_map.2 ⟨q, hq, rfl⟩)
        have hgt2 : dr.its.length < dl.its.length := hgt
        have hlr2 : (dl.its.length + 1 = m / 2 ∧ m / 2 ≤ dr.its.length) ∨ (m / 2 ≤ dl.its.length ∧ dr.its.length + 1 = m / 2) := hlr
        have hge2 : m ≤ dl.its.length + dr.its.length := hge
        have hfl' : l'.pt.Fl m (m / 2) := by
          rw [hl2']
          refine fl_inner (by omega) (by omega) (by simp; omega) fun q hq => ?_
          obtain ⟨x, hx, rfl⟩ := List.mem_map.1 hq
          exact fkl x (by rw [ec]; exact List.mem_append.2 (.inl hx))
        have hfr' : r'.pt.Fl m (m / 2) := by
          rw [hr2']
          refine fl_inner (by show m / 2 ≤ (y :: dr.its).length; simp; omega) (by show (y :: dr.its).length ≤ m; simp; omega) (by show _ = (y :: dr.its).length + 1; simp; omega) fun q hq => ?_
          obtain ⟨x, hx, rfl⟩ := List.mem_map.1 hq
          rcases List.mem_cons.1 hx with h | h
          · rw [h]; exact fkl c hcl
          · exact fkr x h
        have hl'I : l'.pt.items = inter L ((lk'.map GT.pt).map PT.items) := by rw [hl2']; rfl
        have hr'I : r'.pt.items = c.pt.items ++ y :: (GT.pt (h := k + 1) (dr, rk)).items := by rw [hr2']; rfl
        refine (fun M => H t' h M (s.perm ?_)) ?_
        rotate_left
        · refine mended_two rfl ht2 (by omega) (by omega) ht1 gt hab hlm hfl' hfr' (by rw [hlI, hl'I, hr'I]; simp) hP ⟨by show ¬ dl.its.length + dr.its.length < m; omega, .inl ⟨hgt, ?_⟩⟩
          rw [hl2', hr2']
          show ((dl.its.dropLast, (lk.map GT.pt).dropLast), dl.its.getLast?.getD y, (y :: dr.its, (lk.map GT.pt).getLast?.toList ++ rk.map GT.pt)) = ((L, lk'.map GT.pt), z, (y :: dr.its, (c :: rk).map GT.pt))
          have hL' : dl.its = L ++ [z] := hL
          rw [hL', ec]; simp
        have e1 := M.2.1
        rw [ht2] at e1
        have e1 : ((PT.items (h := k + 2) (P ++ z :: S, (A ++ l' :: r' :: B).map GT.pt)).length : Int) = cnt := by rw [hcn, e1]; rfl
        have e2 : (A ++ l' :: r' :: B).flatMap (GT.all enc) = A.flatMap (GT.all enc) ++ (l'.all enc ++ (r'.all enc ++ B.flatMap (GT.all enc))) := by rw [List.flatMap_append, List.flatMap_cons, List.flatMap_cons]
        have e3 : (PT.items (h := k + 1) (y :: (GT.nd (h := k + 1) (dr, rk)).its, (c :: rk).map GT.pt)).length = (GT.pt (h := k + 1) (dr, rk)).items.length + 1 + c.pt.items.length := by
          have := congrArg List.length hr'I
          rw [hr2'] at this
          rw [List.length_append, List.length_cons] at this
          exact this.trans (by omega)
        have e4 : (PT.items (h := k + 1) (L, lk'.map GT.pt)).length = (GT.pt (h := k + 1) (dl, lk)).items.length - 1 - c.pt.items.length := by
          show (inter L ((lk'.map GT.pt).map PT.items)).length = _
          omega
        have e5 : lk.flatMap (GT.all enc) = lk'.flatMap (GT.all enc) ++ c.all enc := by rw [ec, List.flatMap_append, List.flatMap_singleton]
        rw [ht4, e1, e2, hl4', hr4', ids_pp, hl1', hr1', e3, e4]
        have e6 : (c :: rk).flatMap (GT.all enc) = c.all enc ++ rk.flatMap (GT.all enc) := List.flatMap_cons
        have e7 : (((c :: rk).map GT.id).map pp) = ptr c.id 0 :: (rk.map GT.id).map pp := rfl
        rw [e5, e6, e7]
        ((apply perm_rg; intro f; simp only [List.set_cons_zero, List.set_cons_succ, List.eraseIdx_cons_zero, List.eraseIdx_cons_succ, List.cons_append, List.nil_append, List.map_append, List.map_cons, List.map_nil, List.sum_append, List.sum_cons, List.sum_nil, List.map_flatMap, Nat.add_zero, Nat.zero_add]; ac_rfl))
    · have hle : l.nd.its.length ≤ r.nd.its.length := by have := of_decide_eq_false hle; omega
      refine r_nil ?_
      refine r_fld ?_
      refine St.r_load0 s 0 rfl rfl ?_
      refine r_nil ?_
      refine r_fld ?_
      refine St.r_load0 s 4 rfl rfl ?_
      (refine Own.idx (by assumption) rfl (by first | omega | (simp; done) | (simp; omega)) ?_)
      refine s.r_loadF encl 5 rfl (by assumption) ?_
      refine St.r_mkSl (sz := 2) (cs := enc y) s (by ((simp only [fillV, fill1, Value.cells, zeros_succ, zeros_zero, List.size_toArray, List.length_cons, List.length_nil, List.length_append, List.take_succ_cons, List.take_zero, List.take_nil, List.drop_succ_cons, List.drop_zero, List.drop_nil, List.cons_append, List.nil_append, List.append_nil, Nat.reduceAdd, Nat.reduceMul, Nat.reduceLeDiff, Nat.reduceEqDiff, and_self, and_true, true_and, if_true, Nat.le_refl, Nat.zero_add, Nat.add_zero, Nat.zero_mul, reduceIte, if_false] <;> rfl))) rfl fun q h s w1 => ?_
      refine And.intro (by exact St.r_still0 s 1 rfl rfl) ?_
      refine s.r_appL (M := [y]) 2 rfl wl rfl (by have := w1.rdl s 0 rfl; simpa using this) (fun _ _ => enc1 _) (by simp; omega) (by simp; omega) fun liv1 lib1 lio1 lisp1 h s wl1 => ?_
      have s := s.tail rfl
      refine r_nil ?_
      refine r_fld ?_
      (refine St.r_store0 s 0 rfl (by simp) (Own.one (by assumption)) ?_; intro h s; try simp only [List.set_cons_zero, List.set_cons_succ] at s)
      refine r_nil ?_
      refine r_fld ?_
      refine St.r_load0 s 0 rfl rfl ?_
      refine r_add1 (by omega) ?_
      refine r_nil ?_
      refine r_fld ?_
      (refine St.r_store0 s 0 rfl (by simp) rfl ?_; intro h s; try simp only [List.set_cons_zero, List.set_cons_succ] at s)
      refine r_nil ?_
      refine r_fld ?_
      refine St.r_load0 s 4 rfl rfl ?_
      refine r_nil ?_
      refine r_fld ?_
      refine St.r_load0 s 2 rfl rfl ?_
      (refine Own.idx (by assumption) rfl (by first | omega | (simp; done) | (simp; omega)) ?_)
      (refine s.r_loadF encl 3 rfl (List.getElem?_eq_getElem (by first | omega | (simp; done) | (simp; omega))) ?_)
      (refine Own.idx (by assumption) rfl (by first | omega | (simp; done) | (simp; omega)) ?_)
      (refine s.r_storeF encl 5 rfl (by first | omega | (simp; done) | (simp; omega)) (enc1 _) ?_; intro h s; try simp only [List.set_cons_zero, List.set_cons_succ] at s)
      refine r_nil ?_
      refine r_fld ?_
      refine St.r_load0 s 2 rfl rfl ?_
      refine r_nil ?_
      refine r_fld ?_
      refine St.r_load0 s 2 rfl rfl ?_
      refine (wr.rdl s 3 rfl).slcLo encl (i := 1) rfl (by omega) fun src rs => ?_
      refine s.r_cpyF encl 3 (L := r.nd.its) (M := r.nd.its.drop 1) rfl wr.z0 (by simp) rs rfl (fun y _ => enc1 y) fun h s => ?_
      refine r_nil ?_
      refine r_fld ?_
      refine St.r_load0 s 2 rfl rfl ?_
      refine r_nil ?_
      refine r_fld ?_
      refine St.r_load0 s 2 rfl rfl ?_
      refine Own.lenV (by assumption) ?_
      refine r_sub1 (by omega) (by omega) ?_
      refine r_nil ?_
      refine r_fld ?_
      refine s.r_lzE hT4 3 (enc emp) rfl (by simp) rfl ?_
      (refine Own.idx (by assumption) rfl (by first | omega | (simp; done) | (simp; omega)) ?_)
      (refine s.r_storeF encl 3 rfl (by first | omega | (simp; done) | (simp; omega)) (enc1 _) ?_; intro h s; try simp only [List.set_cons_zero, List.set_cons_succ] at s)
      refine r_nil ?_
      refine r_fld ?_
      refine St.r_load0 s 2 rfl rfl ?_
      refine r_nil ?_
      refine r_fld ?_
      refine St.r_load0 s 2 rfl rfl ?_
      refine Own.lenV (by assumption) ?_
      refine r_sub1 (by omega) (by omega) ?_
      have hr0 : 0 < r.nd.its.length := by omega
      refine (wr.list encl (del_len r.nd.its emp hr0)).slcHi encl rfl (by rw [del_len _ _ hr0]; omega) fun riv2 wr2 => ?_
      have s := s.del (f := enc) 3 rfl _ (del_erase r.nd.its emp hr0)
      rw [del_erase r.nd.its emp hr0] at wr2
      refine r_nil ?_
      refine r_fld ?_
      (refine St.r_store0 s 2 rfl (by simp) (Own.one (by assumption)) ?_; intro h s; try simp only [List.set_cons_zero, List.set_cons_succ] at s)
      refine r_nil ?_
      refine r_fld ?_
      refine St.r_load0 s 2 rfl rfl ?_
      refine r_sub1 (by omega) (by omega) ?_
      refine r_nil ?_
      refine r_fld ?_
      (refine St.r_store0 s 2 rfl (by simp) rfl ?_; intro h s; try simp only [List.set_cons_zero, List.set_cons_succ] at s)
      obtain ⟨z, R, hR⟩ := head_of (show 1 ≤ r.nd.its.length by omega)
      have hz : r.nd.its[0]'(by omega) = z := by simp [hR]
      have hR0 : r.nd.its.eraseIdx 0 = R := by rw [hR]; rfl
      have hRl : r.nd.its.length = R.length + 1 := by rw [hR]; rfl
      rw [hz, setAt hP] at s
      rw [hR0] at s wr2
      have w2 : Own 2 iv (P ++ z :: S).length ib io ((P ++ z :: S).flatMap enc) isp := w.list encl (by simp)
      cases k with
      | zero =>
        refine node_leaf_ok (a := none) (s.cl0 0 rfl rfl) ?_
        refine r_not ?_
        refine r_if (fun e => absurd e (by simp)) (fun _ => ?_)
        have s := St.kids0 s
        obtain ⟨l', hl1', gl', hl2', hl3', hl4'⟩ := mk_leaf (iso := is') (n := l.id) wl1
        obtain ⟨r', hr1', gr', hr2', hr3', hr4'⟩ := mk_leaf (iso := is') (n := r.id) wr2
        have wK2 : Own 1 kv (((A ++ l' :: r' :: B).map GT.id).map pp).length krb kro ((((A ++ l' :: r' :: B).map GT.id).map pp).flatMap fv) ksp := by rw [ids_pp, hl1', hr1']; exact wK
        obtain ⟨t', ht1, gt, ht2, ht3, ht4⟩ := mk_inner (n := n) (kb := kb) (iso := is') w2 wK2 (by simp; omega) (fun c hc => by
          rcases List.mem_append.1 hc with h | h
          · exact gA c h
          · rcases List.mem_cons.1 h with h | h
            · subst h; exact gl'
            · rcases List.mem_cons.1 h with h | h
              · subst h; exact gr'
              · exact gB c h)
        have hfl' : l'.pt.Fl m (m / 2) := by rw [hl2']; exact fl_leaf (by simp; omega) (by simp; omega)
        have hfr' : r'.pt.Fl m (m / 2) := by rw [hr2']; exact fl_leaf (by omega) (by omega)
        have hx : l.pt.items ++ y :: r.pt.items = l'.pt.items ++ z :: r'.pt.items := by
          rw [hl2', hr2']
          show l.nd.its ++ y :: r.nd.its = (l.nd.its ++ [y]) ++ z :: R
          rw [hR]; simp
        have M := mended_two (t := ((⟨own, n, is', cnt, P ++ y :: S, iv, ib, io, isp, kb, kv, krb, kro, ksp⟩ : Nd It), A ++ l :: r :: B)) (iso := is') rfl ht2 (by omega) (by omega) ht1 gt hab hlm hfl' hfr' hx hP ⟨by omega, .inr ⟨by omega, by
          rw [hl2', hr2']
          show (l.nd.its ++ [y], r.nd.its.head?.getD y, r.nd.its.tail) = (l.nd.its ++ [y], z, R)
          rw [hR]; rfl⟩⟩
        refine H t' h M (s.perm ?_)
        have e1 : ((PT.items (h := 1) (P ++ z :: S, (A ++ l' :: r' :: B).map GT.pt)).length : Int) = cnt := by have := M.2.1; rw [ht2] at this; rw [hcn, this]; rfl
        have e2 : (A ++ l' :: r' :: B).flatMap (GT.all enc) = A.flatMap (GT.all enc) ++ (l'.all enc ++ (r'.all enc ++ B.flatMap (GT.all enc))) := by rw [List.flatMap_append, List.flatMap_cons, List.flatMap_cons]
        have e3 : l.pt.items.length = l.nd.its.length := rfl
        have e4 : r.pt.items.length = r.nd.its.length := rfl
        rw [ht4, e1, e2, hl4', hr4', ids_pp, hl1', hr1', e3, e4, hRl, List.length_append, List.length_singleton, Nat.add_sub_cancel]
        ((apply perm_rg; intro f; simp only [List.set_cons_zero, List.set_cons_succ, List.eraseIdx_cons_zero, List.eraseIdx_cons_succ, List.cons_append, List.nil_append, List.map_append, List.map_cons, List.map_nil, List.sum_append, List.sum_cons, List.sum_nil, List.map_flatMap, Nat.add_zero, Nat.zero_add]; ac_rfl))
      | succ k =>
        obtain ⟨dl, lk⟩ := l
        obtain ⟨dr, rk⟩ := r
        refine node_leaf_ok (a := some ⟨dl.kb, 0, none⟩) (s.cl0 0 rfl rfl) ?_
        refine r_not ?_
        refine r_if (fun _ => ?_) (fun e => absurd e (by simp))
        have s := St.kids8 s
        have s : St h0 Z ((dl.n, 0, [_, _, _, ptr dl.kb 0]) :: _ :: (dr.n, 0, [_, _, _, ptr dr.kb 0]) :: _ :: _ :: _ :: _ :: _ :: (dl.kb, 0, [dl.kv]) :: (dl.krb, dl.kro, ((lk.map GT.id).map pp).flatMap fv ++ dl.ksp) :: (dr.kb, 0, [dr.kv]) :: (dr.krb, dr.kro, ((rk.map GT.id).map pp).flatMap fv ++ dr.ksp) ::
          (lk.flatMap (GT.all enc) ++ (rk.flatMap (GT.all enc) ++ (A.flatMap (GT.all enc) ++ (B.flatMap (GT.all enc) ++ E))))) h := s
        have wLK : Own 1 dl.kv ((lk.map GT.id).map pp).length dl.krb dl.kro (((lk.map GT.id).map pp).flatMap fv) dl.ksp := gl.ownK
        have wRK : Own 1 dr.kv ((rk.map GT.id).map pp).length dr.krb dr.kro (((rk.map GT.id).map pp).flatMap fv) dr.ksp := gr.ownK
        have hlk : lk.length = dl.its.length + 1 := gl.wf.2.2.1
        have hrk : rk.length = dr.its.length + 1 := gr.wf.2.2.1
        have hdl : dl.its.length ≤ m := ll.2
        have hdr : dr.its.length ≤ m := lr.2
        have hRl : dr.its.length = R.length + 1 := hRl
        obtain ⟨c, rk', ec⟩ := head_of (show 1 ≤ rk.length by omega)
        have hrkL : ((rk.map GT.id).map pp).length = dr.its.length + 1 := by rw [List.length_map, List.length_map]; exact hrk
        have hlkL : ((lk.map GT.id).map pp).length = dl.its.length + 1 := by rw [List.length_map, List.length_map]; exact hlk
        have hrk0 : 0 < ((rk.map GT.id).map pp).length := by simp; omega
        have hc0 : ((rk.map GT.id).map pp)[0]? = some (ptr c.id 0) := by rw [ec]; rfl
        refine r_nil ?_
        refine r_fld ?_
        refine St.r_load0 s 0 rfl rfl ?_
        refine r_nil ?_
        refine r_fld ?_
        refine St.r_load0 s 0 rfl rfl ?_
        refine r_nil ?_
        refine St.r_load0 s 8 rfl rfl ?_
        refine r_nil ?_
        refine r_fld ?_
        refine St.r_load0 s 2 rfl rfl ?_
        refine r_nil ?_
        refine St.r_load0 s 10 rfl rfl ?_
        (refine Own.idx (by assumption) rfl (by first | omega | (simp; done) | (simp; omega)) ?_)
        refine s.r_loadV 11 rfl (by assumption) ?_
        refine St.r_mkSl (sz := 1) (cs := [ptr c.id 0]) s (by ((simp only [fillV, fill1, Value.cells, zeros_succ, zeros_zero, List.size_toArray, List.length_cons, List.length_nil, List.length_append, List.take_succ_cons, List.take_zero, List.take_nil, List.drop_succ_cons, List.drop_zero, List.drop_nil, List.cons_append, List.nil_append, List.append_nil, Nat.reduceAdd, Nat.reduceMul, Nat.reduceLeDiff, Nat.reduceEqDiff, and_self, and_true, true_and, if_true, Nat.le_refl, Nat.zero_add, Nat.add_zero, Nat.zero_mul, reduceIte, if_false] <;> rfl))) rfl fun q h s w1 => ?_
        refine And.intro (by exact St.r_still0 s 1 rfl rfl) ?_
        refine And.intro (by exact St.r_still0 s 1 rfl rfl) ?_
        refine And.intro (by exact St.r_still0 s 9 rfl rfl) ?_
        refine s.r_appL (f := fv) (L := (lk.map GT.id).map pp) (M := [pp c.id]) 10 rfl wLK rfl (w1.rdl s 0 rfl) (fun _ h => by simp [one1, List.mem_singleton.1 h]) (by simp; omega) (by simp; omega) fun lkv1 lkb1 lko1 lks1 h s wLK1 => ?_
        have s := s.tail rfl
        refine And.intro (by exact St.r_still0 s 0 rfl rfl) ?_
        refine r_nil ?_
        (refine St.r_store0 s 8 rfl (by simp) (Own.one (by assumption)) ?_; intro h s; try simp only [List.set_cons_zero, List.set_cons_succ] at s)
        refine r_nil ?_
        refine r_fld ?_
        refine St.r_load0 s 2 rfl rfl ?_
        refine r_nil ?_
        refine St.r_load0 s 10 rfl rfl ?_
        refine r_nil ?_
        refine r_fld ?_
        refine St.r_load0 s 2 rfl rfl ?_
        refine r_nil ?_
        refine St.r_load0 s 10 rfl rfl ?_
        refine (wRK.rdl s 11 rfl).slcLo fvl (i := 1) rfl (by simp; omega) fun src rs => ?_
        refine s.r_cpyF fvl 11 (L := (rk.map GT.id).map pp) (M := ((rk.map GT.id).map pp).drop 1) rfl wRK.z0 (by simp) rs rfl (fun y hy => by obtain ⟨a, _, rfl⟩ := List.mem_map.1 (List.mem_of_mem_drop hy); simp [one1]) fun h s => ?_
        refine r_nil ?_
        refine r_fld ?_
        refine St.r_load0 s 2 rfl rfl ?_
        refine r_nil ?_
        refine St.r_load0 s 10 rfl rfl ?_
        refine r_nil ?_
        refine r_fld ?_
        refine St.r_load0 s 2 rfl rfl ?_
        refine r_nil ?_
        refine St.r_load0 s 10 rfl rfl ?_
        refine Own.lenV (by assumption) ?_
        refine r_sub1 (by omega) (by omega) ?_
        (refine Own.idx (by assumption) rfl (by first | omega | (simp; done) | (simp; omega)) ?_)
        (refine s.r_storeV 11 rfl (by first | omega | (simp; done) | (simp; omega)) rfl ?_; intro h s; try simp only [List.set_cons_zero, List.set_cons_succ] at s)
        refine r_nil ?_
        refine r_fld ?_
        refine St.r_load0 s 2 rfl rfl ?_
        refine r_nil ?_
        refine r_fld ?_
        refine St.r_load0 s 2 rfl rfl ?_
        refine r_nil ?_
        refine St.r_load0 s 10 rfl rfl ?_
        refine r_nil ?_
        refine r_fld ?_
        refine St.r_load0 s 2 rfl rfl ?_
        refine r_nil ?_
        refine St.r_load0 s 10 rfl rfl ?_
        refine Own.lenV (by assumption) ?_
        refine r_sub1 (by omega) (by omega) ?_
        refine (wRK.list fvl (del_len _ (.pointer none) hrk0)).slcHi fvl rfl (by rw [del_len _ _ hrk0]; omega) fun rkv2 wRK2 => ?_
        have s := s.del (f := fv) 11 rfl _ (del_erase _ (.pointer none) hrk0)
        rw [del_erase _ (.pointer none) hrk0] at wRK2
        have hrk2 : ((rk.map GT.id).map pp).eraseIdx 0 = (rk'.map GT.id).map pp := by rw [ec]; rfl
        rw [hrk2] at s wRK2
        have hL1 : ((lk.map GT.id).map pp ++ [pp c.id]).length = dl.its.length + 2 := by rw [List.length_append, hlkL]; rfl
        have hlast : ((lk.map GT.id).map pp ++ [pp c.id])[((lk.map GT.id).map pp ++ [pp c.id]).length - 1]? = some (ptr c.id 0) := by simp
        obtain ⟨a1, a2, a3, hcm⟩ := GT.topA (t := c)
        have hcr : c ∈ rk := by rw [ec]; exact List.mem_cons_self ..
        have gc : Gd is' c := gr.kid hcr
        have hcm' : (c.id, 0, [a1, .int .i64 c.nd.cnt, a2, a3]) ∈ rk.flatMap (GT.all enc) := List.mem_flatMap.2 ⟨c, hcr, hcm⟩
        rw [gc.cntEq] at hcm'
        have hR' : dr.its = z :: R := hR
        have hrI : (GT.pt (h := k + 1) (dr, rk)).items = c.pt.items ++ z :: inter R ((rk'.map GT.pt).map PT.items) := by
          show inter dr.its ((rk.map GT.pt).map PT.items) = _
          rw [ec, hR']; rfl
        have hrL := congrArg List.length hrI
        rw [List.length_append, List.length_cons] at hrL
        refine r_nil ?_
        (refine St.r_store0 s 10 rfl (by simp) (Own.one (by assumption)) ?_; intro h s; try simp only [List.set_cons_zero, List.set_cons_succ] at s)
        refine r_nil ?_
        refine r_fld ?_
        refine St.r_load0 s 0 rfl rfl ?_
        refine r_nil ?_
        refine r_fld ?_
        refine St.r_load0 s 0 rfl rfl ?_
        refine r_nil ?_
        refine St.r_load0 s 8 rfl rfl ?_
        refine r_nil ?_
        refine r_fld ?_
        refine St.r_load0 s 0 rfl rfl ?_
        refine r_nil ?_
        refine St.r_load0 s 8 rfl rfl ?_
        refine Own.lenV (by assumption) ?_
        refine r_sub1 (by omega) (by omega) ?_
        (refine Own.idx (by assumption) rfl (by first | omega | (simp; done) | (simp; omega)) ?_)
        refine s.r_loadV 9 rfl (by assumption) ?_
        refine r_nil ?_
        refine r_fld ?_
        refine s.r_loadD 12 (List.mem_append.2 (.inr (List.mem_append.2 (.inl hcm')))) rfl ?_
        refine r_addN (by omega) ?_
        refine r_nil ?_
        refine r_fld ?_
        (refine St.r_store0 s 0 rfl (by simp) rfl ?_; intro h s; try simp only [List.set_cons_zero, List.set_cons_succ] at s)
        refine r_nil ?_
        refine r_fld ?_
        refine St.r_load0 s 2 rfl rfl ?_
        refine r_nil ?_
        refine r_fld ?_
        refine St.r_load0 s 0 rfl rfl ?_
        refine r_nil ?_
        refine St.r_load0 s 8 rfl rfl ?_
        refine r_nil ?_
        refine r_fld ?_
        refine St.r_load0 s 0 rfl rfl ?_
        refine r_nil ?_
        refine St.r_load0 s 8 rfl rfl ?_
        refine Own.lenV (by assumption) ?_
        refine r_sub1 (by omega) (by omega) ?_
        (refine Own.idx (by assumption) rfl (by first | omega | (simp; done) | (simp; omega)) ?_)
        refine s.r_loadV 9 rfl (by assumption) ?_
        refine r_nil ?_
        refine r_fld ?_
        refine s.r_loadD 12 (List.mem_append.2 (.inr (List.mem_append.2 (.inl hcm')))) rfl ?_
        refine r_subN (by omega) (by omega) ?_
        refine r_nil ?_
        refine r_fld ?_
        (refine St.r_store0 s 2 rfl (by simp) rfl ?_; intro h s; try simp only [List.set_cons_zero, List.set_cons_succ] at s)
        have eL : ((lk ++ [c]).map GT.id).map pp = (lk.map GT.id).map pp ++ [pp c.id] := by simp
        rw [← eL] at s wLK1
        obtain ⟨l', hl1', gl', hl2', hl3', hl4'⟩ := mk_inner (iso := is') (n := dl.n) (kb := dl.kb) (ts := lk ++ [c]) wl1 wLK1 (by show _ = (dl.its ++ [y]).length + 1; simp; omega) (fun q hq => by
          rcases List.mem_append.1 hq with h | h
          · exact gl.kid h
          · rw [List.mem_singleton.1 h]; exact gc)
        obtain ⟨r', hr1', gr', hr2', hr3', hr4'⟩ := mk_inner (iso := is') (n := dr.n) (kb := dr.kb) (ts := rk') wr2 wRK2 (by rw [ec] at hrk; simp at hrk; omega) (fun q hq => gr.kid (by rw [ec]; exact List.mem_cons_of_mem _ hq))
        have wK2 : Own 1 kv (((A ++ l' :: r' :: B).map GT.id).map pp).length krb kro ((((A ++ l' :: r' :: B).map GT.id).map pp).flatMap fv) ksp := by rw [ids_pp, hl1', hr1']; exact wK
        obtain ⟨t', ht1, gt, ht2, ht3, ht4⟩ := mk_inner (n := n) (kb := kb) (iso := is') w2 wK2 (by simp; omega) (fun c hc => by
          rcases List.mem_append.1 hc with h | h
          · exact gA c h
          · rcases List.mem_cons.1 h with h | h
            · subst h; exact gl'
            · rcases List.mem_cons.1 h with h | h
              · subst h; exact gr'
              · exact gB c h)
        have fkl : ∀ q ∈ lk, PT.Fl m (m / 2) q.pt := fun q hq => fl0.2.2.2 _ (List.mem_map.2 ⟨q, hq, rfl⟩)
        have fkr : ∀ q ∈ rk, PT.Fl m (m / 2) q.pt := fun q hq => fr0.2.2.2 _ (List.mem_map.2 ⟨q, hq, rfl⟩)
        have hle2 : dl.its.length ≤ dr.its.length := hle
        have hlr2 : (dl.its.length + 1 = m / 2 ∧ m / 2 ≤ dr.its.length) ∨ (m / 2 ≤ dl.its.length ∧ dr.its.length + 1 = m / 2) := hlr
        have hge2 : m ≤ dl.its.length + dr.its.length := hge
        have hfl' : l'.pt.Fl m (m / 2) := by
          rw [hl2']
          refine fl_inner (by show m / 2 ≤ (dl.its ++ [y]).length; simp; omega) (by show (dl.its ++ [y]).length ≤ m; simp; omega) (by show _ = (dl.its ++ [y]).length + 1; simp; omega) fun q hq => ?_
          obtain ⟨x, hx, rfl⟩ := List.mem_map.1 hq
          rcases List.mem_append.1 hx with h | h
          · exact fkl x h
          · rw [List.mem_singleton.1 h]; exact fkr c hcr
        have hfr' : r'.pt.Fl m (m / 2) := by
          rw [hr2']
          refine fl_inner (by omega) (by omega) (by rw [ec] at hrk; simp at hrk; simp; omega) fun q hq => ?_
          obtain ⟨x, hx, rfl⟩ := List.mem_map.1 hq
          exact fkr x (by rw [ec]; exact List.mem_cons_of_mem _ hx)
        have hlI : l'.pt.items = (GT.pt (h := k + 1) (dl, lk)).items ++ y :: c.pt.items := by
          rw [hl2']
          show inter (dl.its ++ [y]) (((lk ++ [c]).map GT.pt).map PT.items) = inter dl.its ((lk.map GT.pt).map PT.items) ++ _
          rw [List.map_append, List.map_append]
          exact inter_snoc _ _ _ _ (by simp; omega)
        have hr'I : r'.pt.items = inter R ((rk'.map GT.pt).map PT.items) := by rw [hr2']; rfl
        refine (fun M => H t' h M (s.perm ?_)) ?_
        rotate_left
        · refine mended_two rfl ht2 (by omega) (by omega) ht1 gt hab hlm hfl' hfr' (by rw [hrI, hlI, hr'I]; simp) hP ⟨by show ¬ dl.its.length + dr.its.length < m; omega, .inr ⟨by show ¬ dr.its.length < dl.its.length; omega, ?_⟩⟩
          rw [hl2', hr2']
          show ((dl.its ++ [y], lk.map GT.pt ++ (rk.map GT.pt).head?.toList), dr.its.head?.getD y, (dr.its.tail, (rk.map GT.pt).tail)) = ((dl.its ++ [y], (lk ++ [c]).map GT.pt), z, (R, rk'.map GT.pt))
          have hR' : dr.its = z :: R := hR
          rw [hR', ec]; simp
        have e1 := M.2.1
        rw [ht2] at e1
        have e1 : ((PT.items (h := k + 2) (P ++ z :: S, (A ++ l' :: r' :: B).map GT.pt)).length : Int) = cnt := by rw [hcn, e1]; rfl
        have e2 : (A ++ l' :: r' :: B).flatMap (GT.all enc) = A.flatMap (GT.all enc) ++ (l'.all enc ++ (r'.all enc ++ B.flatMap (GT.all enc))) := by rw [List.flatMap_append, List.flatMap_cons, List.flatMap_cons]
        have e3 : (PT.items (h := k + 1) ((GT.nd (h := k + 1) (dl, lk)).its ++ [y], (lk ++ [c]).map GT.pt)).length = (GT.pt (h := k + 1) (dl, lk)).items.length + 1 + c.pt.items.length := by
          have := congrArg List.length hlI
          rw [hl2'] at this
          rw [List.length_append, List.length_cons] at this
          exact this.trans (by omega)
        have e4 : (PT.items (h := k + 1) (R, rk'.map GT.pt)).length = (GT.pt (h := k + 1) (dr, rk)).items.length - 1 - c.pt.items.length := by
          show (inter R ((rk'.map GT.pt).map PT.items)).length = _
          omega
        have e5 : rk.flatMap (GT.all enc) = c.all enc ++ rk'.flatMap (GT.all enc) := by rw [ec, List.flatMap_cons]
        have e6 : (lk ++ [c]).flatMap (GT.all enc) = lk.flatMap (GT.all enc) ++ c.all enc := by rw [List.flatMap_append, List.flatMap_singleton]
        rw [ht4, e1, e2, hl4', hr4', ids_pp, hl1', hr1', e6, e3, e4]
        rw [e5]
        ((apply perm_rg; intro f; simp only [List.set_cons_zero, List.set_cons_succ, List.eraseIdx_cons_zero, List.eraseIdx_cons_succ, List.cons_append, List.nil_append, List.map_append, List.map_cons, List.map_nil, List.sum_append, List.sum_cons, List.sum_nil, List.map_flatMap, Nat.add_zero, Nat.zero_add]; ac_rfl))
end Go.Proofs.Ytgnnidefbeoibaa.Gi
end
section
namespace Go.Proofs.Ytgnnidefbeoibaa.Gi
open Go.Hp Go.Proofs.Ytgnnidefbeoibaa
set_option linter.unusedVariables false
set_option linter.unusedSimpArgs false
set_option maxHeartbeats 4000000
variable {h0 h : Heap} {Z E : List Rg} {Q : Value → Heap → Prop} {lt : It → It → Bool} {lf : Value}
attribute [local irreducible] load1 loadN store1 storeN fld nilck lenV idx arith cmpI notV extr mkSl app cpy slc ifV

theorem rebalance_ok {tb m i lo : Nat} {iso mn : Int} {ctr : Option Addr} (hT0 : (tb, 0, hd0 iso ctr) ∈ Z) (hT4 : (tb, 4, hd4 lf mn m) ∈ Z) (hm3 : 3 ≤ m) (hm1 : m ≤ 1024) (ho : m % 2 = 1) {k : Nat} (t : GT It (k + 1))
    (fx : t.pt.Fx m lo i) (h1 : 1 ≤ t.pt.1.length) (hi : i ≤ t.pt.1.length) (hdef : ∀ c, t.pt.2[i]? = some c → c.its.length + 1 = m / 2)
    (hsz : t.pt.items.length ≤ 4611686018427387903) (g : Gd iso t) (s : St h0 Z (t.all enc ++ E) h)
    (H : ∀ (t' : GT It (k + 1)) h', Mended iso m (if i = t.pt.1.length then i - 1 else i) t t' → St h0 Z (t'.all enc ++ E) h' → Q (.tuple #[]) h') : BTreeG_I_nodeRebalance.call #[ptr tb 0, ptr t.id 0, .int .i64 i] h Q := by
  obtain ⟨f1, f2, f3, f4⟩ := fx
  have hall : ∀ c ∈ t.pt.2, PT.Fl m (m / 2 - 1) c := fun c hc => by
    obtain ⟨j, hj⟩ := List.getElem?_of_mem hc
    have := f4 j c hj
    split at this
    · exact this
    · exact this.mono (by omega)
  refine BTreeG_I_nodeRebalance.body _ _ _ _ _ ?_
  unfold BTreeG_I_nodeRebalance.sh
  have main : ∀ j, j < t.pt.1.length → (j = i ∨ j + 1 = i) → j = (if i = t.pt.1.length then i - 1 else i) → BTreeG_I_nodeRebalance.j1 (ptr tb 0) (ptr t.id 0) (.int .i64 j) h Q := fun j hj hij hje => by
    rw [← hje] at H
    refine rebalance_j hT0 hT4 hm3 hm1 ho t f2 hj hall (fun c c' hc hc' => ?_) (fun q c hc n1 n2 => ?_) hsz g s H
    · rcases hij with e | e
      · subst e
        refine .inl ⟨hdef c hc, ?_⟩
        have := f4 (j + 1) c' hc'
        rw [if_neg (by omega)] at this; exact this
      · refine .inr ⟨?_, hdef c' (e ▸ hc')⟩
        have := f4 j c hc
        rw [if_neg (by omega)] at this; exact this
    · have := f4 q c hc
      rw [if_neg (by omega)] at this; exact this
  have w : Own 2 t.nd.iv t.nd.its.length t.nd.ib t.nd.io (t.nd.its.flatMap enc) t.nd.isp := g.own
  have hil : t.pt.1.length = t.nd.its.length := rfl
  have s2 := s
  rw [all_eq] at s2
  have s := s2
  have s : St h0 Z ((t.id, 0, [.int .u64 t.nd.iso, .int .i64 t.nd.cnt, t.nd.iv, GT.kp t]) :: (t.nd.ib, t.nd.io, t.nd.its.flatMap enc ++ t.nd.isp) :: (GT.rest t ++ E)) h := s
  refine r_nil ?_
  refine r_fld ?_
  refine St.r_load0 s 0 rfl rfl ?_
  refine Own.lenV (by assumption) ?_
  refine r_cmpI ?_
  refine r_if (fun he => ?_) (fun hn => ?_)
  · have he : i = t.nd.its.length := by simp at he; omega
    refine r_sub1 (by omega) (by omega) ?_
    refine main (i - 1) (by omega) (.inr (by omega)) (by rw [if_pos (by omega)])
  · have hn : i ≠ t.nd.its.length := by simp at hn; omega
    exact main i (by omega) (.inl rfl) (by rw [if_neg (by omega)])

end Go.Proofs.Ytgnnidefbeoibaa.Gi
end
section
namespace Go.Proofs.Ytgnnidefbeoibaa.Gi
open Go.Hp Go.Proofs.Ytgnnidefbeoibaa
set_option linter.unusedVariables false
set_option linter.unusedSimpArgs false
set_option maxHeartbeats 4000000
variable {h0 h : Heap} {Z E : List Rg} {Q : Value → Heap → Prop} {lt : It → It → Bool} {lf : Value}
attribute [local irreducible] load1 loadN store1 storeN fld nilck lenV idx arith cmpI notV extr mkSl app cpy slc ifV

/-- How high a tree is. -/
def rH : Rt → Nat
  | none => 0
  | some t => t.1 + 1
theorem lock_ok {tb : Nat} {b : Bool} (H : Q (.bool false) h) : BTreeG_I_lock.call #[ptr tb 0, .bool b] h Q := by
  refine BTreeG_I_lock.body _ _ _ _ ?_
  unfold BTreeG_I_lock.sh
  exact H
end Go.Proofs.Ytgnnidefbeoibaa.Gi
end
section
namespace Go.Proofs.Ytgnnidefbeoibaa.Gi
open Go.Hp Go.Proofs.Ytgnnidefbeoibaa
set_option linter.unusedVariables false
set_option linter.unusedSimpArgs false
variable {h0 h : Heap} {Z E : List Rg} {Q : Value → Heap → Prop} {lt : It → It → Bool} {lf : Value}

theorem allZ_leaf {d : Nd It} (hz : ∀ r ∈ GT.all enc (h := 0) d, r ∈ Z) : (d.n, 0, [.int .u64 d.iso, .int .i64 d.cnt, d.iv, .pointer none]) ∈ Z ∧ (d.ib, d.io, d.its.flatMap enc ++ d.isp) ∈ Z := by
  have hz : ∀ r ∈ d.leaf enc, r ∈ Z := hz
  exact ⟨hz _ (List.mem_cons_self ..), hz _ (List.mem_cons_of_mem _ (List.mem_cons_self ..))⟩
theorem allZ_inner {k : Nat} {d : Nd It} {ts : List (GT It k)} (hz : ∀ r ∈ GT.all enc (h := k + 1) (d, ts), r ∈ Z) :
    (d.n, 0, [.int .u64 d.iso, .int .i64 d.cnt, d.iv, ptr d.kb 0]) ∈ Z ∧ (d.ib, d.io, d.its.flatMap enc ++ d.isp) ∈ Z ∧ (d.kb, 0, [d.kv]) ∈ Z ∧ (d.krb, d.kro, (ts.map GT.id).flatMap fp ++ d.ksp) ∈ Z ∧ ∀ c ∈ ts, ∀ r ∈ c.all enc, r ∈ Z := by
  have hz : ∀ r ∈ d.inner enc (ts.map GT.id) ++ ts.flatMap (GT.all enc), r ∈ Z := hz
  have h1 : ∀ r ∈ d.inner enc (ts.map GT.id), r ∈ Z := fun r hr => hz r (List.mem_append.2 (.inl hr))
  refine ⟨h1 _ (List.mem_cons_self ..), h1 _ (List.mem_cons_of_mem _ (List.mem_cons_self ..)), h1 _ (List.mem_cons_of_mem _ (List.mem_cons_of_mem _ (List.mem_cons_self ..))), ?_, fun c hc r hr => hz r (List.mem_append.2 (.inr (List.mem_flatMap.2 ⟨c, hc, hr⟩)))⟩
  have := h1 _ (List.mem_cons_of_mem _ (List.mem_cons_of_mem _ (List.mem_cons_of_mem _ (List.mem_cons_self ..))))
  rw [mfp] at this; exact this
/-- The kid's cell. -/
theorem kidcell {k : Nat} {ts : List (GT It k)} {krb kro i : Nat} {ksp : List Value} {c : GT It k} (hk : (krb, kro, (ts.map GT.id).flatMap fp ++ ksp) ∈ Z) (hc : ts[i]? = some c) (s : St h0 Z E h) : cl h krb (kro + i * 1) = some (ptr c.id 0) := by
  have hi : i < (ts.map GT.id).length := by rw [List.length_map]; exact (List.getElem?_eq_some_iff.1 hc).1
  refine s.clz hk (i * 1) rfl ?_
  rw [List.getElem?_append_left (by rw [flat_len fpl]; omega)]
  have := flat_get (f := fp) fpl (ts.map GT.id) i hi 0 (by decide)
  rw [Nat.add_zero] at this
  rw [this]
  have e : (ts.map GT.id)[i] = c.id := by
    have : (ts.map GT.id)[i]? = some c.id := by rw [List.getElem?_map, hc]; rfl
    exact (List.getElem?_eq_some_iff.1 this).2
  rw [e]; rfl

/-- The tree's own cell of its number stays. -/
def Iso (Z : List Rg) (tb : Nat) (iso : Int) : Prop := ∃ xs, (tb, 0, xs) ∈ Z ∧ xs[0]? = some (.int .u64 iso)
theorem Iso.at {tb : Nat} {iso : Int} (i : Iso Z tb iso) (s : St h0 Z E h) : cl h tb 0 = some (.int .u64 iso) := by
  obtain ⟨xs, h1, h2⟩ := i; exact s.clz h1 0 rfl h2
theorem nodeItems_ok {m tb : Nat} {iso : Int} (hm : m ≤ 1024) (hi : Iso Z tb iso) : ∀ {k : Nat} (t : GT It k) {lo : Nat} (g : Gd iso t) (fl : t.pt.Fl m lo) (hz : ∀ r ∈ t.all enc, r ∈ Z) {L : List It} {v : Value} {b o pb po : Nat} {sp : List Value} {E : List Rg} {h : Heap} {Q : Value → Heap → Prop},
    L.length + t.pt.items.length ≤ 4294967295 → cl h pb po = some (ptr t.id 0) → Own 2 v L.length b o (L.flatMap enc) sp → St h0 Z ((b, o, L.flatMap enc ++ sp) :: E) h →
    (∀ v' b' o' sp' h', Own 2 v' (L ++ t.pt.items).length b' o' ((L ++ t.pt.items).flatMap enc) sp' → St h0 Z ((b', o', (L ++ t.pt.items).flatMap enc ++ sp') :: E) h' → Q v' h') → BTreeG_I_nodeItems.call #[ptr tb 0, ptr pb po, v, .bool false] h Q
  | 0, (d : Nd It), lo, g, fl, hz, L, v, b, o, pb, po, sp, E, h, Q, hN, hp, wv, s, H => by
    obtain ⟨own, n, is', cnt, its, iv, ib, io, isp, kb, kv', krb, kro, ksp⟩ := d
    obtain ⟨z1, z2⟩ := allZ_leaf hz
    have w : Own 2 iv its.length ib io (its.flatMap enc) isp := g.wf.1
    have hl : its.length ≤ m := fl.2
    have hN : L.length + its.length ≤ 4294967295 := hN
    have H : ∀ v' b' o' sp' h', Own 2 v' (L ++ its).length b' o' ((L ++ its).flatMap enc) sp' → St h0 Z ((b', o', (L ++ its).flatMap enc ++ sp') :: E) h' → Q v' h' := H
    refine BTreeG_I_nodeItems.body _ _ _ _ _ _ ?_
    unfold BTreeG_I_nodeItems.sh
    refine isoLoad_ok (n := n) (hi.at s) hp (fun e => by cases e) ?_
    refine node_leaf_ok (a := none) (s.clz z1 3 rfl rfl) ?_
    refine r_if (fun _ => ?_) (fun e => absurd e (by simp))
    refine r_nil ?_
    refine r_fld ?_
    refine s.r_lz0 z1 (j := 2) rfl ?_
    refine s.r_appL (f := enc) (L := L) (M := its) 0 rfl wv rfl (w.rdlO (s.z _ z2)) (fun _ _ => enc1 _) (by omega) (by omega) fun v' b' o' sp' h s w' => ?_
    exact H v' b' o' sp' h w' s
  | k + 1, t, lo, g, fl, hz, L, v, b, o, pb, po, sp, E, h, Q, hN, hp, wv, s, H => by
    obtain ⟨d, ts⟩ := t
    obtain ⟨own, n, is', cnt, its, iv, ib, io, isp, kb, kv', krb, kro, ksp⟩ := d
    obtain ⟨z1, z2, z3, z4, z5⟩ := allZ_inner hz
    have w : Own 2 iv its.length ib io (its.flatMap enc) isp := g.wf.1.1
    have wK : Own 1 kv' ts.length krb kro ((ts.map GT.id).map fun m => ptr m 0) ksp := g.wf.2.1
    have hkl : ts.length = its.length + 1 := g.wf.2.2.1
    have hl : its.length ≤ m := fl.2.1
    have hpl : ∀ i, ((ts.take i).map fun t => t.pt.items) = (((ts.map GT.pt).take i).map PT.items) := fun i => by rw [← List.map_take, List.map_map]; rfl
    have hsplit : ∀ i (hi : i ≤ its.length) c, ts[i]? = some c → PT.items (h := k + 1) (its, ts.map GT.pt) = lz (its.take i) ((ts.take i).map fun t => t.pt.items) ++ (c.pt.items ++ rz (its.drop i) (((ts.map GT.pt).drop (i + 1)).map PT.items)) := by
      intro i hi c hc
      obtain ⟨c', hc', _, e⟩ := PT.around (t := ((its, ts.map GT.pt) : PT It (k + 1))) fl hi
      have hc' : (ts.map GT.pt)[i]? = some c' := hc'
      rw [List.getElem?_map, hc] at hc'
      have : c' = c.pt := (Option.some.inj hc').symm
      subst this
      rw [hpl]; exact e
    have hN : L.length + (PT.items (h := k + 1) (its, ts.map GT.pt)).length ≤ 4294967295 := hN
    have H : ∀ v' b' o' sp' h', Own 2 v' (L ++ PT.items (h := k + 1) (its, ts.map GT.pt)).length b' o' ((L ++ PT.items (h := k + 1) (its, ts.map GT.pt)).flatMap enc) sp' → St h0 Z ((b', o', (L ++ PT.items (h := k + 1) (its, ts.map GT.pt)).flatMap enc ++ sp') :: E) h' → Q v' h' := H
    refine BTreeG_I_nodeItems.body _ _ _ _ _ _ ?_
    unfold BTreeG_I_nodeItems.sh
    refine isoLoad_ok (n := n) (hi.at s) hp (fun e => by cases e) ?_
    refine node_leaf_ok (a := some ⟨kb, 0, Option.none⟩) (s.clz z1 3 rfl rfl) ?_
    refine r_if (fun e => absurd e (by simp)) (fun _ => ?_)
    unfold BTreeG_I_nodeItems.j1
    refine loop_ghost (fun q st h => ∃ j v b o sp, q = its.length - j ∧ j ≤ its.length ∧ st = [v, .int .i64 (j : Nat)] ∧ Own 2 v (L ++ lz (its.take j) ((ts.take j).map fun t => t.pt.items)).length b o ((L ++ lz (its.take j) ((ts.take j).map fun t => t.pt.items)).flatMap enc) sp ∧ St h0 Z ((b, o, (L ++ lz (its.take j) ((ts.take j).map fun t => t.pt.items)).flatMap enc ++ sp) :: E) h)
      (n0 := its.length) ⟨0, v, b, o, sp, rfl, Nat.zero_le _, rfl, by simpa [lz] using wv, by simpa [lz] using s⟩ ?_
    clear s
    rintro q st h ⟨j, v, b, o, sp, rfl, hj, rfl, wv, s⟩ K HK
    obtain ⟨c, hc⟩ : ∃ c, ts[j]? = some c := ⟨ts[j]'(by omega), List.getElem?_eq_getElem (by omega)⟩
    have hcm := List.mem_of_getElem? hc
    have hfc : PT.Fl m (m / 2) c.pt := fl.2.2.2 _ (List.mem_map.2 ⟨c, hcm, rfl⟩)
    have hs := hsplit j hj c hc
    have hsl := congrArg List.length hs
    simp only [List.length_append] at hsl
    unfold BTreeG_I_nodeItems.l3.b
    refine r_nil ?_
    refine r_fld ?_
    refine s.r_lz0 z1 (j := 2) rfl ?_
    refine w.lenV ?_
    refine r_cmpI ?_
    refine r_if (fun hlt => ?_) (fun hge => ?_)
    · have hlt : j < its.length := by simpa using hlt
      have hx : its[j]? = some its[j] := List.getElem?_eq_getElem hlt
      have et : its.take (j + 1) = its.take j ++ [its[j]] := List.take_succ_eq_append_getElem hlt
      have ek : ts.take (j + 1) = ts.take j ++ [c] := by rw [List.take_add_one, hc]; rfl
      have ez : lz (its.take (j + 1)) ((ts.take (j + 1)).map fun t => t.pt.items) = lz (its.take j) ((ts.take j).map fun t => t.pt.items) ++ (c.pt.items ++ [its[j]]) := by
        rw [et, ek, List.map_append, List.map_cons, List.map_nil, lz_snoc _ _ _ _ (by simp; omega)]
      obtain ⟨rest, hrest⟩ : ∃ rest, rz (its.drop j) (((ts.map GT.pt).drop (j + 1)).map PT.items) = its[j] :: rest := by
        have e1 : its.drop j = its[j] :: its.drop (j + 1) := List.drop_eq_getElem_cons hlt
        have e2 : (ts.map GT.pt).drop (j + 1) = (ts.map GT.pt)[j + 1]'(by simp; omega) :: (ts.map GT.pt).drop (j + 1 + 1) := List.drop_eq_getElem_cons (by simp; omega)
        rw [e1, e2, List.map_cons, rz_cons]; exact ⟨_, rfl⟩
      rw [hrest, List.length_cons] at hsl
      unfold BTreeG_I_nodeItems.j4
      refine r_nil ?_
      refine r_fld ?_
      refine s.r_lz0 z1 (j := 3) rfl ?_
      refine r_nil ?_
      refine s.r_lz0 z3 (j := 0) rfl ?_
      refine wK.idx (n := j) rfl (by omega) ?_
      refine nodeItems_ok hm hi c (g.kid hcm) hfc (z5 c hcm) (by rw [List.length_append]; omega) (kidcell z4 hc s) wv s fun v2 b2 o2 sp2 h s2 s => ?_
      refine r_nil ?_
      refine r_fld ?_
      refine s.r_lz0 z1 (j := 2) rfl ?_
      refine w.idx (n := j) rfl hlt ?_
      refine s.r_loadFZ encl z2 hx ?_
      refine St.r_mkSl (sz := 2) (cs := enc its[j]) s (by ((simp only [fillV, fill1, Value.cells, zeros_succ, zeros_zero, List.size_toArray, List.length_cons, List.length_nil, List.length_append, List.take_succ_cons, List.take_zero, List.take_nil, List.drop_succ_cons, List.drop_zero, List.drop_nil, List.cons_append, List.nil_append, List.append_nil, Nat.reduceAdd, Nat.reduceMul, Nat.reduceLeDiff, Nat.reduceEqDiff, and_self, and_true, true_and, if_true, Nat.le_refl, Nat.zero_add, Nat.add_zero, Nat.zero_mul, reduceIte, if_false] <;> rfl))) rfl fun q h s w1 => ?_
      refine St.r_app s 1 (sz := 2) (n := 1) (new := enc its[j]) rfl s2 rfl (w1.rdl s 0 rfl) (enc1 _) (by simp only [List.length_append]; omega) (by simp only [List.length_append]; omega) fun v' b' o' sp' h s w' => ?_
      rw [snoc_enc] at s w'
      have e9 : (L ++ lz (its.take j) ((ts.take j).map fun t => t.pt.items) ++ c.pt.items) ++ [its[j]] = L ++ lz (its.take (j + 1)) ((ts.take (j + 1)).map fun t => t.pt.items) := by
        rw [ez]; simp
      have w' : Own 2 v' ((L ++ lz (its.take j) ((ts.take j).map fun t => t.pt.items) ++ c.pt.items) ++ [its[j]]).length b' o' (((L ++ lz (its.take j) ((ts.take j).map fun t => t.pt.items) ++ c.pt.items) ++ [its[j]]).flatMap enc) sp' := by rw [List.length_append]; exact w'
      rw [e9] at s w'
      unfold BTreeG_I_nodeItems.j5
      refine r_add (z := ((j + 1 : Nat) : Int)) (by rw [i64w (by omega) (by omega)]; omega) ?_
      exact HK (its.length - (j + 1)) _ _ (by omega) ⟨j + 1, v', b', o', sp', rfl, hlt, rfl, w', s.drop 1⟩
    · have hge : j = its.length := by simp at hge; omega
      subst hge
      have hr0 : rz (its.drop its.length) (((ts.map GT.pt).drop (its.length + 1)).map PT.items) = [] := by rw [List.drop_length]; rfl
      rw [hr0, List.append_nil] at hs
      unfold BTreeG_I_nodeItems.j2
      refine r_nil ?_
      refine r_fld ?_
      refine s.r_lz0 z1 (j := 3) rfl ?_
      refine r_nil ?_
      refine s.r_lz0 z3 (j := 0) rfl ?_
      refine r_nil ?_
      refine r_fld ?_
      refine s.r_lz0 z1 (j := 3) rfl ?_
      refine r_nil ?_
      refine s.r_lz0 z3 (j := 0) rfl ?_
      refine wK.lenV ?_
      refine r_sub (z := ((its.length : Nat) : Int)) (by rw [i64w (by omega) (by omega)]; omega) ?_
      refine wK.idx (n := its.length) rfl (by omega) ?_
      refine nodeItems_ok hm hi c (g.kid hcm) hfc (z5 c hcm) (by rw [List.length_append]; omega) (kidcell z4 hc s) wv s fun v2 b2 o2 sp2 h s2 s => ?_
      have e9 : L ++ lz (its.take its.length) ((ts.take its.length).map fun t => t.pt.items) ++ c.pt.items = L ++ PT.items (h := k + 1) (its, ts.map GT.pt) := by rw [hs]; simp
      rw [e9] at s s2
      exact H v2 b2 o2 sp2 h s2 s

theorem Items_ok {g : Rt} {tb m : Nat} {iso mn mx : Int} {ctr : Option Addr} (M : TreeOk lt m iso g) (hl : (rPt g).items.length ≤ 4294967295) (s : St h0 Z (((tb, 0, hdr iso ctr (rA g) (rPt g).items.length lf mn mx) :: rAll g) ++ E) h)
    (H : ∀ v b o sp h', Own 2 v (rPt g).items.length b o ((rPt g).items.flatMap enc) sp → St h0 Z ((b, o, (rPt g).items.flatMap enc ++ sp) :: (((tb, 0, hdr iso ctr (rA g) (rPt g).items.length lf mn mx) :: rAll g) ++ E)) h' → Q v h') :
    BTreeG_I_Items.call #[ptr tb 0] h Q := by
  refine BTreeG_I_Items.body _ _ _ ?_
  unfold BTreeG_I_Items.sh
  refine BTreeG_I_items.body _ _ _ _ ?_
  unfold BTreeG_I_items.sh
  refine lock_ok ?_
  refine r_if (fun e => absurd e (by simp)) (fun _ => ?_)
  unfold BTreeG_I_items.j1
  refine BTreeG_I_Len.body _ _ _ ?_
  unfold BTreeG_I_Len.sh
  have s : St h0 Z ((tb, 0, hdr iso ctr (rA g) (rPt g).items.length lf mn mx) :: (rAll g ++ E)) h := s
  refine r_nil ?_
  refine r_fld ?_
  refine St.r_load0 s 0 rfl rfl ?_
  refine s.r_mks (n := 0) (sz := 2) rfl (by omega) (by omega) (by omega) fun v b h s w => ?_
  rw [zeros_zero] at s w
  refine r_nil ?_
  refine r_fld ?_
  refine St.r_load0 s 1 rfl rfl ?_
  refine r_neNilP ?_
  cases g with
  | none =>
    refine r_if (fun e => absurd e (by simp [rA])) (fun _ => ?_)
    unfold BTreeG_I_items.j2
    exact H _ b 0 _ h w s
  | some t =>
    refine r_if (fun _ => ?_) (fun e => absurd e (by simp [rA]))
    refine r_nil ?_
    refine r_fld ?_
    have s0 : St h0 Z (((tb, 0, hdr iso ctr (rA (some t)) (rPt (some t)).items.length lf mn mx) :: rAll (some t)) ++ ((b, 0, ([] : List It).flatMap enc ++ zeros [.int .i64 0, .int .i64 0] ((rPt (some t)).items.length - 0)) :: E)) h := s.perm (by ((apply perm_rg; intro f; simp only [List.set_cons_zero, List.set_cons_succ, List.eraseIdx_cons_zero, List.eraseIdx_cons_succ, List.cons_append, List.nil_append, List.map_append, List.map_cons, List.map_nil, List.sum_append, List.sum_cons, List.sum_nil, List.map_flatMap, Nat.add_zero, Nat.zero_add]; ac_rfl)))
    obtain ⟨s1, back⟩ := s0.borrow
    refine nodeItems_ok M.m1 ⟨_, List.mem_cons_self .., rfl⟩ t.2 M.gd M.fl (fun r hr => List.mem_append.2 (.inl (List.mem_cons_of_mem _ hr))) (L := []) (by rw [List.length_nil, Nat.zero_add]; exact hl) (s1.clz (List.mem_cons_self ..) 2 rfl rfl) w s1 fun v' b' o' sp' h' w' s => ?_
    have s := back _ h' s
    unfold BTreeG_I_items.j2
    exact H v' b' o' sp' h' w' (s.perm (by ((apply perm_rg; intro f; simp only [List.set_cons_zero, List.set_cons_succ, List.eraseIdx_cons_zero, List.eraseIdx_cons_succ, List.cons_append, List.nil_append, List.map_append, List.map_cons, List.map_nil, List.sum_append, List.sum_cons, List.sum_nil, List.map_flatMap, Nat.add_zero, Nat.zero_add]; ac_rfl))))
theorem Len_ok {tb : Nat} {v : Value} (hv : cl h tb 3 = some v) (H : Q v h) : BTreeG_I_Len.call #[ptr tb 0] h Q := by
  refine BTreeG_I_Len.body _ _ _ ?_
  unfold BTreeG_I_Len.sh
  have s := St.start h
  refine r_nil ?_
  refine r_fld ?_
  refine s.r_loadB hv ?_
  exact H
end Go.Proofs.Ytgnnidefbeoibaa.Gi
end
section
namespace Go.Proofs.Ytgnnidefbeoibaa.Gi
open Go.Hp Go.Proofs.Ytgnnidefbeoibaa
set_option linter.unusedVariables false
set_option linter.unusedSimpArgs false
variable {h0 h : Heap} {Z E : List Rg} {Q : Value → Heap → Prop} {lt : It → It → Bool} {lf : Value}

theorem Height_some {k : Nat} {t : GT It k} {tb : Nat} (hr : cl h tb 2 = some (ptr t.id 0)) (ht : t.At enc 2 h) (hk : k ≤ 1000000000) (H : Q (.int .i64 ((k + 1 : Nat) : Int)) h) : BTreeG_I_Height.call #[ptr tb 0] h Q := by
  refine BTreeG_I_Height.body _ _ _ ?_
  unfold BTreeG_I_Height.sh
  refine lock_ok ?_
  refine r_if (fun e => absurd e (by simp)) (fun _ => ?_)
  unfold BTreeG_I_Height.j1
  have s := St.start h
  refine r_nil ?_
  refine r_fld ?_
  refine s.r_loadB hr ?_
  refine r_neNilP ?_
  refine r_if (fun _ => ?_) (fun e => absurd e (by simp))
  refine r_nil ?_
  refine r_fld ?_
  refine s.r_loadB hr ?_
  refine loop_intro (fun l h' => h' = h ∧ ∃ (j : Nat) (t' : GT It j), j ≤ k ∧ t'.At enc 2 h ∧ l = [.int .i64 ((k - j : Nat) : Int), ptr t'.id 0]) (fun l _ => k - (Hp.iv (l.getD 0 undef)).toNat) ⟨rfl, k, t, Nat.le_refl _, ht, by simp⟩ ?_
  rintro l h' ⟨rfl, j, t', hj, ht', rfl⟩
  unfold BTreeG_I_Height.l3.b
  refine r_add (z := ((k - j + 1 : Nat) : Int)) (by rw [i64w (by omega) (by omega)]; omega) ?_
  cases j with
  | zero =>
    refine node_leaf_ok (a := none) ht'.2 ?_
    refine r_if (fun _ => ?_) (fun e => absurd e (by simp))
    exact H
  | succ j =>
    refine node_leaf_ok (a := some ⟨t'.1.kb, 0, none⟩) ht'.2.1 ?_
    refine r_if (fun e => absurd e (by simp)) (fun _ => ?_)
    unfold BTreeG_I_Height.j4
    refine r_nil ?_
    refine r_fld ?_
    refine s.r_loadB ht'.2.1 ?_
    refine r_nil ?_
    refine s.r_loadB ht'.2.2.1 ?_
    have hl : 0 < t'.2.length := by have := ht'.2.2.2.2.1; omega
    refine ht'.2.2.2.1.at1 rfl hl fun b o hb => ?_
    refine hb.load0 rfl ?_
    exact ⟨⟨rfl, j, t'.2[0], by omega, ht'.2.2.2.2.2 _ (List.getElem_mem hl), by simp; omega⟩, by simp; omega⟩
theorem Height_ok {g : Rt} {tb m : Nat} {iso mn mx : Int} {ctr : Option Addr} (M : TreeOk lt m iso g) (s : St h0 Z ((tb, 0, hdr iso ctr (rA g) (rPt g).items.length lf mn mx) :: (rAll g ++ E)) h) (hh : rH g ≤ 1000000000)
    (H : Q (.int .i64 (rH g)) h) : BTreeG_I_Height.call #[ptr tb 0] h Q := by
  cases g with
  | none =>
    refine BTreeG_I_Height.body _ _ _ ?_
    unfold BTreeG_I_Height.sh
    refine lock_ok ?_
    refine r_if (fun e => absurd e (by simp)) (fun _ => ?_)
    unfold BTreeG_I_Height.j1
    refine r_nil ?_
    refine r_fld ?_
    refine St.r_load0 s 0 rfl rfl ?_
    refine r_neNilP ?_
    refine r_if (fun e => absurd e (by simp [rA])) (fun _ => ?_)
    exact H
  | some t =>
    exact Height_some (t := t.2) (s.get (k := 0) (j := 2) rfl (by simp)) (GT.At.of M.gd.wf fun r hr => (s.e r (List.mem_cons_of_mem _ (List.mem_append_left _ hr))).1) (by have : t.1 + 1 ≤ _ := hh; omega) H
end Go.Proofs.Ytgnnidefbeoibaa.Gi
end
section
namespace Go.Proofs.Ytgnnidefbeoibaa.Gi
open Go.Hp Go.Proofs.Ytgnnidefbeoibaa
set_option linter.unusedVariables false
set_option linter.unusedSimpArgs false
section
variable {h0 h : Heap} {Z E : List Rg} {Q : Value → Heap → Prop} {lt : It → It → Bool} {lf : Value} {ow : List Int} {ov : Value}
structure OwAt (h : Heap) (ow : List Int) (ov : Value) : Prop where
  rd : Rdl 1 h ov ow.length (ow.flatMap fi)
  le : ow.length ≤ 2147483647
theorem OwAt.st {h' : Heap} {E' : List Rg} (o : OwAt h ow ov) (s : St h [] E' h') : OwAt h' ow ov := ⟨o.rd.st s, o.le⟩
theorem OwAt.fr {h' : Heap} (o : OwAt h ow ov) (s : Fr (fun _ _ => False) h h') : OwAt h' ow ov := ⟨o.rd.fr s (fun _ _ e => e), o.le⟩
theorem OwAt.nil (h : Heap) : OwAt h [] (.slice none 0 0) := ⟨Rdl.nil 1 h, by decide⟩
theorem OwAt.one (o : OwAt h ow ov) : one1 ov = true := o.rd.one
end
variable {h0 h : Heap} {Z E : List Rg} {Q : Value → Heap → Prop} {lt : It → It → Bool} {lf : Value}
theorem join2 {r : Rg} {E' : List Rg} {h' : Heap} (s : St h0 Z E h) (k : St h [] (r :: E') h') : St h0 Z (r :: (E' ++ E)) h' := s.join k
theorem one3 {a b c : Value} (h1 : one1 a = true) (h2 : one1 b = true) (h3 : one1 c = true) : ∀ y ∈ [a, b, c], one1 y = true := by
  intro y hy
  simp only [List.mem_cons, List.not_mem_nil, or_false] at hy
  rcases hy with rfl | rfl | rfl <;> assumption

theorem options_ok {ov : Value} {d : Int} {nl : Bool} (h1 : one1 ov = true) (H : ∀ E' h', St h [] E' h' → Q (.agg #[.int .i64 d, .bool nl]) h') : i_options.call #[.agg #[ov, .int .i64 d, .bool nl]] h Q := by
  refine i_options.body _ _ _ ?_
  unfold i_options.sh
  have s := St.start h
  refine St.r_box (cs := [ov, .int .i64 d, .bool nl]) s fun t1 h s => ?_
  refine s.r_alloc fun t2 h s => ?_
  refine r_fld ?_
  refine St.r_load0 s 1 rfl rfl ?_
  refine r_fld ?_
  refine St.r_load0 s 1 rfl rfl ?_
  ((apply r_build; ((simp only [fillV, fill1, Value.cells, zeros_succ, zeros_zero, List.size_toArray, List.length_cons, List.length_nil, List.length_append, List.take_succ_cons, List.take_zero, List.take_nil, List.drop_succ_cons, List.drop_zero, List.drop_nil, List.cons_append, List.nil_append, List.append_nil, Nat.reduceAdd, Nat.reduceMul, Nat.reduceLeDiff, Nat.reduceEqDiff, and_self, and_true, true_and, if_true, Nat.le_refl, Nat.zero_add, Nat.add_zero, Nat.zero_mul, reduceIte, if_false] <;> rfl))))
  (refine St.r_storeN0 s 0 rfl rfl (by simp) (by simp [one1]) ?_; intro h s; try simp only [List.set_cons_zero, List.set_cons_succ] at s)
  refine St.r_loadN0 s 0 rfl (by simp) ?_
  exact H _ _ s
/-- A tree of an order given by numbers, with its own order and what the order hangs on. -/
structure Tr (b : Heap) (Z : List Rg) (ow : List Int) (d : Nat) (tb : Nat) (g : Rt) (A E : List Rg) (lf : Value) (cb : Nat) (h : Heap) : Prop where
  ord : OrdA A lf (ltO ow)
  ok : TreeOk (ltO ow) (dmax d) 1 g
  st : St b Z ((tb, 0, hdr 1 (some ⟨cb, 0, none⟩) (rA g) (rPt g).items.length lf (dmin d : Nat) (dmax d : Nat)) :: (rAll g ++ (A ++ E))) h
/-- Growing a tree of no items. -/
theorem grow_nil {ow : List Int} {ov : Value} {d : Nat} {nl : Bool} (ho : OwAt h ow ov) (hd : d = 0 ∨ 2 ≤ d) (hd2 : d ≤ 512)
    (H : ∀ tb lf cb A E' h', Tr h [] ow d tb none A E' lf cb h' → Q (ptr tb 0) h') : i_grow.call #[.agg #[ov, .int .i64 d, .bool nl], .slice none 0 0] h Q := by
  obtain ⟨m3, m1, mo, _, _⟩ := dmax_ok hd hd2
  refine i_grow.body _ _ _ _ ?_
  unfold i_grow.sh
  have s := St.start h
  refine St.r_box (cs := [ov, .int .i64 d, .bool nl]) s fun t2 h1 s => ?_
  refine r_fld ?_
  refine St.r_load0 s 0 rfl rfl ?_
  refine St.r_loadN0 s 0 rfl (by simp) ?_
  refine before_ok (ho.st s).rd ho.le fun lf A E1 h1 hA s1 => ?_
  have s := (s.join s1).perm List.perm_append_comm
  refine ⟨St.r_stillN0 s 0 (j := 0) rfl (by simp) rfl, ?_⟩
  refine options_ok ho.one fun E2 h1 s2 => ?_
  have s := (s.join s2).perm List.perm_append_comm
  refine New_ok s hd hd2 ((hA A fun _ h => h).one) fun tb cb h1 s => ?_
  refine r_len ?_
  refine loop_ghost (fun q st h' => q = 0 ∧ st = [.int .i64 0] ∧ h' = h1) (n0 := 0) ⟨rfl, rfl, rfl⟩ ?_
  rintro q st _ ⟨rfl, rfl, rfl⟩ K HK
  unfold i_grow.l2.b
  refine r_cmpI ?_
  refine r_if (fun e => absurd e (by decide)) (fun _ => ?_)
  unfold i_grow.j1
  refine H tb lf cb A ((cb, 0, [.int .u64 1]) :: (t2, 0, [ov, .int .i64 d, .bool nl]) :: (E1 ++ E2)) _ ⟨hA, TreeOk.none m3 m1 mo, ?_⟩
  exact s.perm (by simp only [rAll]; ((apply perm_rg; intro f; simp only [List.set_cons_zero, List.set_cons_succ, List.eraseIdx_cons_zero, List.eraseIdx_cons_succ, List.cons_append, List.nil_append, List.map_append, List.map_cons, List.map_nil, List.sum_append, List.sum_cons, List.sum_nil, List.map_flatMap, Nat.add_zero, Nat.zero_add]; ac_rfl)))
/-- How the trees of these laws are made. -/
abbrev mk (d : Nat) : Value := .agg #[.slice none 0 0, .int .i64 d, .bool true]
theorem Fits_ok {d : Int} (H : Q (.bool (decide (d = 0 ∨ (2 ≤ d ∧ d ≤ 128)))) h) : s_Fits.call #[.int .i64 d] h Q := by
  refine s_Fits.body _ _ _ ?_
  unfold s_Fits.sh
  refine r_cmpI ?_
  refine r_br (fun e => ?_) (fun e => ?_)
  · have e : d ≠ 0 := by simpa using e
    refine r_cmpI ?_
    refine r_br (fun e2 => ?_) (fun e2 => ?_)
    · have e2 : 2 ≤ d := by simpa using e2
      refine r_cmpI ?_
      rwa [show decide (d = 0 ∨ (2 ≤ d ∧ d ≤ 128)) = decide (d ≤ 128) by simp [e, e2]] at H
    · have e2 : ¬ 2 ≤ d := by simpa using e2
      rwa [show decide (d = 0 ∨ (2 ≤ d ∧ d ≤ 128)) = false by simp [e, e2]] at H
  · have e : d = 0 := by simpa using e
    rwa [show decide (d = 0 ∨ (2 ≤ d ∧ d ≤ 128)) = true by simp [e]] at H
theorem exMake_ok (H : ∀ E' h', St h [] E' h' → Q (.agg #[.slice none 0 0, .int .i64 2, .bool false]) h') : l_exMake.call #[] h Q := by
  refine l_exMake.body _ _ ?_
  unfold l_exMake.sh
  have s := St.start h
  refine s.r_alloc fun t0 h s => ?_
  ((apply r_build; ((simp only [fillV, fill1, Value.cells, zeros_succ, zeros_zero, List.size_toArray, List.length_cons, List.length_nil, List.length_append, List.take_succ_cons, List.take_zero, List.take_nil, List.drop_succ_cons, List.drop_zero, List.drop_nil, List.cons_append, List.nil_append, List.append_nil, Nat.reduceAdd, Nat.reduceMul, Nat.reduceLeDiff, Nat.reduceEqDiff, and_self, and_true, true_and, if_true, Nat.le_refl, Nat.zero_add, Nat.add_zero, Nat.zero_mul, reduceIte, if_false] <;> rfl))))
  (refine St.r_storeN0 s 0 rfl rfl (by simp) (by simp [one1]) ?_; intro h s; try simp only [List.set_cons_zero, List.set_cons_succ] at s)
  refine St.r_loadN0 s 0 rfl (by simp) ?_
  exact H _ _ s
end Go.Proofs.Ytgnnidefbeoibaa.Gi
end
