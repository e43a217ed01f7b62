import PyProof.Rows.All
import Wide.All
import OpenK.AllK
import Wide.FinOn
import Lean
import PySem.Challenge.RW_ty0059_01
set_option Elab.async false
set_option linter.all false
set_option bootstrap.genMatcherCode false
set_option compiler.extract_closed false
set_option genSizeOf false
set_option genInjectivity false
noncomputable section
open PySem.Str renaming ofString → aa
open Nat renaming add_assoc → bP, add_comm → cS, add_le_add → dj, add_le_add_left → bY, add_le_add_right → cF, add_right_comm → cH, add_sub_cancel_left → dH, add_sub_of_le → da, beq → cq, div_add_mod → ek, div_eq_of_lt → dP, le_add_left → ar, le_add_right → aA, le_of_eq → bk, le_of_lt → bz, le_of_lt_succ → dJ, le_refl → bL, le_succ → eE, le_trans → af, lt_of_le_of_lt → az, lt_of_lt_of_eq → eR, lt_of_lt_of_le → aK, lt_or_ge → bS, lt_succ_self → bZ, lt_trans → eY, mod_eq_of_lt → eF, mod_lt → eN, mul_add → d7, mul_assoc → eD, mul_comm → bx, mul_le_mul → fk, mul_le_mul_left → bt, mul_le_mul_right → cX, mul_one → eC, not_lt → eM, pow_add → d6, pow_le_pow_right → aY, pow_lt_pow_right → cp, pow_succ → cC, sub_add_cancel → dW, sub_le → eK, succ_le_succ → aw, succ_pos → br, two_pow_pos → dp, zero_add → cR, zero_le → bK
open List renaming all_eq_true → bh, append_assoc → bo, cons_append → cY, filter_cons → dA, flatMap_cons → cP, foldl_cons → bH, forIn_cons → eX, getD_eq_getElem?_getD → bW, getElem?_append_left → cn, getElem?_append_right → bM, getElem?_eq_getElem → aR, getElem?_eq_none → bj, getElem?_map → aW, isEmpty_iff → fo, isPrefixOf_iff_prefix → dN, length_append → ak, length_cons → ah, length_eq_zero_iff → bX, length_filter_le → dR, length_map → ag, length_nil → aE, length_replicate → bG, length_set → dn, lookup_cons → fm, map_append → aZ, map_congr_left → bQ, map_cons → aB, map_map → bw, mem_append → dm, mem_append_left → cV, mem_append_right → dQ, mem_cons → aP, mem_map → bg, mem_of_getElem? → bD, mem_range → fj, mem_singleton → ay, nodup_cons → ej, not_mem_nil → dz, range → bu, range' → bT, range'_succ → dw, range_succ → eW, replicate → aq, replicate_succ → dK, sum_cons → dG
open Eq renaming trans → aj
open Option renaming bind_eq_some_iff → ao, bind_some → bC, map_eq_some_iff → aQ, some → ax
open PySem renaming builtinsNs → cE, mainGlobals → aX, wpAny_pure → aD
open Int renaming fmod_eq_emod_of_nonneg → fg, fmod_nonneg_of_pos → eO, le_of_lt → eu, le_trans → cJ, lt_of_lt_of_le → dB, natAbs_natCast → aT, natCast_add → cg, natCast_mul → b0, natCast_nonneg → aN, natCast_pow → cW, ofNat_le → er, ofNat_lt → bN, toNat_natCast → aG
open PySem.Heap renaming get?_push_of_some → aU, get?_push_size → aJ, get?_some_iff → ba, get?_update_self → dS, lt_size → cQ, size_push → df
open PySem.Builtin renaming bitAnd → aO, bitOr → eo
open Bool renaming and_eq_true → aV, and_eq_true_iff → ee, eq_iff_iff → bJ, not_eq_true' → fc
open Array renaming getElem?_toList → bV
section
open PySem
namespace Pw
section
variable {A:Sort _}{B:Sort _}{C:Sort _}{E:Sort _}{F:Sort _}{H:Sort _}{I:Sort _}{J:Sort _}{K:Sort _}{L:Sort _}{M:Sort _}{G:Prop}
theorem el1{p:A→Prop}(k:∀a,p a→G)(h:∃a,p a):G:=Exists.elim h k
theorem el2{p:A→B→Prop}(k:∀a b,p a b→G):(∃a b,p a b)→G:=el1 fun a=>el1 (k a)
theorem el3{p:A→B→C→Prop}(k:∀a b c,p a b c→G):(∃a b c,p a b c)→G:=el1 fun a=>el2 (k a)
theorem el4{p:A→B→C→E→Prop}(k:∀a b c d,p a b c d→G):(∃a b c d,p a b c d)→G:=el1 fun a=>el3 (k a)
theorem el5{p:A→B→C→E→F→Prop}(k:∀a b c d e,p a b c d e→G):(∃a b c d e,p a b c d e)→G:=el1 fun a=>el4 (k a)
theorem el6{p:A→B→C→E→F→H→Prop}(k:∀a b c d e f,p a b c d e f→G):(∃a b c d e f,p a b c d e f)→G:=el1 fun a=>el5 (k a)
theorem el7{p:A→B→C→E→F→H→I→Prop}(k:∀a b c d e f g,p a b c d e f g→G):(∃a b c d e f g,p a b c d e f g)→G:=el1 fun a=>el6 (k a)
theorem el8{p:A→B→C→E→F→H→I→J→Prop}(k:∀a b c d e f g i,p a b c d e f g i→G):(∃a b c d e f g i,p a b c d e f g i)→G:=el1 fun a=>el7 (k a)
theorem el9{p:A→B→C→E→F→H→I→J→K→Prop}(k:∀a b c d e f g i j,p a b c d e f g i j→G):(∃a b c d e f g i j,p a b c d e f g i j)→G:=el1 fun a=>el8 (k a)
theorem el10{p:A→B→C→E→F→H→I→J→K→L→Prop}(k:∀a b c d e f g i j l,p a b c d e f g i j l→G):(∃a b c d e f g i j l,p a b c d e f g i j l)→G:=el1 fun a=>el9 (k a)
theorem il1{p:A→Prop}(a:A)(h:p a):∃a,p a:=⟨a,h⟩
theorem il2{p:A→B→Prop}(a:A)(b:B)(h:p a b):∃a b,p a b:=⟨a,il1 b h⟩
theorem il3{p:A→B→C→Prop}(a:A)(b:B)(c:C)(h:p a b c):∃a b c,p a b c:=⟨a,il2 b c h⟩
theorem il4{p:A→B→C→E→Prop}(a:A)(b:B)(c:C)(d:E)(h:p a b c d):∃a b c d,p a b c d:=⟨a,il3 b c d h⟩
theorem il5{p:A→B→C→E→F→Prop}(a:A)(b:B)(c:C)(d:E)(e:F)(h:p a b c d e):∃a b c d e,p a b c d e:=⟨a,il4 b c d e h⟩
theorem il6{p:A→B→C→E→F→H→Prop}(a:A)(b:B)(c:C)(d:E)(e:F)(f:H)(h:p a b c d e f):∃a b c d e f,p a b c d e f:=⟨a,il5 b c d e f h⟩
theorem il7{p:A→B→C→E→F→H→I→Prop}(a:A)(b:B)(c:C)(d:E)(e:F)(f:H)(g:I)(h:p a b c d e f g):∃a b c d e f g,p a b c d e f g:=⟨a,il6 b c d e f g h⟩
theorem il8{p:A→B→C→E→F→H→I→J→Prop}(a:A)(b:B)(c:C)(d:E)(e:F)(f:H)(g:I)(i:J)(h:p a b c d e f g i):∃a b c d e f g i,p a b c d e f g i:=⟨a,il7 b c d e f g i h⟩
theorem il9{p:A→B→C→E→F→H→I→J→K→Prop}(a:A)(b:B)(c:C)(d:E)(e:F)(f:H)(g:I)(i:J)(j:K)(h:p a b c d e f g i j):∃a b c d e f g i j,p a b c d e f g i j:=⟨a,il8 b c d e f g i j h⟩
theorem cl2{p q:Prop}(k:p→q→G)(h:p∧q):G:=k h.1 h.2
theorem cl3{p q r:Prop}(k:p→q→r→G)(h:p∧q∧r):G:=cl2 (k h.1) h.2
theorem cl4{p q r s:Prop}(k:p→q→r→s→G)(h:p∧q∧r∧s):G:=cl3 (k h.1) h.2
theorem cl5{p q r s t:Prop}(k:p→q→r→s→t→G)(h:p∧q∧r∧s∧t):G:=cl4 (k h.1) h.2
theorem cl6{p q r s t u:Prop}(k:p→q→r→s→t→u→G)(h:p∧q∧r∧s∧t∧u):G:=cl5 (k h.1) h.2
theorem cl7{p q r s t u v:Prop}(k:p→q→r→s→t→u→v→G)(h:p∧q∧r∧s∧t∧u∧v):G:=cl6 (k h.1) h.2
theorem cl8{p q r s t u v w:Prop}(k:p→q→r→s→t→u→v→w→G)(h:p∧q∧r∧s∧t∧u∧v∧w):G:=cl7 (k h.1) h.2
theorem cl9{p q r s t u v w x:Prop}(k:p→q→r→s→t→u→v→w→x→G)(h:p∧q∧r∧s∧t∧u∧v∧w∧x):G:=cl8 (k h.1) h.2
theorem cl10{p q r s t u v w x y:Prop}(k:p→q→r→s→t→u→v→w→x→y→G)(h:p∧q∧r∧s∧t∧u∧v∧w∧x∧y):G:=cl9 (k h.1) h.2
theorem cl11{p q r s t u v w x y z:Prop}(k:p→q→r→s→t→u→v→w→x→y→z→G)(h:p∧q∧r∧s∧t∧u∧v∧w∧x∧y∧z):G:=cl10 (k h.1) h.2
theorem fu{p q:Prop}(h:p∧q)(k:p→q→G):G:=cl2 k h
theorem ur{p q r:Prop}(P:p)(Q:q)(R:r):p∧q∧r:=⟨P,Q,R⟩
theorem lq{p q r:Prop}(h:p∧q∧r)(k:p→q→r→G):G:=cl3 k h
theorem Hh{p q r s:Prop}(P:p)(Q:q)(R:r)(S:s):p∧q∧r∧s:=⟨P,Q,R,S⟩
theorem FR{p q r s:Prop}(h:p∧q∧r∧s)(k:p→q→r→s→G):G:=cl4 k h
theorem F0{p q r s t:Prop}(P:p)(Q:q)(R:r)(S:s)(T:t):p∧q∧r∧s∧t:=⟨P,Q,R,S,T⟩
theorem FQ{p q r s t:Prop}(h:p∧q∧r∧s∧t)(k:p→q→r→s→t→G):G:=cl5 k h
theorem i0_7{p q r s t u v:Prop}(P:p)(Q:q)(R:r)(S:s)(T:t)(U:u)(V:v):p∧q∧r∧s∧t∧u∧v:=⟨P,Q,R,S,T,U,V⟩
theorem x0_7{p q r s t u v:Prop}(h:p∧q∧r∧s∧t∧u∧v)(k:p→q→r→s→t→u→v→G):G:=cl7 k h
theorem dh{p:A→Prop}(h:∃a,p a)(k:∀a,p a→G):G:=el1 k h
theorem gX{p q:A→Prop}(a:A)(P:p a)(Q:q a):∃a,p a∧q a:=il1 a ⟨P,Q⟩
theorem bq{p q:A→Prop}(h:∃a,p a∧q a)(k:∀a,p a→q a→G):G:=el1 (fun a=>cl2 (k a)) h
theorem Ae{p q r:A→Prop}(a:A)(P:p a)(Q:q a)(R:r a):∃a,p a∧q a∧r a:=il1 a ⟨P,Q,R⟩
theorem mX{p q r:A→Prop}(h:∃a,p a∧q a∧r a)(k:∀a,p a→q a→r a→G):G:=el1 (fun a=>cl3 (k a)) h
theorem FZ{p q r s:A→Prop}(a:A)(P:p a)(Q:q a)(R:r a)(S:s a):∃a,p a∧q a∧r a∧s a:=il1 a ⟨P,Q,R,S⟩
theorem B9{p q r s:A→Prop}(h:∃a,p a∧q a∧r a∧s a)(k:∀a,p a→q a→r a→s a→G):G:=el1 (fun a=>cl4 (k a)) h
theorem uq{p:A→B→Prop}(a:A)(b:B)(P:p a b):∃a b,p a b:=il2 a b P
theorem mW{p:A→B→Prop}(h:∃a b,p a b)(k:∀a b,p a b→G):G:=el2 k h
theorem i2_2{p q:A→B→Prop}(a:A)(b:B)(P:p a b)(Q:q a b):∃a b,p a b∧q a b:=il2 a b ⟨P,Q⟩
theorem x2_2{p q:A→B→Prop}(h:∃a b,p a b∧q a b)(k:∀a b,p a b→q a b→G):G:=el2 (fun a b=>cl2 (k a b)) h
theorem uo{p q r:A→B→Prop}(a:A)(b:B)(P:p a b)(Q:q a b)(R:r a b):∃a b,p a b∧q a b∧r a b:=il2 a b ⟨P,Q,R⟩
theorem gw{p q r:A→B→Prop}(h:∃a b,p a b∧q a b∧r a b)(k:∀a b,p a b→q a b→r a b→G):G:=el2 (fun a b=>cl3 (k a b)) h
theorem Hg{p q r s:A→B→Prop}(a:A)(b:B)(P:p a b)(Q:q a b)(R:r a b)(S:s a b):∃a b,p a b∧q a b∧r a b∧s a b:=il2 a b ⟨P,Q,R,S⟩
theorem x2_4{p q r s:A→B→Prop}(h:∃a b,p a b∧q a b∧r a b∧s a b)(k:∀a b,p a b→q a b→r a b→s a b→G):G:=el2 (fun a b=>cl4 (k a b)) h
theorem Ad{p q r s t u:A→B→Prop}(a:A)(b:B)(P:p a b)(Q:q a b)(R:r a b)(S:s a b)(T:t a b)(U:u a b):∃a b,p a b∧q a b∧r a b∧s a b∧t a b∧u a b:=il2 a b ⟨P,Q,R,S,T,U⟩
theorem Ge{p q r s t u:A→B→Prop}(h:∃a b,p a b∧q a b∧r a b∧s a b∧t a b∧u a b)(k:∀a b,p a b→q a b→r a b→s a b→t a b→u a b→G):G:=el2 (fun a b=>cl6 (k a b)) h
theorem i2_8{p q r s t u v w:A→B→Prop}(a:A)(b:B)(P:p a b)(Q:q a b)(R:r a b)(S:s a b)(T:t a b)(U:u a b)(V:v a b)(W:w a b):∃a b,p a b∧q a b∧r a b∧s a b∧t a b∧u a b∧v a b∧w a b:=il2 a b ⟨P,Q,R,S,T,U,V,W⟩
theorem Gd{p q r s t u v w x:A→B→Prop}(h:∃a b,p a b∧q a b∧r a b∧s a b∧t a b∧u a b∧v a b∧w a b∧x a b)(k:∀a b,p a b→q a b→r a b→s a b→t a b→u a b→v a b→w a b→x a b→G):G:=el2 (fun a b=>cl9 (k a b)) h
theorem B8{p q r s t u v w x y z:A→B→Prop}(h:∃a b,p a b∧q a b∧r a b∧s a b∧t a b∧u a b∧v a b∧w a b∧x a b∧y a b∧z a b)(k:∀a b,p a b→q a b→r a b→s a b→t a b→u a b→v a b→w a b→x a b→y a b→z a b→G):G:=el2 (fun a b=>cl11 (k a b)) h
theorem Hf{p:A→B→C→Prop}(a:A)(b:B)(c:C)(P:p a b c):∃a b c,p a b c:=il3 a b c P
theorem Gc{p:A→B→C→Prop}(h:∃a b c,p a b c)(k:∀a b c,p a b c→G):G:=el3 k h
theorem DA{p q:A→B→C→Prop}(a:A)(b:B)(c:C)(P:p a b c)(Q:q a b c):∃a b c,p a b c∧q a b c:=il3 a b c ⟨P,Q⟩
theorem uz{p q:A→B→C→Prop}(h:∃a b c,p a b c∧q a b c)(k:∀a b c,p a b c→q a b c→G):G:=el3 (fun a b c=>cl2 (k a b c)) h
theorem FY{p q r:A→B→C→Prop}(a:A)(b:B)(c:C)(P:p a b c)(Q:q a b c)(R:r a b c):∃a b c,p a b c∧q a b c∧r a b c:=il3 a b c ⟨P,Q,R⟩
theorem pF{p q r:A→B→C→Prop}(h:∃a b c,p a b c∧q a b c∧r a b c)(k:∀a b c,p a b c→q a b c→r a b c→G):G:=el3 (fun a b c=>cl3 (k a b c)) h
theorem i3_4{p q r s:A→B→C→Prop}(a:A)(b:B)(c:C)(P:p a b c)(Q:q a b c)(R:r a b c)(S:s a b c):∃a b c,p a b c∧q a b c∧r a b c∧s a b c:=il3 a b c ⟨P,Q,R,S⟩
theorem FP{p q r s:A→B→C→Prop}(h:∃a b c,p a b c∧q a b c∧r a b c∧s a b c)(k:∀a b c,p a b c→q a b c→r a b c→s a b c→G):G:=el3 (fun a b c=>cl4 (k a b c)) h
theorem x3_5{p q r s t:A→B→C→Prop}(h:∃a b c,p a b c∧q a b c∧r a b c∧s a b c∧t a b c)(k:∀a b c,p a b c→q a b c→r a b c→s a b c→t a b c→G):G:=el3 (fun a b c=>cl5 (k a b c)) h
theorem Dz{p:A→B→C→E→Prop}(a:A)(b:B)(c:C)(d:E)(P:p a b c d):∃a b c d,p a b c d:=il4 a b c d P
theorem FO{p:A→B→C→E→Prop}(h:∃a b c d,p a b c d)(k:∀a b c d,p a b c d→G):G:=el4 k h
theorem i4_2{p q:A→B→C→E→Prop}(a:A)(b:B)(c:C)(d:E)(P:p a b c d)(Q:q a b c d):∃a b c d,p a b c d∧q a b c d:=il4 a b c d ⟨P,Q⟩
theorem FN{p q:A→B→C→E→Prop}(h:∃a b c d,p a b c d∧q a b c d)(k:∀a b c d,p a b c d→q a b c d→G):G:=el4 (fun a b c d=>cl2 (k a b c d)) h
theorem i4_3{p q r:A→B→C→E→Prop}(a:A)(b:B)(c:C)(d:E)(P:p a b c d)(Q:q a b c d)(R:r a b c d):∃a b c d,p a b c d∧q a b c d∧r a b c d:=il4 a b c d ⟨P,Q,R⟩
theorem x4_3{p q r:A→B→C→E→Prop}(h:∃a b c d,p a b c d∧q a b c d∧r a b c d)(k:∀a b c d,p a b c d→q a b c d→r a b c d→G):G:=el4 (fun a b c d=>cl3 (k a b c d)) h
theorem i4_4{p q r s:A→B→C→E→Prop}(a:A)(b:B)(c:C)(d:E)(P:p a b c d)(Q:q a b c d)(R:r a b c d)(S:s a b c d):∃a b c d,p a b c d∧q a b c d∧r a b c d∧s a b c d:=il4 a b c d ⟨P,Q,R,S⟩
theorem x4_4{p q r s:A→B→C→E→Prop}(h:∃a b c d,p a b c d∧q a b c d∧r a b c d∧s a b c d)(k:∀a b c d,p a b c d→q a b c d→r a b c d→s a b c d→G):G:=el4 (fun a b c d=>cl4 (k a b c d)) h
theorem x4_5{p q r s t:A→B→C→E→Prop}(h:∃a b c d,p a b c d∧q a b c d∧r a b c d∧s a b c d∧t a b c d)(k:∀a b c d,p a b c d→q a b c d→r a b c d→s a b c d→t a b c d→G):G:=el4 (fun a b c d=>cl5 (k a b c d)) h
theorem i4_6{p q r s t u:A→B→C→E→Prop}(a:A)(b:B)(c:C)(d:E)(P:p a b c d)(Q:q a b c d)(R:r a b c d)(S:s a b c d)(T:t a b c d)(U:u a b c d):∃a b c d,p a b c d∧q a b c d∧r a b c d∧s a b c d∧t a b c d∧u a b c d:=il4 a b c d ⟨P,Q,R,S,T,U⟩
theorem x4_6{p q r s t u:A→B→C→E→Prop}(h:∃a b c d,p a b c d∧q a b c d∧r a b c d∧s a b c d∧t a b c d∧u a b c d)(k:∀a b c d,p a b c d→q a b c d→r a b c d→s a b c d→t a b c d→u a b c d→G):G:=el4 (fun a b c d=>cl6 (k a b c d)) h
theorem i4_7{p q r s t u v:A→B→C→E→Prop}(a:A)(b:B)(c:C)(d:E)(P:p a b c d)(Q:q a b c d)(R:r a b c d)(S:s a b c d)(T:t a b c d)(U:u a b c d)(V:v a b c d):∃a b c d,p a b c d∧q a b c d∧r a b c d∧s a b c d∧t a b c d∧u a b c d∧v a b c d:=il4 a b c d ⟨P,Q,R,S,T,U,V⟩
theorem Gb{p q r s t u v:A→B→C→E→Prop}(h:∃a b c d,p a b c d∧q a b c d∧r a b c d∧s a b c d∧t a b c d∧u a b c d∧v a b c d)(k:∀a b c d,p a b c d→q a b c d→r a b c d→s a b c d→t a b c d→u a b c d→v a b c d→G):G:=el4 (fun a b c d=>cl7 (k a b c d)) h
theorem x4_8{p q r s t u v w:A→B→C→E→Prop}(h:∃a b c d,p a b c d∧q a b c d∧r a b c d∧s a b c d∧t a b c d∧u a b c d∧v a b c d∧w a b c d)(k:∀a b c d,p a b c d→q a b c d→r a b c d→s a b c d→t a b c d→u a b c d→v a b c d→w a b c d→G):G:=el4 (fun a b c d=>cl8 (k a b c d)) h
theorem i5_1{p:A→B→C→E→F→Prop}(a:A)(b:B)(c:C)(d:E)(e:F)(P:p a b c d e):∃a b c d e,p a b c d e:=il5 a b c d e P
theorem B7{p:A→B→C→E→F→Prop}(h:∃a b c d e,p a b c d e)(k:∀a b c d e,p a b c d e→G):G:=el5 k h
theorem Ga{p q:A→B→C→E→F→Prop}(h:∃a b c d e,p a b c d e∧q a b c d e)(k:∀a b c d e,p a b c d e→q a b c d e→G):G:=el5 (fun a b c d e=>cl2 (k a b c d e)) h
theorem x5_3{p q r:A→B→C→E→F→Prop}(h:∃a b c d e,p a b c d e∧q a b c d e∧r a b c d e)(k:∀a b c d e,p a b c d e→q a b c d e→r a b c d e→G):G:=el5 (fun a b c d e=>cl3 (k a b c d e)) h
theorem i5_4{p q r s:A→B→C→E→F→Prop}(a:A)(b:B)(c:C)(d:E)(e:F)(P:p a b c d e)(Q:q a b c d e)(R:r a b c d e)(S:s a b c d e):∃a b c d e,p a b c d e∧q a b c d e∧r a b c d e∧s a b c d e:=il5 a b c d e ⟨P,Q,R,S⟩
theorem x5_4{p q r s:A→B→C→E→F→Prop}(h:∃a b c d e,p a b c d e∧q a b c d e∧r a b c d e∧s a b c d e)(k:∀a b c d e,p a b c d e→q a b c d e→r a b c d e→s a b c d e→G):G:=el5 (fun a b c d e=>cl4 (k a b c d e)) h
theorem i5_5{p q r s t:A→B→C→E→F→Prop}(a:A)(b:B)(c:C)(d:E)(e:F)(P:p a b c d e)(Q:q a b c d e)(R:r a b c d e)(S:s a b c d e)(T:t a b c d e):∃a b c d e,p a b c d e∧q a b c d e∧r a b c d e∧s a b c d e∧t a b c d e:=il5 a b c d e ⟨P,Q,R,S,T⟩
theorem x5_5{p q r s t:A→B→C→E→F→Prop}(h:∃a b c d e,p a b c d e∧q a b c d e∧r a b c d e∧s a b c d e∧t a b c d e)(k:∀a b c d e,p a b c d e→q a b c d e→r a b c d e→s a b c d e→t a b c d e→G):G:=el5 (fun a b c d e=>cl5 (k a b c d e)) h
theorem i5_6{p q r s t u:A→B→C→E→F→Prop}(a:A)(b:B)(c:C)(d:E)(e:F)(P:p a b c d e)(Q:q a b c d e)(R:r a b c d e)(S:s a b c d e)(T:t a b c d e)(U:u a b c d e):∃a b c d e,p a b c d e∧q a b c d e∧r a b c d e∧s a b c d e∧t a b c d e∧u a b c d e:=il5 a b c d e ⟨P,Q,R,S,T,U⟩
theorem B6{p q r s t u:A→B→C→E→F→Prop}(h:∃a b c d e,p a b c d e∧q a b c d e∧r a b c d e∧s a b c d e∧t a b c d e∧u a b c d e)(k:∀a b c d e,p a b c d e→q a b c d e→r a b c d e→s a b c d e→t a b c d e→u a b c d e→G):G:=el5 (fun a b c d e=>cl6 (k a b c d e)) h
theorem i5_9{p q r s t u v w x:A→B→C→E→F→Prop}(a:A)(b:B)(c:C)(d:E)(e:F)(P:p a b c d e)(Q:q a b c d e)(R:r a b c d e)(S:s a b c d e)(T:t a b c d e)(U:u a b c d e)(V:v a b c d e)(W:w a b c d e)(X:x a b c d e):∃a b c d e,p a b c d e∧q a b c d e∧r a b c d e∧s a b c d e∧t a b c d e∧u a b c d e∧v a b c d e∧w a b c d e∧x a b c d e:=il5 a b c d e ⟨P,Q,R,S,T,U,V,W,X⟩
theorem x5_9{p q r s t u v w x:A→B→C→E→F→Prop}(h:∃a b c d e,p a b c d e∧q a b c d e∧r a b c d e∧s a b c d e∧t a b c d e∧u a b c d e∧v a b c d e∧w a b c d e∧x a b c d e)(k:∀a b c d e,p a b c d e→q a b c d e→r a b c d e→s a b c d e→t a b c d e→u a b c d e→v a b c d e→w a b c d e→x a b c d e→G):G:=el5 (fun a b c d e=>cl9 (k a b c d e)) h
theorem x6_1{p:A→B→C→E→F→H→Prop}(h:∃a b c d e f,p a b c d e f)(k:∀a b c d e f,p a b c d e f→G):G:=el6 k h
theorem i6_3{p q r:A→B→C→E→F→H→Prop}(a:A)(b:B)(c:C)(d:E)(e:F)(f:H)(P:p a b c d e f)(Q:q a b c d e f)(R:r a b c d e f):∃a b c d e f,p a b c d e f∧q a b c d e f∧r a b c d e f:=il6 a b c d e f ⟨P,Q,R⟩
theorem x6_3{p q r:A→B→C→E→F→H→Prop}(h:∃a b c d e f,p a b c d e f∧q a b c d e f∧r a b c d e f)(k:∀a b c d e f,p a b c d e f→q a b c d e f→r a b c d e f→G):G:=el6 (fun a b c d e f=>cl3 (k a b c d e f)) h
theorem x6_4{p q r s:A→B→C→E→F→H→Prop}(h:∃a b c d e f,p a b c d e f∧q a b c d e f∧r a b c d e f∧s a b c d e f)(k:∀a b c d e f,p a b c d e f→q a b c d e f→r a b c d e f→s a b c d e f→G):G:=el6 (fun a b c d e f=>cl4 (k a b c d e f)) h
theorem x6_5{p q r s t:A→B→C→E→F→H→Prop}(h:∃a b c d e f,p a b c d e f∧q a b c d e f∧r a b c d e f∧s a b c d e f∧t a b c d e f)(k:∀a b c d e f,p a b c d e f→q a b c d e f→r a b c d e f→s a b c d e f→t a b c d e f→G):G:=el6 (fun a b c d e f=>cl5 (k a b c d e f)) h
theorem i7_1{p:A→B→C→E→F→H→I→Prop}(a:A)(b:B)(c:C)(d:E)(e:F)(f:H)(g:I)(P:p a b c d e f g):∃a b c d e f g,p a b c d e f g:=il7 a b c d e f g P
theorem x7_1{p:A→B→C→E→F→H→I→Prop}(h:∃a b c d e f g,p a b c d e f g)(k:∀a b c d e f g,p a b c d e f g→G):G:=el7 k h
theorem x7_3{p q r:A→B→C→E→F→H→I→Prop}(h:∃a b c d e f g,p a b c d e f g∧q a b c d e f g∧r a b c d e f g)(k:∀a b c d e f g,p a b c d e f g→q a b c d e f g→r a b c d e f g→G):G:=el7 (fun a b c d e f g=>cl3 (k a b c d e f g)) h
theorem x7_5{p q r s t:A→B→C→E→F→H→I→Prop}(h:∃a b c d e f g,p a b c d e f g∧q a b c d e f g∧r a b c d e f g∧s a b c d e f g∧t a b c d e f g)(k:∀a b c d e f g,p a b c d e f g→q a b c d e f g→r a b c d e f g→s a b c d e f g→t a b c d e f g→G):G:=el7 (fun a b c d e f g=>cl5 (k a b c d e f g)) h
theorem x7_8{p q r s t u v w:A→B→C→E→F→H→I→Prop}(h:∃a b c d e f g,p a b c d e f g∧q a b c d e f g∧r a b c d e f g∧s a b c d e f g∧t a b c d e f g∧u a b c d e f g∧v a b c d e f g∧w a b c d e f g)(k:∀a b c d e f g,p a b c d e f g→q a b c d e f g→r a b c d e f g→s a b c d e f g→t a b c d e f g→u a b c d e f g→v a b c d e f g→w a b c d e f g→G):G:=el7 (fun a b c d e f g=>cl8 (k a b c d e f g)) h
theorem x8_4{p q r s:A→B→C→E→F→H→I→J→Prop}(h:∃a b c d e f g i,p a b c d e f g i∧q a b c d e f g i∧r a b c d e f g i∧s a b c d e f g i)(k:∀a b c d e f g i,p a b c d e f g i→q a b c d e f g i→r a b c d e f g i→s a b c d e f g i→G):G:=el8 (fun a b c d e f g i=>cl4 (k a b c d e f g i)) h
theorem i8_5{p q r s t:A→B→C→E→F→H→I→J→Prop}(a:A)(b:B)(c:C)(d:E)(e:F)(f:H)(g:I)(i:J)(P:p a b c d e f g i)(Q:q a b c d e f g i)(R:r a b c d e f g i)(S:s a b c d e f g i)(T:t a b c d e f g i):∃a b c d e f g i,p a b c d e f g i∧q a b c d e f g i∧r a b c d e f g i∧s a b c d e f g i∧t a b c d e f g i:=il8 a b c d e f g i ⟨P,Q,R,S,T⟩
theorem x8_5{p q r s t:A→B→C→E→F→H→I→J→Prop}(h:∃a b c d e f g i,p a b c d e f g i∧q a b c d e f g i∧r a b c d e f g i∧s a b c d e f g i∧t a b c d e f g i)(k:∀a b c d e f g i,p a b c d e f g i→q a b c d e f g i→r a b c d e f g i→s a b c d e f g i→t a b c d e f g i→G):G:=el8 (fun a b c d e f g i=>cl5 (k a b c d e f g i)) h
theorem i9_7{p q r s t u v:A→B→C→E→F→H→I→J→K→Prop}(a:A)(b:B)(c:C)(d:E)(e:F)(f:H)(g:I)(i:J)(j:K)(P:p a b c d e f g i j)(Q:q a b c d e f g i j)(R:r a b c d e f g i j)(S:s a b c d e f g i j)(T:t a b c d e f g i j)(U:u a b c d e f g i j)(V:v a b c d e f g i j):∃a b c d e f g i j,p a b c d e f g i j∧q a b c d e f g i j∧r a b c d e f g i j∧s a b c d e f g i j∧t a b c d e f g i j∧u a b c d e f g i j∧v a b c d e f g i j:=il9 a b c d e f g i j ⟨P,Q,R,S,T,U,V⟩
theorem x9_7{p q r s t u v:A→B→C→E→F→H→I→J→K→Prop}(h:∃a b c d e f g i j,p a b c d e f g i j∧q a b c d e f g i j∧r a b c d e f g i j∧s a b c d e f g i j∧t a b c d e f g i j∧u a b c d e f g i j∧v a b c d e f g i j)(k:∀a b c d e f g i j,p a b c d e f g i j→q a b c d e f g i j→r a b c d e f g i j→s a b c d e f g i j→t a b c d e f g i j→u a b c d e f g i j→v a b c d e f g i j→G):G:=el9 (fun a b c d e f g i j=>cl7 (k a b c d e f g i j)) h
theorem Ca{p q r s t:A→B→C→E→F→H→I→J→K→L→Prop}(h:∃a b c d e f g i j l,p a b c d e f g i j l∧q a b c d e f g i j l∧r a b c d e f g i j l∧s a b c d e f g i j l∧t a b c d e f g i j l)(k:∀a b c d e f g i j l,p a b c d e f g i j l→q a b c d e f g i j l→r a b c d e f g i j l→s a b c d e f g i j l→t a b c d e f g i j l→G):G:=el10 (fun a b c d e f g i j l=>cl5 (k a b c d e f g i j l)) h
end
theorem ov1{α β:Type}{p:Option α}{f:α→Option β}{d:β}{G:Prop}(h:p.bind f=some d)(g:∀x,p=some x→f x=some d→G):G:=by
 cases p
 ·cases h
 ·exact g _ rfl h
theorem ov2{α β γ:Type}{p:Option α}{q:Option β}{f:α→β→Option γ}{d:γ}{G:Prop}(h:(p.bind fun x=>q.bind fun y=>f x y)=some d)(g:∀x y,p=some x→q=some y→f x y=some d→G):G:=by
 cases p
 ·cases h
 ·cases q
  ·cases h
  ·exact g _ _ rfl rfl h
theorem oif{α:Type}{c:Prop} [Decidable c] {x d:α}(h:(if c then some x else none)=some d):c∧x=d:=by
 by_cases q:c
 ·rw[if_pos q]at h; exact⟨q,ax.inj h⟩
 ·rw[if_neg q]at h; cases h
@[elab_as_elim] theorem omv{α β:Type}{p:Option α}{f:α→β}{d:β}{G:β→Prop}(h:p.map f=some d)(g:∀x,p=some x→G (f x)):G d:=by
 cases p
 ·cases h
 ·cases h; exact g _ rfl
theorem onv{α:Type}{d:α}{G:Prop}(h:none=some d):G:=by cases h
end Pw
end
section
set_option linter.all false
namespace Pw
theorem aqp1{a d:Nat}{c:Int}(h:a≤20)(k:c.natAbs+100+1≤d):(c-(a:Int)).natAbs≤d:=af (Int.natAbs_sub_le c a) (af (bY (af h (by decide:20≤101)) _) k)
theorem aqp2{x y:Nat}:8*x+y=0↔y=0∧x=0:=⟨fun h=>⟨Nat.eq_zero_of_add_eq_zero_left h,(Nat.mul_eq_zero.mp (Nat.eq_zero_of_add_eq_zero_right h)).resolve_left (by decide)⟩,fun h=>by rw[h.1,h.2]⟩
theorem IH{a:Int}(h:(-4611686018427387904)≤a):(-9223372036854775808)≤a:=cJ (by decide) h
theorem IG{a:Int}(h:a<4611686018427387904):a<9223372036854775808:=Int.lt_trans h (by decide)
theorem IF{a b c:Nat}(h:a+1≤b)(k:b+1≤c):(b-a)+(c-b)=c-a:=(cS _ _).trans (Nat.sub_add_sub_cancel (bz k) (bz h))
section
variable {a b c d e f g h i j:Nat}{A B C D:Int}
theorem aq1:a≤1048576→(a:Int)<9223372036854775808:=by intros; first | lia -abstractProof | omega
theorem aq2:a+1=b→1≤b:=by intros; subst_vars; exact ar _ _
theorem aq3:1≤a→b=a→c≤a-1→c+1≤b:=fun h k l=>af (Nat.add_le_of_le_sub h l) (bk k.symm)
theorem aq4:a+1≤b→b=c→a≤c-1:=fun h k=>Nat.le_sub_of_add_le (af h (bk k))
theorem aq5:A<0→-A=((A.natAbs:Nat):Int):=fun h=>(Int.ofNat_natAbs_of_nonpos (eu h)).symm
theorem aq6:¬(A<0)→A=((A.natAbs:Nat):Int):=fun h=>(Int.natAbs_of_nonneg (Int.not_lt.mp h)).symm
theorem aq7:a≤5000→a≤9000:=fun h=>af h (ar _ _)
theorem aq8:A<B→¬(B≤A):=by intros; exact Int.not_le.mpr (by assumption)
theorem aq9:a≤1000→a+1+1≤4096:=fun h=>af (cF h 2) (by decide)
theorem aq10:a=b→b≤1000→c≤a→c≤1048576:=by intros; subst_vars; exact af (af (by assumption) (by assumption)) (by decide)
theorem aq11:a≤b+(a-b):=by lia -abstractProof
theorem aq12:a≤20→a≤30:=fun h=>af h (ar _ _)
theorem aq13:(a:Int)=0↔a=0:=by exact Int.ofNat_inj
theorem aq14:¬(A≤B)→B<A:=fun h=>Int.lt_of_not_ge h
theorem aq15:a=b→-(b:Int)≤C∧b≤d→-(a:Int)≤C:=by intros; simp_all
theorem aq16:a=1048576→-(b:Int)≤C∧b≤a→-9223372036854775808≤C:=by intros; first | lia -abstractProof | omega
theorem aq17:0≤A→-9223372036854775808≤A:=by intros; first | lia -abstractProof | omega
theorem Fu:A≤B→¬(B<A):=by intros; exact Int.not_lt.mpr (by assumption)
theorem Nn:A.toNat+1≤b→C≤A→C≤A∧A<(b:Int):=fun h k=>⟨k,Int.lt_of_le_of_lt (Int.self_le_toNat _) (bN.mpr h)⟩
theorem aq20:¬(0≤A)→A<9223372036854775808:=by intros; first | lia -abstractProof | omega
theorem aq21:-A≤B∧c≤d→¬(0≤B)→0≤B+A∧B+A<A:=fun h k=>⟨cJ (Int.le_of_eq (Int.add_left_neg A).symm) (Int.add_le_add_right h.1 A),dB (Int.add_lt_add_right (Int.not_le.mp k) A) (Int.le_of_eq (Int.zero_add A))⟩
theorem aq22:a+b+1≤c→min a c=a:=by lia -abstractProof
theorem aq23:a+b+1≤c→a+b+1≤d→b+1≤min c d-a:=fun h k=>Nat.lt_sub_of_add_lt (cS a b▸Nat.lt_min.mpr ⟨h,k⟩)
theorem aq24:¬(a+b+1≤c)→¬(b+1≤min c d-a):=fun h k=>h (cS b a▸aK (Nat.add_lt_of_lt_sub k) (Nat.min_le_left _ _))
theorem aq25:¬(a+b+1≤c)→c≤min a c+b:=fun h=>(Nat.le_total a c).elim (fun k=>(Nat.min_eq_left k).symm▸Nat.le_of_not_lt h) (fun k=>(Nat.min_eq_right k).symm▸aA _ _)
theorem aq26:max 0 (min A (b:Int))=((min A.toNat b:Nat):Int):=by exact @Int.rec (fun A=>max 0 (min A (b:Int))=((min A.toNat b:Nat):Int)) (fun n=>(Int.max_eq_right (Int.le_min.mpr ⟨aN n,aN b⟩)).trans (Lean.Omega.Int.ofNat_min n b).symm) (fun n=>(congrArg (max 0) (Int.min_eq_left (cJ (eu (Int.negSucc_lt_zero n)) (aN b)))).trans ((Int.max_eq_left (eu (Int.negSucc_lt_zero n))).trans (congrArg Int.ofNat (Nat.zero_min b).symm))) A
theorem aq28:a≤1048576→a≤16777216:=fun h=>af h (ar _ _)
theorem aq29:a+1≤b+c→b≤a→a-b+1≤c:=fun h k=>Nat.sub_lt_left_of_lt_add k h
theorem BK:a+(b+1)+1≤c→a+1+b+1≤c:=by intros; simp only[bP,cS,Nat.add_left_comm]at*; assumption
theorem Lb:a+8*(b+1)+c+1≤d→a+3+8*b+c+1≤d:=by lia -abstractProof
theorem aq33:a=b→b≤c→a+(c-b)=c:=by intros; simp_all
theorem aq34:a+(b+1)=c→a+1≤c:=by intros; subst_vars; simp
theorem aq35:a+(b+1)=c→a+1+b=c:=by intros; rw[cH]; assumption
theorem F3:a+(b+1)=a+1+b:=by rw[cH,bP]
theorem Ko:a=b→0+b=a:=by intros; simp_all
theorem aq38:0+a=a:=by simp
theorem E0:a≤2097152→a≤16777216:=fun h=>af h (ar _ _)
theorem aq40:a+b≤2097152→a≤16777216:=fun h=>af (aA _ _) (af h (by decide))
theorem aq41:a≤2097152→a≤16777217:=fun h=>af h (ar _ _)
theorem aq42:a≤2097152→B.toNat+1≤a→0≤B→-9223372036854775808≤B∧B<9223372036854775808:=fun h k l=>⟨cJ (by decide) l,dB ((Int.toNat_lt l).mp k) (er.mpr (af h (by decide:2097152≤9223372036854775808)))⟩
theorem aq43:(a:Int)<(b:Int)→a+1≤b:=fun h=>bN.mp h
theorem aq44:1+a=a+1:=by lia -abstractProof
theorem aq45:a+1=1+a:=by lia -abstractProof
theorem ET:a+1+b=a+(b+1):=by exact cH _ _ _
theorem aq47:a≤4000→a≤16777216:=fun h=>af h (ar _ _)
theorem IK:1≤a→a≠0:=fun h=>Nat.ne_of_gt h
theorem aq49:a≤b+1→b≤4000→min (a+1) c≤16777216:=fun h k=>af (Nat.min_le_left _ _) (af (aw (af h (aw k))) (by decide))
theorem aq50:a+b+c+d+e=a+(b+d)+(e+c):=by lia -abstractProof
theorem aq51:a+b≤1048576→¬(16777217≤0+a+b):=by intros; first | lia -abstractProof | omega
theorem aq52:A≤B→max A B=B:=by lia -abstractProof
theorem aq53:a≤8→a≤1048576:=fun h=>af h (ar _ _)
theorem aq54:a+1≤b→b=a+(1+(b-a-1)):=fun h=>((congrArg (a+·) (da (Nat.sub_pos_of_lt h))).trans (da (bz h))).symm
theorem aq55:a+(b+c)=a+b+c:=by rw[bP]
theorem aq56:a≤b→b-a+a=b:=fun h=>dW h
theorem aq57:a+b=c→(c:Int)+(a:Int)-2*(a:Int)=(b:Int):=by intros; subst_vars; lia -abstractProof
theorem aq58:a+b≤c→min a c=a:=by lia -abstractProof
theorem aq59:a+b≤c→min b (c-a)=b:=fun h=>Nat.min_eq_left (Nat.le_sub_of_add_le' h)
theorem aq60:a=b→b≤a:=by intros; subst_vars; simp
theorem aq61:a+(b+c)=d+e→a=d→b=e→c=0:=by intros; simp_all
theorem EP:a+1≤10000→(a:Int)<10000:=fun h=>bN.mpr h
theorem aq63:2*a+b=c+d→b+1≤2→c+1≠d→c+1≤d→c+1≤a:=by lia -abstractProof
theorem aq64:2*a+b=c+d→c+1≤d→a+1≤d:=by lia -abstractProof
theorem aq65:2*a+b=c+d→d-c≤2*e→e≤f→a-c≤f:=by intro h k l; refine af ?_ l; clear l; refine Nat.sub_le_of_le_add ?_; replace k:=Nat.le_add_of_sub_le k; lia -abstractProof
theorem aq66:2*a+b=c+d→d-c≤2*e→a-c≤e:=fun h k=>aq65 h k (bL _)
theorem aq67:2*a+b=c+d→b+1≤2→d-c≤2*e→d-a≤e:=by intro h l k; refine Nat.sub_le_of_le_add ?_; replace k:=Nat.le_add_of_sub_le k; lia -abstractProof
theorem aq68:a+1≤b→b≤64→(a:Int)<9223372036854775808:=fun h k=>bN.mpr (aK h (af k (by decide)))
theorem aq69:a+1≤b→c=b→(a:Int)<(c:Int):=by intros; subst_vars; lia -abstractProof
theorem aq70:a≤b→b≤c→c-b+(b-a)=c-a:=fun h k=>Nat.sub_add_sub_cancel k h
theorem aq71:4≤a+6:=by subst_vars; exact ar _ _
theorem IJ:a=b→b≤c→a≤c:=by intros; subst_vars; assumption
theorem II:a+1=b→b-a=1:=by intros; subst_vars; simp
theorem aq74:a+1≠b→a+1≤b→¬(b-a≤1):=fun h k l=>h (Nat.le_antisymm k (Nat.sub_le_iff_le_add'.mp l))
theorem aq75:a+1≤1000→4*a+1≤10000:=fun h=>af (aw (bt 4 (bz h))) (by decide)
theorem aq76:a≤b∧c≤d∧e≤f∧e≤g∧h≤g→d≤i→i≤64→c≤1073741824:=by lia -abstractProof
theorem aq77:a≤1000→a≤1073741824:=fun h=>af h (ar _ _)
theorem uv:a+1≤b→a≤b:=fun h=>af (aA _ _) h
theorem aq79:a≤b∧b+1≤c∧d≤e∧d≤f∧g≤f→c≤h→b≤h:=by lia -abstractProof
theorem F2:a+7≤a+1+6:=by simp
theorem aq81:a+1≤b∧b+1≤c∧b-a≤d∧b-a≤e∧f≤e→c≤g→a+(b-a)≤g:=fun h k=>af (bk (da (bz h.1))) (af (bz h.2.1) k)
theorem aq82:a+1≤b∧b+1≤c∧b-a≤d∧b-a≤e∧c-b≤e→c≤f→a+(b-a+(c-b))≤f:=fun h k=>af (bk ((congrArg _ (IF h.1 h.2.1)).trans (da (bz (eY h.1 h.2.1))))) k
theorem aq83:a+1≤b∧c≤d∧b-a≤e∧b-a≤f∧g≤f→a+(b-a)=b:=fun h=>da (bz h.1)
theorem aq84:a+1≤b∧b+1≤c∧b-a≤d∧b-a≤e∧c-b≤e→b-a+(c-b)=c-a:=fun h=>IF h.1 h.2.1
theorem B4:1≤a→(a:Int)≠0:=fun h=>Int.ofNat_ne_zero.mpr (Nat.ne_of_gt h)
theorem aq86:1≤a→(b:Int)+(a:Int)-1=((b+a-1:Nat):Int):=fun h=>(Int.ofNat_sub (af h (ar _ _))).symm
theorem F1:a≠0→(a:Int)≠0:=by intros; simp; assumption
theorem aq89:a≤8→(a:Int)<1000:=by intros; first | lia -abstractProof | omega
theorem aq90:-1000<(a:Int):=by first | lia -abstractProof | omega
theorem aq91:1≤a→0+a-1+1≤a:=by intros; simp_all
theorem aq92:a≤b→a-c≤b:=by intros; subst_vars; exact af (eK _ _) (by assumption)
theorem aq93:a≤8→a≤64:=fun h=>af h (ar _ _)
theorem aq94:a≤a+b+c:=by lia -abstractProof
theorem aq95:a+1≤1000→a≤999:=fun h=>Nat.le_sub_of_add_le h
theorem aq96:a≤8→5000+1000*a+1≤30000:=fun h=>af (aw (bY (bt 1000 h) 5000)) (by decide)
theorem aq97:a+1≤1000→b=1048576→(a:Int)<(b:Int):=fun h k=>bN.mpr (eR (aK h (by decide)) k.symm)
theorem aq98:a≤100→a≤1000:=fun h=>af h (ar _ _)
theorem aq99:a+1≤b→b+1≤c→c-a=b-a+(c-b):=fun h k=>(IF h k).symm
theorem Ow:a+1≤b→a+(b-a)=b:=fun h=>da (bz h)
theorem Ov:a+1≤b→b≤c→a-d≤c-d:=fun h k=>Nat.sub_le_sub_right (af (bz h) k) _
theorem Ou:a≤8→b≤a→b≤100:=by intros; subst_vars; exact af (af (by assumption) (by assumption)) (by decide)
theorem Ot:a≤b∧c≤d∧e≤f∧e≤g∧h≤g→d≤i→i≤8→c≤1073741824:=fun h k l=>af h.2.1 (af k (af l (by decide)))
theorem Oq:(a+b)/2=c→d≤c∧e≤b∧c-a≤4∧c-a≤f∧b-c≤f→b-c≤8:=by intro h k; replace k:=Nat.le_add_of_sub_le k.2.2.1; refine Nat.sub_le_of_le_add ?_; lia -abstractProof
theorem Oo:a+b+1≤c→d≤b→a+d+1≤c:=by lia -abstractProof
theorem Om:a+8*b+c+1≤d→e≤b→a+8*e+c+1≤d:=fun h k=>af (aw (cF (bY (bt 8 k) a) c)) h
theorem qo:a≤b→a≤b:=by intros; assumption
theorem Ol:a≤40000→b≤40000→C<(a:Int)+(b:Int)→C=134217728→False:=by intros; subst_vars; lia -abstractProof
theorem Oj:A.toNat=0→0≤A→A=0:=fun h k=>Int.le_antisymm (Int.toNat_eq_zero.mp h) k
theorem Oi:a%2=0→(a+1)%2=1:=fun h=>(Nat.add_mod a 1 2).trans (congrArg (fun x=>(x+1)%2) h)
theorem Oh:a%2≠0→(a+1)%2=0:=fun h=>(Nat.add_mod a 1 2).trans (congrArg (fun x=>(x+1)%2) ((Nat.mod_two_eq_zero_or_one a).resolve_left h))
theorem Og:A%2=0→A.toNat%2=0:=by cases A; exact Int.ofNat.inj; exact fun υ=>rfl
theorem Of:A%2≠0→0≤A→A.toNat%2≠0:=fun h k e=>h ((Int.toNat_of_nonneg k)▸congrArg Int.ofNat e)
theorem Oe:a≤16→a+1≤32:=fun h=>af (aw h) (by decide)
theorem Od:A<10000→B<C→B=134217728→C≤5*A→False:=by intros; subst_vars; lia -abstractProof
theorem Oc:a+b≤1048576→c=a→d=b→c+d≤16777216:=by intros; subst_vars; exact af (by assumption) (by decide)
theorem Ob:a=b→C<D∧b≤e∧F<C→a≤e:=by intros; simp_all
theorem FG:A<1000∧b≤1000∧C<A→A.toNat≤1000:=fun h=>Int.toNat_le.mpr (eu h.1)
theorem Oa:a≤1000000→a≤16777216:=fun h=>af h (ar _ _)
theorem N9:A<1000∧b≤c∧-1000<A→-9223372036854775808≤A∧A<9223372036854775808:=fun h=>⟨cJ (by decide) (eu h.2.2),Int.lt_trans h.1 (by decide)⟩
theorem N8:a≤16777216→¬(1152921504606846976≤a):=by lia -abstractProof
theorem N7:a≤40000→B<10000→(a:Int)+B≤134217728:=fun h k=>cJ (Int.add_le_add (er.mpr h) (eu k)) (by decide)
theorem N6:A<1000→A≤999:=fun h=>@Int.le_of_lt_add_one _ 999 h
theorem N5:A<1000∧b≤c∧-1000<A→¬(A< -9223372036854775808)∧¬(9223372036854775808≤A):=by intros; first | lia -abstractProof | omega
theorem N4:¬(A<1)→0<A:=by lia -abstractProof
theorem N3:A<1000∧b≤1000∧C<A→1000<D→D<(b:Int)→False:=fun h k l=>Int.lt_irrefl _ (Int.lt_trans k (dB l (er.mpr h.2.1)))
theorem N2:a≤1000000→¬(16777217≤a):=by lia -abstractProof
theorem N1:a+b+80+1≤c→a+64+1≤c:=by lia -abstractProof
theorem N0:a+b+80+1≤c→a+66+1≤c:=by lia -abstractProof
theorem FF:a+66+1≤b→c≤64→a+1+min d c+1≤b:=fun h k=>af (aw (bY (af (Nat.min_le_right d c) k) (a+1))) (af (bk (congrArg Nat.succ (cH a 1 64))) (af (eE _) h))
theorem NZ:a≤128→a≤256:=fun h=>af h (ar _ _)
theorem NY:a≤b→(b:Int)+(a:Int)-2*(a:Int)=((b-a:Nat):Int):=fun h=>((congrArg (fun x=>(b:Int)+a-x) (Int.two_mul a)).trans (Int.add_sub_add_right b a a)).trans (Int.ofNat_sub h).symm
theorem FE:a≤12→a≤10000:=fun h=>af h (ar _ _)
theorem BR:a≤100→a≤1048576:=fun h=>af h (ar _ _)
theorem NX:(a:Int)≠0↔a≠0:=by simp
theorem oy:a+(b+1)≤c→a+1+b≤c:=by intros; rw[cH]; assumption
theorem FD:a+(b+1)+1≤c→a+b+1≤c:=fun h=>af (aA _ _) h
theorem BQ:a+(b+1)≤c→a+1≤c:=fun h=>af (aw (aA _ _)) h
theorem NW:a+b+1≤c→a+1≤c:=fun h=>af (aw (aA _ _)) h
theorem NV:a≤b*18→b≤50→a+b*2≤1048576:=fun h k=>af (dj (af h (cX 18 k)) (cX 2 k)) (by decide)
theorem FC:a=b→a+1≤b+(c+1):=by intros; subst_vars; simp
theorem ud:a≤b→a+1≤b+1:=by intros; simp; assumption
theorem BP:a≤b+1+c→a≤b+(c+1):=by intros; simp only[bP,cS,Nat.add_left_comm]at*; assumption
theorem FA:a≤b→a≤b+1:=fun h=>af h (aA _ _)
theorem NU:a≤a:=by simp
theorem NT:a≤12→a≤50:=fun h=>af h (ar _ _)
theorem NS:a+1≤5→b+1≤8→a+b+1≤12:=fun h k=>af (aw (dj (dJ h) (dJ k))) (by decide)
theorem NR:a≤32→a≤1073741824:=fun h=>af h (ar _ _)
theorem NQ:a≤8→a≤10000:=fun h=>af h (ar _ _)
theorem NP:a+b+1≤100→b+a≤1048576:=by lia -abstractProof
theorem NO:a+b+1≤100→a+1+1≤1048576:=fun h=>af (aw (aw (aA a b))) (af (aw h) (by decide))
theorem Fz:a+(b+c)=a+c+b:=by rw[cH,bP]
theorem Fy:a+b+c=a+(b+c):=by rw[bP]
theorem BO:a≤b→a≤b+c:=fun h=>af h (aA _ _)
theorem NN:a+(b+c)+d≤e→a+b+c+d≤e:=by intros; simp only[bP,cS,Nat.add_left_comm]at*; assumption
theorem NM:a+b+1-a-b+b=a+b+1-a:=dW (Nat.le_sub_of_add_le' (eE (a+b)))
theorem NL:a+b+c≤a+(b+(c+d)):=by lia -abstractProof
theorem NK:a+1+b=c+(b+a)+1-c:=((dH (n:=c) (m:=b+a+1)).trans (congrArg Nat.succ (cS b a) |>.trans (Nat.succ_add a b).symm)).symm
theorem NH:a+b=a+(b+(c+d))-d-c:=((Nat.sub_sub _ d c).trans ((congrArg (a+(b+(c+d))-·) (cS d c)).trans ((congrArg (·-(c+d)) (bP a b (c+d)).symm).trans (Nat.add_sub_cancel ..)))).symm
theorem NG:a≤b→b+1-a=b-a+1:=fun h=>Nat.sub_add_comm h
theorem NF:a+1≤100000→b+1≤100000→0≤(a:Int)∧0≤(b:Int)∧(a:Int)<((1048576:Nat):Int)∧(b:Int)<((1048576:Nat):Int):=fun h k=>⟨aN _,aN _,bN.mpr (aK h (by decide)),bN.mpr (aK k (by decide))⟩
theorem jm:a+1≤100000→a≤1048576:=fun h=>af (aA _ _) (af h (by decide))
theorem ND:a≤18→a+1+1≤20:=by intros; simp; assumption
theorem xv:a≤a+b:=by subst_vars; exact aA _ _
theorem BN:a+1≤50000→b≤a→b+1≤100000:=by intros; exact af (af (cF (by assumption) _) (by assumption)) (by decide)
theorem NC:a=b+c+d→a-d-c+c=b+c:=by intros; simp_all
theorem NB:2≤((a+1+1:Nat):Int):=by lia -abstractProof
theorem NA:(-1+((a+1+1:Nat):Int)).toNat=a+1:=Int.toNat_sub _ 1
theorem xu:¬((a:Int)<0):=by intros; exact Int.not_lt.mpr (Int.ofNat_nonneg _)
theorem Nz:a≤5→a+1+1≤1048576:=by intros; first | lia -abstractProof | omega
theorem xt:a≤100→a+1≤100000:=fun h=>af (aw h) (by decide)
theorem Ny:0≤A→A=((A.toNat:Nat):Int):=fun h=>(Int.toNat_of_nonneg h).symm
theorem Fx:a+1≤b→(a:Int)<(b:Int):=fun h=>bN.mpr h
theorem Nx:a≤100→a+1≤1048576:=fun h=>af (aw h) (by decide)
theorem Fw:a+1≤b→0<(b:Int):=by lia -abstractProof
theorem Fv:0≤A→A<(b:Int)→A.toNat+1≤b:=fun h k=>(Int.toNat_lt h).mpr k
theorem Ft:a+1≤b→c=b-1→a≤c:=by intros; subst_vars; lia -abstractProof
theorem Nw:a=b-c→b≤d→a≤d:=by intros; subst_vars; exact af (eK _ _) (by assumption)
theorem Nv:a+b≤50→a≤100:=fun h=>af (aA _ _) (af h (by decide))
theorem Nu:a≤b→a+(b-a)=b:=fun h=>Nat.add_sub_cancel' h
theorem Nt:a+1≤b→0≤(a:Int)∧(a:Int)<(b:Int):=by intros; simp; assumption
theorem Nr:100000≤1048576:=by subst_vars; exact ar _ _
theorem Fs:a+1≤b→b≤c→a≤c:=by lia -abstractProof
theorem Fq:a≤63→a+1≤100000:=fun h=>af (aw h) (by decide)
theorem Nq:a≤5→a≤1048576:=fun h=>af h (ar _ _)
theorem Np:a≤5→a+1≤100000:=fun h=>af (aw h) (by decide)
theorem Nm:a≤5→a+(5-a)≤1048576:=by intros; simp_all
theorem Nl:A<59→A.toNat+1≤59:=fun h=>(Int.toNat_lt' (by decide)).mpr h
theorem Nk:1≤3:=by subst_vars; exact ar _ _
theorem Nj:1+a%1000000000000000000000000000000≤1000000000000000000000000000000:=cS 1 _▸eN _ (by decide)
theorem Ni:((2*a:Nat):Int)/2=(a:Int):=by simp
theorem Nh:(a:Int)%2=((a%2:Nat):Int):=by subst_vars; rfl
theorem Ng:a+1≤10→b=2*a→b+1≤100000:=by intros; subst_vars; lia -abstractProof
theorem Nf:a%2+1≤1073741824:=af (eN a (by decide)) (by decide)
theorem jE:2≤1048576:=by subst_vars; exact ar _ _
theorem Nd:a+1≤10→b=2*a→b+2≤1048576:=by intros; subst_vars; lia -abstractProof
theorem Nc:2*a+2=2*(a+1):=by subst_vars; rfl
theorem Fp:-(-A-B)-B=A:=by lia -abstractProof
theorem Nb:¬(0≤-(a:Int)-1):=by lia -abstractProof
theorem Na:a*64=64*a:=by lia -abstractProof
theorem M9:64≤a→(a:Int)≠0:=by lia -abstractProof
theorem Fo:64≤a→a≠0:=by lia -abstractProof
theorem M8:a+1≤12→6≤a→(a+1+6-1)/6=2:=fun h k=>Nat.div_eq_of_lt_le (af (by decide) (cF k 6)) (aK (Nat.add_lt_add_right h 6) (by decide))
theorem M7:a+1≤4096→a/64+1≤64:=fun h=>Nat.div_lt_of_lt_mul h
theorem M6:a+1≤59→b≤4→b+a+1≤63:=fun h k=>af (aw (dj k (dJ h))) (by decide)
theorem Fm:a+1≤59→b≤5→b+a+1≤64:=by lia -abstractProof
theorem Fk:a+1≤59→b≤4→c≤5→(b+a)*64+(c+a)+1≤4096:=fun h k l=>af (aw (dj (cX 64 (dj k (dJ h))) (dj l (dJ h)))) (by decide)
theorem M5:1≤a→64≤(a+b)*64+c:=by lia -abstractProof
theorem M4:2*a+1+1=2*(a+1):=by subst_vars; rfl
theorem M3:(a:Int)%8=((a%8:Nat):Int):=by subst_vars; rfl
theorem M2:5<(a:Int)↔6≤a:=by exact bN
theorem M1:a≤b→c≤b→max a c≤b:=fun h k=>Nat.max_le.mpr ⟨h,k⟩
theorem M0:a≤10→a+1≤64:=fun h=>af (aw h) (by decide)
theorem MZ:a+1≤100000→b≤a→b≤1048576:=by intros; exact af (af (by assumption) (af (aA _ _) (by assumption))) (by decide)
theorem xr:a≤100→a≤100000:=fun h=>af h (ar _ _)
theorem MY:(a:Int)=(b:Int)∧(c:Int)=(d:Int)↔a=b∧c=d:=by norm_cast
theorem MX:a+1≤100000→b≤a→-((1048576:Nat):Int)≤(b:Int)∧(b:Int)<((1048576:Nat):Int)∧-((1048576:Nat):Int)≤(a:Int)∧(a:Int)<((1048576:Nat):Int):=fun h k=>⟨cJ (by decide) (aN _),bN.mpr (az k (aK h (by decide))),cJ (by decide) (aN _),bN.mpr (aK h (by decide))⟩
theorem MW:((a:Int)-(b:Int)).toNat=a-b:=by simp
theorem MV:a+1≤b+1→(a:Int)-1<(b:Int):=by lia -abstractProof
theorem MU:(a:Int)=((a+1:Nat):Int)-1:=by simp
theorem MT:¬(a+1≤b+1)→¬((a:Int)-1<(b:Int)):=by lia -abstractProof
theorem MS:(a:Int)-1=((a+1:Nat):Int)-2:=by lia -abstractProof
theorem MQ:a≤a+1:=by subst_vars; exact aA _ _
theorem MP:a≤6→a≤100000:=fun h=>af h (ar _ _)
theorem MO:a+1≤6→a-b+1≤100000:=fun h=>af (aw (eK _ _)) (af h (by decide))
theorem MN:1≤a∧a+1≤1+(b-1)→c+1=b→a-1+1≤c:=fun h k=>by subst k; exact af (bk (dW h.1)) (dJ (eR h.2 (cS 1 _)))
theorem MM:a+1≤6→b≤c∧c+1≤b+(a-b)→c-b+1≤1000:=fun h k=>af (af (Nat.sub_lt_left_of_lt_add k.1 k.2) (eK a b)) (af (bz h) (by decide))
theorem ML:a+1=b→b+1≤6→1+a+1≤100000:=by intros; first | lia -abstractProof | omega
theorem mP:1≤1048576:=by subst_vars; exact ar _ _
theorem Fj:a+1≤6→b≤a→b+1≤100000:=by intros; exact af (af (cF (by assumption) _) (by assumption)) (by decide)
theorem MK:a+1=b→b+1≤6→a+1+1≤100000:=by intros; first | lia -abstractProof | omega
theorem MJ:a≤b→b≤c→a≤c:=by intros; exact af (by assumption) (by assumption)
theorem MI:a+1≤10000→b+1≤6→c≤b→a+c≤1048576:=fun h k l=>af (dj (bz h) (af l (bz k))) (by decide)
theorem MH:0≤a∧b≤0+c→b≤c:=by intros; simp_all
theorem MG:a+(b+1)*5+1≤c→d+1≤6→e≤d→f≤e→a+f+b*5+1≤c:=fun h k l m=>af (aw (af (bk (cH a f (b*5))) (af (bY (af m (af l (dJ k))) _) (bk ((bP a (b*5) 5).trans (congrArg (a+·) (Nat.succ_mul b 5).symm)))))) h
theorem MF:a+b+1≤5000→a+1≤10000:=by lia -abstractProof
theorem ME:a≤b→b≤c→d≤e→a+d≤e+c:=fun h k l=>af (dj (af h k) l) (bk (cS c e))
theorem Fi:1≤a+1:=by subst_vars; exact ar _ _
theorem Fh:a*1≤b→b≤c→a≤c:=by lia -abstractProof
theorem MD:a≤120→0+a*5+1≤5000:=fun h=>af (aw (af (bk (cR _)) (cX 5 h))) (by decide)
theorem MC:a=b→b=c→a+1=c+1:=by intros; subst_vars; rfl
theorem MB:a≤b+1→b≤c→a≤c+1:=by lia -abstractProof
theorem MA:a≤120→a+1≤100000:=fun h=>af (aw h) (by decide)
theorem Mz:1≤a→a≤b→b≠0:=by lia -abstractProof
theorem My:a≤4000→(a:Int)-(b:Int)≤4000:=by intros; first | lia -abstractProof | omega
theorem Fg:0≤(a:Int):=by exact Int.ofNat_nonneg _
theorem Mx:a+b=c+d→a+e+b=d+(e+c):=by intros; grind -abstractProof
theorem Mw:a+1≤b→c+b≤d→c+a+1≤d:=by lia -abstractProof
theorem Mv:a+b=c→b+a=c:=by intros; rw[cS]; assumption
theorem Mu:a+1≤b→c≤a→c≤b:=by intros; exact af (by assumption) (af (aA _ _) (by assumption))
theorem Ms:a+1≤b→c+b≤d→d=e→c+a+1≤e:=fun h k l=>aK (Nat.add_lt_add_left h _) (af k (bk l))
theorem Mr:a≤1000→a≤10000:=fun h=>af h (ar _ _)
theorem Mq:21≤a+27:=by subst_vars; exact ar _ _
theorem Mp:a+1+1≤100→b=a→b+1≤1048576:=by intros; subst_vars; lia -abstractProof
theorem Mo:a≤b→a+c-d≤b+(c-d):=fun h=>Nat.sub_le_of_le_add (af (dj h (Nat.le_add_of_sub_le (bL (c-d)))) (bk (bP _ _ _).symm))
theorem Mn:1≤a→a-1+1≤a:=by intros; simp_all
theorem BM:1≤a→0<(a:Int):=fun h=>bN.mpr h
theorem Ff:a≤999→(a:Int)<1000:=by intros; first | lia -abstractProof | omega
theorem Mm:a≤999→8*a≤20000:=fun h=>af (bt _ h) (by decide)
theorem Ml:a≤999→a+1≤1000:=by intros; simp; assumption
theorem Mj:a≤8→a+1≤100:=fun h=>af (aw h) (by decide)
theorem Mi:a≤999→a≤5000:=fun h=>af h (ar _ _)
theorem Mh:a≤8→a+1≤100000:=fun h=>af (aw h) (by decide)
theorem Mg:a=b→b≤8→a≤1048576:=by intros; subst_vars; exact af (by assumption) (by decide)
theorem Mf:-(a:Int)-1<0:=by lia -abstractProof
theorem Me:1≤a→-(a:Int)≠0:=by lia -abstractProof
theorem Md:1≤a→-(a:Int)<0:=by intros; simp; assumption
theorem Mc:a≤b+66→a≤b+68:=fun h=>af h (aA _ 2)
theorem Mb:1≤a→-(a:Int)=-((a-1:Nat):Int)-1:=fun h=>(congrArg (fun x:Nat=> -(x:Int)) (dW h).symm).trans (@Int.neg_add ((a-1:Nat):Int) 1)
theorem Ma:a≤100→a+2+1≤100000:=by intros; first | lia -abstractProof | omega
theorem L4:a≤100→a+a+1≤100000:=by intros; first | lia -abstractProof | omega
theorem Fe:a+(b+1)≤5→a≤4:=by lia -abstractProof
theorem L0:a≤b→a+a≤b*2:=by lia -abstractProof
theorem LZ:a≤2*b→a≤2*(b+1):=fun h=>af h (aA _ _)
theorem LY:a≤2*b→a+2≤2*(b+1):=by lia -abstractProof
theorem LX:a+b≤5→a+1≤10:=by lia -abstractProof
theorem LW:a≤16→b≤a→b≤100:=by intros; subst_vars; exact af (af (by assumption) (by assumption)) (by decide)
theorem LV:a+b≤5→c≤2*a→c≤100:=by lia -abstractProof
theorem LU:a≠b→(a:Int)≠(b:Int):=by intros; norm_cast
theorem LS:a+1≤1000→a≤1048576:=fun h=>af (aA _ _) (af h (by decide))
theorem LR:0<(a:Int)↔1≤a:=by exact bN
theorem LQ:(a:Int)≠2↔a≠2:=by norm_cast
theorem LP:a≤b→(b:Int)-(a:Int)=((b-a:Nat):Int):=by intros; norm_cast
theorem LN:a≤400→3+a+1≤100000:=fun h=>af (aw (bY h 3)) (by decide)
theorem LM:a≤400→3+a+3+1≤100000:=fun h=>af (cF (bY h 3) 4) (by decide)
theorem LL:a≤16→a≤32:=fun h=>af h (ar _ _)
theorem BL:a≤1000→a≤1048576:=fun h=>af h (ar _ _)
theorem LK:a+b+1≤100→a+1≤1000:=by lia -abstractProof
theorem LH:a=b→a+c=b+c:=by intros; simp; assumption
theorem LG:a≠b→a+c≠b+c:=by intros; simp; assumption
theorem LF:a≤128→a≤1114112:=fun h=>af h (ar _ _)
theorem LC:a≤5→a≤10000:=fun h=>af h (ar _ _)
theorem LB:a≤b→a≤c+b:=fun h=>af h (ar _ _)
theorem LA:61≤a+77:=by subst_vars; exact ar _ _
theorem Lz:41≤a+73:=by subst_vars; exact ar _ _
theorem Ly:a≤5→(a:Int)<1000:=by intros; first | lia -abstractProof | omega
theorem Lx:a≤5→a+1≤6:=by intros; simp; assumption
theorem Lw:a+1≤10000→b≤5→a+b+1≤100000:=by intros; first | lia -abstractProof | omega
theorem Lv:a+1≤10000→b≤5→a+b+1+1≤100000:=by intros; first | lia -abstractProof | omega
theorem Lu:a≤b+c→a≤b+(c+1):=by lia -abstractProof
theorem Ls:a≤b+6*c→a≤b+6*(c+1):=fun h=>af h (bY (bt 6 (eE c)) b)
theorem Lr:a+1≤b→c=a→c+1≤b:=by intros; subst_vars; assumption
theorem Lq:a≤b+(c+1)+6*d→c≤5→a≤b+6*(d+1):=by lia -abstractProof
theorem Lp:a+6*(b+1)+1≤c→a+6*b+1≤c:=by lia -abstractProof
theorem Ln:a+6*(b+1)+1≤c→d≤5→a+(d+1)+6*b+1≤c:=by lia -abstractProof
theorem Lm:a+1≤b→b≤16→a+b+1≤32:=by lia -abstractProof
theorem Ll:a≤16→b≤a→b+b+1≤1000:=fun h k=>af (aw (dj (af k h) (af k h))) (by decide)
theorem Lk:a≤6*b→b≤16→c≤b→a+6*c+1≤10000:=fun h k l=>af (aw (dj (af h (bt 6 k)) (bt 6 (af l k)))) (by decide)
theorem Lj:a+1≤b→a+b+1≤b*2:=by lia -abstractProof
theorem Li:a≤b→a≤b*2:=fun h=>af h (ar _ _)
theorem Lh:a≤b+b→b≤c→a≤c*2:=by lia -abstractProof
theorem Lg:a≤6*b→c≤a+6*d→d≤b→c≤6*(b*2):=by lia -abstractProof
theorem Lf:a≤16→b≤a→b+1≤100000:=by intros; exact af (aw (af (by assumption) (by assumption))) (by decide)
theorem Ld:a≤16→b≤a→b≤1048576:=by intros; subst_vars; exact af (af (by assumption) (by assumption)) (by decide)
theorem Fd:a≤900→a≤100000:=fun h=>af h (ar _ _)
theorem Lc:(a:Int)≤(b:Int)↔a≤b:=by exact er
theorem La:a≤900→a≤1000:=fun h=>af h (ar _ _)
theorem K9:a≤5000→a≤100000:=fun h=>af h (ar _ _)
theorem K8:a+1≤900→((a-b+1:Nat):Int)<1000:=fun h=>bN.mpr (az (af (aw (eK a b)) h) (by decide:900<1000))
theorem K7:a+1≤900→b≤a→b+(a-b+1)+1≤100000:=fun h k=>af (bk (congrArg (·+2) (da k))) (af (aw h) (by decide))
theorem K6:a+1≤b+(a-b+1):=aw (Nat.sub_le_iff_le_add'.mp (bL _))
theorem K5:a+1≤900→b≤a→b+(a-b+1)+1≤5000:=fun h k=>af (bk (congrArg (·+2) (da k))) (af (aw h) (by decide))
theorem K4:a≤b→a+(b-a+1)≤max a (b+1):=fun h=>af (bk (congrArg Nat.succ (da h))) (Nat.le_max_right _ _)
theorem K3:a≤max a b:=Nat.le_max_left _ _
theorem Fc:a+1+b+1≤c→a+(b+1)+1≤c:=by intros; rw[cH]; assumption
theorem Fb:a+1+b+1≤c→a+0+1≤c:=by lia -abstractProof
theorem E9:a+1+b+1≤c→d+1≤c→e≤max d (b+1)→e+1≤c:=fun h k l=>az l (Nat.max_lt.mpr ⟨k,az (af (bk (cS b 1)) (cF (ar 1 a) b)) h⟩)
theorem E8:a+1≤800→a+0+1≤900:=by intros; first | lia -abstractProof | omega
theorem K2:a=32→a+1≤128:=by intros; subst_vars; exact ar _ _
theorem K1:a=9→a+1≤128:=by intros; subst_vars; exact ar _ _
theorem K0:a=120→a+1≤128:=by intros; subst_vars; exact ar _ _
theorem KZ:(a:Int)≤1↔a≤1:=by exact er
theorem E7:a+1≤900→a≤1048576:=fun h=>af (aA _ _) (af h (by decide))
theorem E6:a+1≤800→a+1+1≤100000:=by intros; first | lia -abstractProof | omega
theorem KY:¬((a:Int)<((0:Nat):Int)):=by intros; exact Int.not_lt.mpr (Int.ofNat_nonneg _)
theorem KW:a+1≤100000→-((1048576:Nat):Int)≤(a:Int)∧(a:Int)<((1048576:Nat):Int):=fun h=>⟨cJ (by decide) (aN _),bN.mpr (aK h (by decide))⟩
theorem KV:¬(a+1≤b)→¬((a:Int)<(b:Int)):=by intros; exact_mod_cast (by assumption)
theorem KU:1000*(a+1)=1000*a+1000:=by subst_vars; rfl
theorem KS:a+1≤20→B.natAbs+100+1≤c→(B-(a:Int)).natAbs≤c:=fun h k=>aqp1 (bz h) k
theorem KQ:a+b≤c→a≤c:=fun h=>af (aA _ _) h
theorem KP:a+b≤20→1000*a+1≤40000:=fun h=>af (aw (bt 1000 (af (aA a b) h))) (by decide)
theorem KO:a+b≤20→C.natAbs+100+1≤d→(C-(a:Int)).natAbs≤d:=fun h k=>aqp1 (af (aA _ _) h) k
theorem KN:a≤10→0+a≤20:=fun h=>af (bY h _) (by decide)
theorem KL:a≤10→a+1≤100000:=fun h=>af (aw h) (by decide)
theorem KJ:A+B+C=A+(B+C):=by lia -abstractProof
theorem BJ:(a:Int)=(b:Int)↔a=b:=by exact Int.ofNat_inj
theorem E5:a=6→a+1≤100000:=by intros; subst_vars; exact ar _ _
theorem KH:a≤b∧b≤4∧c≤d→e=6→b+1≤e:=fun h k=>af (aw h.2.1) (af (by decide) (bk k.symm))
theorem KG:a≤b∧b≤4∧c≤d→b+1≤1000:=by lia -abstractProof
theorem KE:a≤b∧b≤c∧d≤5→e=6→d+1≤e:=by intros; simp_all
theorem KD:a≤b∧b≤c∧d≤5→d+1≤1000:=by lia -abstractProof
theorem ox:a≤1000→a≤100000:=fun h=>af h (ar _ _)
theorem KC:2+2*a=2*(a+1):=by lia -abstractProof
theorem E4:a=b→a+1=b+1:=by intros; simp; assumption
theorem KA:a≤1000→a+1≤100000:=fun h=>af (aw h) (by decide)
theorem Kz:a≤1000→2*a≤1048576:=fun h=>af (bt _ h) (by decide)
theorem Ky:a+1≤1000→a+1+1≤100000:=by intros; first | lia -abstractProof | omega
theorem Kx:3≤100000:=by subst_vars; exact ar _ _
theorem Kw:a=b→a≤c→b≤c:=by intros; subst_vars; assumption
theorem Kv:a+b+1≤100→c=a→c+1≤1000:=by lia -abstractProof
theorem Ku:a+1≤1000→b≤a→b+1≤100000:=by intros; exact af (af (cF (by assumption) _) (by assumption)) (by decide)
theorem Kt:(a:Int)<(b:Int)↔a+1≤b:=by exact bN
theorem Ks:a+1≤900→b≤a→b≤1000:=by intros; exact af (af (by assumption) (af (aA _ _) (by assumption))) (by decide)
theorem Kr:a+1≤b+1→c≤a→c≤b:=by lia -abstractProof
theorem Kq:a=b+1+c→a=b+(c+1):=by intros; simp only[bP,cS,Nat.add_left_comm]at*; assumption
theorem Kp:a≤6→1+a+1≤100:=by lia -abstractProof
theorem Kn:a≤64→1*a≤1000:=fun h=>af (bt _ h) (by decide)
theorem Km:a=1+b→b≤6→a+1≤99:=by intros; subst_vars; lia -abstractProof
theorem Kl:a≤6→a+1+1≤100000:=by intros; first | lia -abstractProof | omega
theorem Kk:a≤6→a+1≤100000:=fun h=>af (aw h) (by decide)
theorem Kj:a≤64→1*a+1≤100000:=by intros; first | lia -abstractProof | omega
theorem Ki:a=b+10*c+40*d+80*e+f+g→b+5*c+8*d+4*e≤a:=by intros; subst_vars; lia -abstractProof
theorem Kh:a=b+10*c+40*d+80*e+80*f+g→b+5*c+9*d+7*e+2*f≤a:=by intros; subst_vars; lia -abstractProof
theorem Kg:a=b+10*c+40*d+80*e+80*f+g→b+5*c+10*d+9*e+3*f≤a:=by intros; subst_vars; lia -abstractProof
theorem Kf:a=b+10*c+40*d+80*e+80*f+g→b+5*c+10*d+10*e+4*f≤a:=by intros; subst_vars; lia -abstractProof
theorem Ke:a≤a+b+c+d:=by lia -abstractProof
theorem E3:a≤a+b+c+d+e:=by lia -abstractProof
theorem Kd:a≤a+b+c+d+e+f:=by lia -abstractProof
theorem Kc:1≤a→a≠1→a=a-2+2:=fun h k=>(dW (Nat.lt_of_le_of_ne h (Ne.symm k))).symm
theorem Kb:a+b=c→c≤d→a≤d:=by intros; subst_vars; exact af (aA _ _) (by assumption)
theorem Ka:(a+2)*1≤b→2*b≤c→c=c-2+2:=fun h k=>(dW (af (af (ar 2 a) (af (bk (eC (a+2)).symm) h)) (af (Nat.le_mul_of_pos_left b (by decide)) k))).symm
theorem J9:a=b+2→(b:Int)+2=(a:Int):=by intros; subst_vars; rfl
theorem J8:(a+2)*1≤b→2*b≤c→c=d+2→1≤d:=by intros; subst_vars; lia -abstractProof
theorem J7:a+b=c→a≤c:=by intros; subst_vars; exact aA _ _
theorem J6:(a+2)*1≤b→2*b≤c→2*a+1≤c:=by lia -abstractProof
theorem J5:(a+2)*1≤b→2*b≤c→(c:Int)-(a:Int)=((c-a:Nat):Int):=fun h k=>(Int.ofNat_sub (af (af (aA a 2) (af (bk (eC (a+2)).symm) h)) (af (Nat.le_mul_of_pos_left b (by decide)) k))).symm
theorem J4:(a+2)*1≤b→2*b≤c→d≤b→(d:Int)<((c-a:Nat):Int):=fun h k l=>bN.mpr (az l (Nat.lt_sub_of_add_lt (aK (Nat.add_lt_add_left (Nat.lt_of_succ_lt (af (bk (eC (a+2)).symm) h)) b) (af (bk (Nat.two_mul b).symm) k))))
theorem J3:(a:Int)-(-(b:Int))=((a+b:Nat):Int):=by simp
theorem J2:2*a≤b→c≤a→b=d+2→1≤e→e≤f→(f:Int)=-(c:Int)+G→((f-1:Nat):Int)=((b+h-c-1:Nat):Int)+(G-((b+h:Nat):Int)):=by intro h1 h2 h3 h4 h5 h6; have hc:c+1≤b:=(by lia -abstractProof); obtain⟨x,rfl⟩:=Nat.exists_eq_add_of_le hc; obtain⟨y,rfl⟩:=Nat.exists_eq_add_of_le (af h4 h5); rw[dH,Nat.sub_sub,bP (c+1),dH]; clear h1 h3 h4 h5 h2 hc; lia -abstractProof
theorem J1:a=b+2→((a+c-d-1:Nat):Int)<((a+c:Nat):Int):=fun h=>bN.mpr (az (Nat.sub_le_sub_right (eK _ d) 1) (Nat.sub_lt (aK (h▸br _) (aA a c)) Nat.one_pos))
theorem J0:2*a≤b→b=c+2→d≤a→-(((b+e:Nat):Int)+(-((b+e-d-1:Nat):Int)-1))=-(d:Int):=by intro h1 h3 h2; have hc:d+1≤b:=(by lia -abstractProof); obtain⟨x,rfl⟩:=Nat.exists_eq_add_of_le hc; rw[Nat.sub_sub,bP (d+1),dH]; clear h1 h3 h2 hc; lia -abstractProof
theorem JZ:a≤1000000000000000000000000000000→a+1+1≤1267650600228229401496703205376:=by intros; first | lia -abstractProof | omega
theorem JY:a≤100→5*a+1≤501:=by intros; first | lia -abstractProof | omega
theorem JX:a≤b→2*a≤b*2:=fun h=>af (bt 2 h) (bk (bx 2 b))
theorem JW:a+b+(c+d)=a+c+(b+d):=by lia -abstractProof
theorem JV:a≤b→c≤d→a+1048576*c≤b+1048576*d:=by lia -abstractProof
theorem JU:a≤b→c≤d→b+d-(a+c)=b-a+(d-c):=fun h k=>(Nat.sub_sub _ _ _).symm.trans ((congrArg (· - c) (Nat.sub_add_comm h)).trans (Nat.add_sub_assoc k _))
theorem JT:a+1048576*b=a+1048576*c→b=c:=fun h=>Nat.eq_of_mul_eq_mul_left (by decide) (Nat.add_left_cancel h)
theorem JS:a≤b+36864+c*36864→a≤b+(c+1)*36864:=fun h=>af h (bk ((cH b 36864 _).trans ((bP b _ _).trans (congrArg (b+·) (Nat.succ_mul c 36864).symm))))
theorem JR:a≤524288→a+1≤1048576:=fun h=>af (aw h) (by decide)
theorem JQ:a+(b+(c+(d+(e+0))))=a+b+c+d+e:=by lia -abstractProof
theorem EZ:a+b=c+b↔a=c:=by simp
theorem JP:a+b+c=c+b+a:=by lia -abstractProof
theorem JO:8*a+64*b+512*c+4096*d+32768*e+(8*f+64*g+512*h+4096*i+32768*j)=8*(a+f)+64*(b+g)+512*(c+h)+4096*(d+i)+32768*(e+j):=by lia -abstractProof
theorem JN:a=b→a≠c→c=b→d≤e:=by lia -abstractProof
theorem JM:a≤b→1+a≤b+1:=by lia -abstractProof
theorem JL:a≤b→0+a≤b+1:=by lia -abstractProof
theorem EY:a+1≤8→(8*b+a)%8=a:=by intros; simp; assumption
theorem EX:a+1≤8→(8*b+a)/8=b:=fun h=>(Nat.mul_add_div (by decide) b a).trans (congrArg (b+·) (dP h))
theorem JK:a+b=c→c=b+a:=by intros; subst_vars; lia -abstractProof
theorem JJ:8*a+64*b+512*c+4096*d+32768*e=8*(8*(8*(8*(8*e+d)+c)+b)+a)+0:=by lia -abstractProof
theorem JI:a=0→(8*(8*(8*(8*(8*b+c)+d)+e)+f)+a=0↔f=0∧e=0∧d=0∧c=0∧b=0):=fun h=>(aqp2.trans (and_iff_right h)).trans (aqp2.trans (and_congr Iff.rfl (aqp2.trans (and_congr Iff.rfl (aqp2.trans (and_congr Iff.rfl aqp2))))))
theorem JH:a≤5→b≤a→b+1≤6:=by intros; exact af (aw (af (by assumption) (by assumption))) (by decide)
theorem JG:1≤a→a≤5→a=1∨a=2∨a=3∨a=4∨a=5:=fun h k=>(by decide:∀a,a<6→1≤a→((a=1)∨((a=2)∨((a=3)∨((a=4)∨(a=5)))))) a (Nat.lt_succ_of_le k) h
theorem JF:a=0+a:=by simp
theorem JE:¬(a+1≤b+1)→1≤a:=by lia -abstractProof
theorem JD:a≤1048576→a≤2097152:=fun h=>af h (ar _ _)
theorem JC:a=b→0≤C→C<(b:Int)→C.toNat+1≤a:=fun h k l=>eR ((Int.toNat_lt k).mpr l) h.symm
theorem JB:a=1048576→b=c→D.toNat+1≤b→0≤D→c≤a→-9223372036854775808≤D∧D<9223372036854775808:=fun h k l m n=>⟨cJ (by decide) m,dB ((Int.toNat_lt m).mp l) (er.mpr (af (bk k) (af n (af (bk h) (by decide:1048576≤9223372036854775808)))))⟩
theorem EW:a=1048576→b≤a→b≤16777216:=by intros; subst_vars; exact af (by assumption) (by decide)
theorem JA:1≤a→b=a→0≤-1+(b:Int)∧-1+(b:Int)<(b:Int):=by intros; subst_vars; lia -abstractProof
theorem Jz:(-1+(a:Int)).toNat=a-1:=(congrArg Int.toNat (Int.add_comm _ _)).trans (Int.toNat_sub a 1)
theorem Jy:1≤a→b=a→b-1+1≤b:=by intros; simp_all
theorem Jx:1≤a→b=a→b-1+1=b:=by intros; subst_vars; exact dW (by assumption)
theorem Jw:a=1048576→B≤C∧C<(d:Int)∧d≤a→C<9223372036854775808:=fun h k=>dB k.2.1 (er.mpr (af k.2.2 (af (bk h) (by decide:1048576≤9223372036854775808))))
theorem Jv:a=b→C≤D∧D<(b:Int)∧b≤e→D<(a:Int):=by intros; simp_all
theorem Ju:a=b→0≤C∧C<(b:Int)∧b≤d∧e≤d∧f≠g→C.toNat+1≤a:=fun h k=>eR ((Int.toNat_lt k.1).mpr k.2.1) h.symm
theorem Jt:A<B→B-A-C+C=(((B-A).toNat:Nat):Int):=fun h=>(Int.sub_add_cancel _ _).trans (Int.toNat_of_nonneg (Int.sub_nonneg_of_le (eu h))).symm
theorem Js:¬(A<B)→0=(((B-A).toNat:Nat):Int):=fun h=>congrArg Int.ofNat (Int.toNat_of_nonpos (Int.sub_nonpos_of_le (Int.not_lt.mp h))).symm
theorem Jr:-4611686018427387904≤A→-4611686018427387904≤B→A<4611686018427387904→B<4611686018427387904→((((-9223372036854775808≤A∧A<9223372036854775808)∧-9223372036854775808≤B∧B<9223372036854775808)∧-9223372036854775808≤-1∧-1<9223372036854775808)∧-9223372036854775808≤(((A-B).toNat:Nat):Int)∧(((A-B).toNat:Nat):Int)<9223372036854775808)∧((((A-B).toNat:Nat):Int)=C∨-9223372036854775808≤B+(-1+1)∧B+(-1+1)<9223372036854775808):=fun h k l m=>⟨⟨⟨⟨⟨IH h,IG l⟩,IH k,IG m⟩,by decide⟩,cJ (by decide) (aN _),Int.lt_of_le_of_lt (Int.toNat_le_toNat (Int.sub_le_sub (Int.le_sub_one_of_lt l) k) |> er.mpr) (by decide:((4611686018427387904-1 - -4611686018427387904:Int).toNat:Int)<9223372036854775808)⟩,.inr ((Int.add_zero _).symm▸⟨IH k,IG m⟩)⟩
theorem Jq:A-B=A+B*(-1):=by lia -abstractProof
theorem Jp:-A≤B∧B<A→A=1048576→-4611686018427387904≤B∧B<4611686018427387904:=fun h k=>by subst k; exact⟨cJ (by decide) h.1,Int.lt_trans h.2 (by decide)⟩
theorem Jo:a=b→a-c-(0+d)=b-c-d:=by intros; simp_all
theorem Jn:a≤5→2*a≤100:=fun h=>af (bt _ h) (by decide)
theorem Jm:a+1≤10→0+a+1≤100:=by lia -abstractProof
theorem Jl:a≤10→a≤100:=fun h=>af h (ar _ _)
theorem Jk:a≤10→a≤100000:=fun h=>af h (ar _ _)
theorem Jj:a+1≤1000→(a:Int)<1000:=fun h=>bN.mpr h
theorem Ji:a=5*b+1→a≤501→b≤100:=by intros; subst_vars; lia -abstractProof
theorem Jh:a≤100→a+1≤1073741824:=fun h=>af (aw h) (by decide)
theorem Jg:a≤501→a+1≤1000:=fun h=>af (aw h) (by decide)
theorem EV:a≤501→a+1≤10000:=fun h=>af (aw h) (by decide)
theorem Jf:2*a+1≤b→a≤b:=by lia -abstractProof
theorem EU:2*a+1≤b→b+a≤b*2:=by lia -abstractProof
theorem Je:a≤501→a+1≤999:=fun h=>af (aw h) (by decide)
theorem Jd:a≤501→a+1+1≤999:=by intros; first | lia -abstractProof | omega
theorem Jc:1≤a→a=a-1+1:=by intros; simp_all
theorem Jb:a*2=2*a:=by lia -abstractProof
theorem Ja:2*a+1≤b→1≤b-a:=fun h=>Nat.sub_pos_of_lt (az (Nat.le_mul_of_pos_left a (by decide)) h)
theorem I9:a≤b-c→a≤b+c:=fun h=>af h (af (eK _ _) (aA _ _))
theorem I8:2*a+1≤b→b=2*c→c≤b-a:=fun h k=>Nat.le_sub_of_add_le (af (bY (Nat.le_of_mul_le_mul_left (bz (eR h k)) (by decide)) c) (bk ((Nat.two_mul c).symm.trans k.symm)))
theorem I7:1≤a→a≤b→5*a+1≤8*b:=by lia -abstractProof
theorem I6:a-1+1≤b→a≤b:=by lia -abstractProof
theorem I5:a+1=5→a≤6:=by intros; simp_all
theorem I4:101≤a→b≤a→c≤b→c+100+1≤a*1024:=fun h k l=>af (aw (cF (af l k) 100)) (af (bY h _) (af (bk (Nat.mul_two _).symm) (bt _ (by decide))))
theorem I3:-(a:Int)-1=-((a+1:Nat):Int):=by lia -abstractProof
theorem I2:a≤501→a+1≤990:=fun h=>af (aw h) (by decide)
theorem ES:a≤501→a+1+1≤990:=by intros; first | lia -abstractProof | omega
theorem ER:a≤501→5*a+1≤40000:=by intros; first | lia -abstractProof | omega
theorem I1:a≤501→a+1≤40000:=fun h=>af (aw h) (by decide)
theorem I0:1≤a→b≤a-1→b+1≤a:=fun h k=>Nat.add_le_of_le_sub h k
theorem IZ:a≤501→a+1+1≤40000:=by intros; first | lia -abstractProof | omega
theorem IY:a+b=c-1→1≤c→((a+d:Nat):Int)+(-((d:Int)+(-(b:Int)-1)))=(c:Int):=by intro h k; obtain⟨x,rfl⟩:=Nat.exists_eq_add_of_le k; rw[dH]at h; subst h; lia -abstractProof
theorem IX:¬(63<(a:Int))→a≤63:=fun h=>er.mp (Int.not_lt.mp h)
theorem IW:0≤A∧A≤63→A.natAbs+1≤64:=fun h=>bN.mp (Int.lt_of_le_of_lt (cJ (Int.le_of_eq (Int.natAbs_of_nonneg h.1)) h.2) (by decide))
theorem IV:a≤6→(a:Int)+6≤134217728:=by intros; first | lia -abstractProof | omega
theorem IU:a+b≤1048576→a≤16777216:=fun h=>af (aA _ _) (af h (by decide))
theorem IT:a+2*(b+1)=a+2+2*b:=by lia -abstractProof
theorem IQ:a=b→b≤1000→a≤1048576:=by intros; subst_vars; exact af (by assumption) (by decide)
theorem IP:a=2*b→a+1+1=2*(b+1):=by intros; subst_vars; rfl
theorem IM:a+(b+2)+1≤c→a+1+(b+1)+1≤c:=fun h=>af (bk (by ac_rfl)) h
theorem IL:a+8*(b+2)+c+1≤d→a+1+8*(b+1)+c+1≤d:=by lia -abstractProof
end
theorem kon{α:Type}{d:α}{G:Prop}(h:(none:Option α)=some d):G:=by cases h
theorem len0{α}{P:List α→Prop}{l:List α}(h:l.length=0)(k:P []):P l:=by
 cases l with
 | nil=>exact k
 | cons a l=>cases h
theorem Dk{α}{P:List α→Prop}{n:Nat}{l:List α}(h:l.length=n+1)(k:∀a r,r.length=n→P (a::r)):P l:=by
 cases l with
 | nil=>cases h
 | cons a l=>exact k a l (Nat.succ.inj h)
theorem len1{α}{P:List α→Prop}{l:List α}(h:l.length=1)(k:∀a,P [a]):P l:=Dk h fun a r h=>len0 (P:=fun r=>P (a::r)) h (k a)
theorem GV{α}{P:List α→Prop}{l:List α}(h:l.length=2)(k:∀a b,P [a,b]):P l:=Dk h fun a r h=>len1 (P:=fun r=>P (a::r)) h (k a)
theorem GU{α}{P:List α→Prop}{l:List α}(h:l.length=3)(k:∀a b c,P [a,b,c]):P l:=Dk h fun a r h=>GV (P:=fun r=>P (a::r)) h (k a)
theorem len4{α}{P:List α→Prop}{l:List α}(h:l.length=4)(k:∀a b c d,P [a,b,c,d]):P l:=Dk h fun a r h=>GU (P:=fun r=>P (a::r)) h (k a)
theorem len5{α}{P:List α→Prop}{l:List α}(h:l.length=5)(k:∀a b c d e,P [a,b,c,d,e]):P l:=Dk h fun a r h=>len4 (P:=fun r=>P (a::r)) h (k a)
theorem ltS{P:Nat→Prop}{n:Nat}(h0:P 0)(h:∀e<n,P (e+1)):∀e<n+1,P e:=by
 intro e he
 cases e with
 | zero=>exact h0
 | succ e=>exact h e (Nat.lt_of_succ_lt_succ he)
theorem lt0{P:Nat→Prop}:∀e<0,P e:=fun e h=>absurd h (Nat.not_lt_zero e)
theorem lkY{κ α:Type} [BEq κ] [LawfulBEq κ] {x:κ}{p:κ×α}{r:List (κ×α)}(e:x=p.1):(p::r).lookup x=some p.2:=by
 rw[←Prod.eta p,fm,e,beq_self_eq_true]
theorem lkN{κ α:Type} [BEq κ] [LawfulBEq κ] {x:κ}{p:κ×α}{r:List (κ×α)}(e:x≠p.1):(p::r).lookup x=r.lookup x:=by
 rw[←Prod.eta p,fm,beq_eq_false_iff_ne.mpr e]
theorem lkE{κ α:Type} [BEq κ] [LawfulBEq κ] [DecidableEq κ] {x:κ}{p:κ×α}{r:List (κ×α)}{o:Option α}{G:Prop}(h:(p::r).lookup x=o)(a:x=p.1→o=some p.2→G)(b:r.lookup x=o→x≠p.1→G):G:=
 if e:x=p.1 then a e (h.symm.trans (lkY e)) else b ((lkN e).symm.trans h) e
end Pw
end
section
open PySem
namespace Pw
noncomputable abbrev D:=PyData
inductive Tg where
 | one (i:Nat)
 | two (i j:Nat)
deriving DecidableEq
inductive Bi where
 | len | lst | tup | max1 | max2 | sum | abs | divmod | lenset | range | reversed
deriving DecidableEq
inductive Mt where
 | bitLength | count | startswith | endswith | find3 | split | replace | join | flagName
deriving DecidableEq
inductive IE where
 | none
 | bool (b:Bool)
 | int (i:Int)
 | str (s:String)
 | var (i:Nat)
 | bor (i:Nat)
 | glo (k:Nat)
 | bin (op:Operator) (a b:IE)
 | un (op:UnaryOp) (a:IE)
 | cmp (op:CmpOp) (a b:IE)
 | not (a:IE)
 | and (a b:IE)
 | or (a b:IE)
 | ite (c a b:IE)
 | list (es:List IE)
 | tup (es:List IE)
 | idx (a i:IE)
 | slice (a:IE) (lo hi:Option IE)
 | call (f:Nat) (args:List IE)
 | bi (b:Bi) (args:List IE)
 | mt (m:Mt) (a:IE) (args:List IE)
 | attr (i:Nat) (nm:String)
 | methW (i:Nat)
 | comp (elt:IE) (gens:List (Tg×IE×List IE)) (own:List String) (free:List Nat)
inductive IS where
 | assign (i:Nat) (e:IE)
 | assignM (i:Nat) (e:IE)
 | assigns (is:List Nat) (e:IE)
 | unpack (i j:Nat) (e:IE)
 | unpackT (i j:Nat) (a b:IE)
 | aug (i:Nat) (op:Operator) (e:IE)
 | setidx (i:Nat) (k e:IE)
 | delidx (i:Nat) (k:IE)
 | append (i:Nat) (e:IE)
 | appendPop (i j:Nat) (k:IE)
 | extend (i:Nat) (e:IE)
 | reverse (i:Nat)
 | ife (c:IE) (t e:List IS)
 | whil (fuel:Nat) (c:IE) (body:List IS)
 | fore (t:Tg) (src:IE) (body orelse:List IS)
 | ret (e:IE)
 | brk
 | pas
 | assert (c:IE)
 | frz (i:Nat)
 | setattr (i:Nat) (nm:String) (e:IE)
 | mkW (i:Nat) (e:IE)
 | stuck
inductive Var where
 | u0
 | fro (d:D)
 | mut (ds:List D)
 | inst (fs:List (String×D))
 | minst (fs:List (String×D))
noncomputable abbrev St:=List Var
inductive Fl where
 | next | brk | ret (d:D)
noncomputable abbrev FT:=Nat→Option (Nat×(List D→Option D))
noncomputable def iJ(a b:Int):Bool:=decide (a.natAbs<2^40000)&&decide (b.natAbs<2^40000)
noncomputable def few:Nat:=1048576
noncomputable def Ih(op:Operator)(a b:Int):Option D:=match op with
 | .Add=>some (.int (a+b))
 | .Sub=>some (.int (a-b))
 | .Mult=>if iJ a b then some (.int (a*b)) else none
 | .FloorDiv=>if b≠0∧b.natAbs<2^64 then some (.int (a.fdiv b)) else none
 | .Mod=>if b≠0 then some (.int (a.fmod b)) else none
 | .Pow=>if 0≤b∧b<10000∧a.natAbs≤16 then some (.int (a^b.toNat)) else none
 | .LShift=>if 0≤b∧b<10000∧iJ a 0 then some (.int (a*2^b.toNat)) else none
 | .RShift=>if 0≤b then some (.int (a.fdiv (2^b.toNat))) else none
 | .BitAnd=>some (.int (aO a b))
 | .BitOr=>some (.int (eo a b))
 | .BitXor=>some (.int (Builtin.bitXor a b))
 | .MatMult=>none
 | .Div=>none
noncomputable def Ib(op:Operator)(a b:Str):Option D:=match op with
 | .Add=>if a.length+b.length≤few then some (.str (a++b)) else none
 | _=>none
noncomputable def Ic(op:Operator)(a:Str)(n:Int):Option D:=match op with
 | .Mult=>if n<1000∧a.length≤1000∧ -1000<n then some (.str (Txt.mul a n)) else none
 | _=>none
noncomputable def Ie(op:Operator)(a b:List D):Option D:=match op with
 | .Add=>if a.length+b.length≤few then some (.list (a++b)) else none
 | _=>none
noncomputable def Ig(op:Operator)(a:List D)(n:Int):Option D:=match op with
 | .Mult=>if n<1000∧a.length≤1000∧ -1000<n then some (.list (aq n.toNat a).flatten) else none
 | _=>none
noncomputable def dO(op:Operator)(x y:D):Option D:=match x with
 | .int a=>match y with
  | .int b=>Ih op a b
  | _=>none
 | .str a=>match y with
  | .str b=>Ib op a b
  | .int n=>Ic op a n
  | _=>none
 | .list a=>match y with
  | .list b=>Ie op a b
  | .int n=>Ig op a n
  | _=>none
 | _=>none
noncomputable def unD:UnaryOp→D→Option D
 | .USub,.int a=>some (.int (-a))
 | .Invert,.int a=>some (.int (-a-1))
 | _,_=>none
noncomputable def cu(d:D):Bool:=SeqAt.shaped d
noncomputable def gj(op:CmpOp)(x y:D):Option Bool:=match y with
 | .int b=>match x with
  | .int a=>match op with
   | .Eq=>some (a==b)
   | .NotEq=>some (a !=b)
   | .Lt=>some (decide (a<b))
   | .LtE=>some (decide (a≤b))
   | .Gt=>some (decide (a>b))
   | .GtE=>some (decide (a≥b))
   | _=>none
  | _=>none
 | .str b=>match x with
  | .str a=>match op with
   | .Eq=>some (a.cps.toList==b.cps.toList)
   | .In=>some (Txt.contains b a)
   | .NotIn=>some (!Txt.contains b a)
   | _=>none
  | _=>none
 | .list b=>match op with
  | .Eq=>match x with
   | .list a=>if cu (.list a)&&cu (.list b) then some (PyData.eqv (.list a) (.list b)) else none
   | _=>none
  | .NotEq=>match x with
   | .list a=>if cu (.list a)&&cu (.list b) then some (!PyData.eqv (.list a) (.list b)) else none
   | _=>none
  | .In=>if cu x&&cu (.list b) then some (b.any fun z=>PyData.eqv z x) else none
  | .NotIn=>if cu x&&cu (.list b) then some (!b.any fun z=>PyData.eqv z x) else none
  | _=>none
 | _=>none
noncomputable def fv:D→Option Bool
 | .none=>some false
 | .bool b=>some b
 | .int i=>some (i !=0)
 | .str s=>if s.length≤few then some (s.length !=0) else none
 | .list xs=>if xs.length≤few then some (!xs.isEmpty) else none
 | _=>none
noncomputable def o4:D→Option (List D)
 | .list xs=>some xs
 | .tuple xs=>some xs
 | _=>none
noncomputable def idxD(xs:List D)(k:Int):Option D:=
 if 0≤k then(if k<few then xs[k.toNat]? else none) else if -(xs.length:Int)≤k∧xs.length≤few then xs[(k+xs.length).toNat]? else none
noncomputable def gL:List D→Option (List Int)
 | []=>some []
 | .int i::r=>(gL r).map (i::·)
 | _=>none
theorem sL{i r}:gL (.int i::r)=((gL r).map (i::·)):=rfl
noncomputable def l8:List D→Option (List Str)
 | []=>some []
 | .str i::r=>(l8 r).map (i::·)
 | _=>none
theorem yI{i r}:l8 (.str i::r)=((l8 r).map (i::·)):=rfl
noncomputable def xS:List Int→Option Int
 | []=>none
 | a::r=>some (r.foldl (fun m x=>if m<x then x else m) a)
noncomputable def fH(lo hi st:Int):List Int:=
 if st=1 then(bu (hi-lo).toNat).map fun(k:Nat)=>lo+k else(bu (lo-hi).toNat).map fun(k:Nat)=>lo-k
noncomputable def biD(b:Bi)(ds:List D):Option D:=match b with
 | .len=>match ds with
  | y::[]=>match y with
   | .list xs=>if xs.length≤few then some (.int xs.length) else none
   | .tuple xs=>if xs.length≤few then some (.int xs.length) else none
   | .str x=>if x.length≤few then some (.int x.length) else none
   | _=>none
  | _=>none
 | .lst=>match ds with
  | y::[]=>match y with
   | .list xs=>if xs.length≤few then some (.list xs) else none
   | _=>none
  | _=>none
 | .tup=>match ds with
  | y::[]=>match y with
   | .list xs=>if xs.length≤few then some (.tuple xs) else none
   | _=>none
  | _=>none
 | .max1=>match ds with
  | y::[]=>match y with
   | .list xs=>(gL xs).bind fun is=>(xS is).map .int
   | _=>none
  | _=>none
 | .max2=>match ds with
  | y::t=>match t with
   | z::[]=>match y with
    | .int a=>match z with
     | .int b=>some (.int (if b>a then b else a))
     | _=>none
    | _=>none
   | _=>none
  | _=>none
 | .sum=>match ds with
  | y::[]=>match y with
   | .list xs=>(gL xs).map fun is=> .int is.sum
   | _=>none
  | _=>none
 | .abs=>match ds with
  | y::[]=>match y with
   | .int a=>some (.int a.natAbs)
   | _=>none
  | _=>none
 | .divmod=>match ds with
  | y::t=>match t with
   | z::[]=>match y with
    | .int a=>match z with
     | .int b=>if b≠0∧b.natAbs<2^5000 then some (.tuple [.int (a.fdiv b),.int (a.fmod b)]) else none
     | _=>none
    | _=>none
   | _=>none
  | _=>none
 | .lenset=>match ds with
  | y::[]=>match y with
   | .list xs=>(gL xs).bind fun is=>if is.length≤1000 then some (.int (PyProof.Rows.firstMet (fun i=>is.getD i 0) is.length).length) else none
   | _=>none
  | _=>none
 | _=>none
noncomputable def bitLen(a:Int):Nat:=if a=0 then 0 else a.natAbs.log2+1
noncomputable def DI:List (Int×String):=[(1,"OPTIMIZED"),(2,"NEWLOCALS"),(4,"VARARGS"),(8,"VARKEYWORDS"),(16,"NESTED"),(32,"GENERATOR"),(64,"NOFREE"),(128,"COROUTINE"),(256,"ITERABLE_COROUTINE"),(512,"ASYNC_GENERATOR"),(1024,"0x400"),(2048,"0x800")]
noncomputable def gk(i:Int):Option String:=DI.lookup i
theorem kU{α β:Type} [BEq α] [LawfulBEq α] {l:List (α×β)}{a:α}{b:β}(h:l.lookup a=some b):(a,b)∈l:=by
 induction l with
 | nil=>cases h
 | cons p l ih=>
  obtain⟨x,y⟩:=p
  cases q:a==x with
  | true=>rw[fm,q]at h; cases h; rw[eq_of_beq q]; exact .head _
  | false=>rw[fm,q]at h; exact .tail _ (ih h)
noncomputable def ib(x y:Str)(lo hi:Int):Int:=
 match Builtin.Str.occurrences x y lo.toNat (min hi.toNat x.length) 1 with | i::_=>(i:Int) | []=> -1
noncomputable def mtD(m:Mt)(x:D)(ds:List D):Option D:=match m with
 | .bitLength=>match x with
  | .int a=>match ds with
   | []=>some (.int (bitLen a))
   | _=>none
  | _=>none
 | .count=>match ds with
  | y::[]=>match x with
   | .list xs=>match y with
    | .int a=>(gL xs).bind fun is=>if is.length≤few then some (.int (List.count a is:Nat)) else none
    | _=>none
   | .str x=>match y with
    | .str y=>if x.length≤few then some (.int (Txt.count x y)) else none
    | _=>none
   | _=>none
  | _=>none
 | .startswith=>match x with
  | .str x=>match ds with
   | y::[]=>match y with
    | .str y=>some (.bool (Txt.startswith x y))
    | _=>none
   | _=>none
  | _=>none
 | .endswith=>match x with
  | .str x=>match ds with
   | y::[]=>match y with
    | .str y=>some (.bool (Txt.endswith x y))
    | _=>none
   | _=>none
  | _=>none
 | .find3=>match x with
  | .str x=>match ds with
   | y::t=>match t with
    | z::t=>match t with
     | w::[]=>match y with
      | .str y=>match z with
       | .int lo=>match w with
        | .int hi=>if 0≤lo∧0≤hi∧lo<few∧hi<few then some (.int (ib x y lo hi)) else none
        | _=>none
       | _=>none
      | _=>none
     | _=>none
    | _=>none
   | _=>none
  | _=>none
 | .split=>match x with
  | .str x=>match ds with
   | y::[]=>match y with
    | .str y=>if x.length≤4000∧0<y.length then some (.list ((Txt.split x y).map .str)) else none
    | _=>none
   | _=>none
  | _=>none
 | .replace=>match x with
  | .str x=>match ds with
   | y::t=>match t with
    | z::[]=>match y with
     | .str y=>match z with
      | .str z=>if x.length≤1000∧z.length≤1000∧y≠z then some (.str (Txt.replace x y z)) else none
      | _=>none
     | _=>none
    | _=>none
   | _=>none
  | _=>none
 | .join=>match x with
  | .str x=>match ds with
   | y::[]=>match y with
    | .list ys=>(l8 ys).bind fun ss=>if(ss.map (·.length)).sum+ss.length*x.length≤few∧0<x.length then some (.str (Txt.join x ss)) else none
    | _=>none
   | _=>none
  | _=>none
 | .flagName=>match x with
  | .int a=>match ds with
   | []=>(gk a).map fun w=> .str (aa w)
   | _=>none
  | _=>none
noncomputable def DG:Nat→Option D
 | 0=>some (.str (aa "..."))
 | 1=>some (.int 4000)
 | 2=>some (.str (aa " "))
 | 3=>some (.str (aa "\t"))
 | _=>none
noncomputable def mask(free:List Nat)(σ:St)(m:Nat):St:=
 (bu σ.length).map (fun i=>if free.contains i then(match σ[i]? with | some (.fro d)=> .fro d | _=> .u0) else .u0)++aq m .u0
noncomputable def gE(t:Tg)(d:D)(σ:St):Option St:=
 match t with
 | .one i=>some (σ.set i (.fro d))
 | .two i j=>match d with
  | .tuple [a,b]=>some ((σ.set i (.fro a)).set j (.fro b))
  | _=>none
noncomputable def eZ(f:D→Option (List D)):List D→Option (List D)
 | []=>some []
 | d::r=>(f d).bind fun a=>(eZ f r).map (a++·)
theorem nC{f:D→Option (List D)}{d r}:eZ f (d::r)=((f d).bind fun a=>(eZ f r).map (a++·)):=rfl
noncomputable def jP(ev:St→IE→Option D)(σ:St):List IE→Option Bool
 | []=>some true
 | c::r=>(ev σ c).bind fun d=>(fv d).bind fun b=>if b then jP ev σ r else some false
noncomputable def mo(ds:List D):Option (List D):=match ds with
 | []=>none
 | x::t=>match x with
  | .int a=>match t with
   | []=>if -few≤a∧a<few then some ((fH 0 a 1).map .int) else none
   | y::t=>match y with
    | .int b=>match t with
     | []=>if -few≤a∧a<few∧ -few≤b∧b<few then some ((fH a b 1).map .int) else none
     | z::t=>match z with
      | .int c=>match t with
       | []=>if c= -1∧ -few≤a∧a<few∧ -few≤b∧b<few then some ((fH a b c).map .int) else none
       | _::_=>none
      | _=>none
    | _=>none
  | _=>none
noncomputable def Gu(d:D):Option (List D):=match d with
 | .list xs=>if xs.length≤few then some xs.reverse else none
 | _=>none
noncomputable def zh(d:D):Option (List D):=match d with
 | .list xs=>if xs.length≤few then some xs else none
 | .tuple xs=>if xs.length≤few then some xs else none
 | .str s=>if s.length≤few∧s.cps.all (·<128) then some (s.cps.toList.map fun c=> .str ⟨#[c]⟩) else none
 | _=>none
noncomputable def asRange(e:IE):Option (List IE):=IE.casesOn (motive_1:=fun υ=>Option (List IE)) e none (fun υ=>none) (fun υ=>none) (fun υ=>none) (fun υ=>none) (fun υ=>none) (fun υ=>none) (fun υ υ υ=>none) (fun υ υ=>none) (fun υ υ υ=>none) (fun υ=>none) (fun υ υ=>none) (fun υ υ=>none) (fun υ υ υ=>none) (fun υ=>none) (fun υ=>none) (fun υ υ=>none) (fun υ υ υ=>none) (fun υ υ=>none) (fun b es=>if b= .range then some es else none) (fun υ υ υ=>none) (fun υ υ=>none) (fun υ=>none) (fun υ υ υ υ=>none)
noncomputable def asRev(e:IE):Option IE:=IE.casesOn (motive_1:=fun υ=>Option IE) e none (fun υ=>none) (fun υ=>none) (fun υ=>none) (fun υ=>none) (fun υ=>none) (fun υ=>none) (fun υ υ υ=>none) (fun υ υ=>none) (fun υ υ υ=>none) (fun υ=>none) (fun υ υ=>none) (fun υ υ=>none) (fun υ υ υ=>none) (fun υ=>none) (fun υ=>none) (fun υ υ=>none) (fun υ υ υ=>none) (fun υ υ=>none) (fun b es=>if b= .reversed then(match es with | []=>none | x::t=>match t with | []=>some x | _::_=>none) else none) (fun υ υ υ=>none) (fun υ υ=>none) (fun υ=>none) (fun υ υ υ υ=>none)
noncomputable def jF(ev:St→IE→Option D)(σ:St)(e:IE):Option (List D):=match asRange e with
 | some es=>(es.mapM (ev σ)).bind mo
 | none=>match asRev e with
  | some e=>(ev σ e).bind Gu
  | none=>(ev σ e).bind zh
noncomputable def nS(ev:St→IE→Option D)(elt:IE):List (Tg×IE×List IE)→St→Option (List D)
 | [],σ=>(ev σ elt).map ([·])
 | (t,src,ifs)::r,σ=>(jF ev σ src).bind fun items=>eZ (fun d=>(gE t d σ).bind fun σ'=>(jP ev σ' ifs).bind fun b=>if b then nS ev elt r σ' else some []) items
theorem Ap{ev:St→IE→Option D}{elt:IE}{t src ifs r σ}:nS ev elt ((t,src,ifs)::r) σ=((jF ev σ src).bind fun items=>eZ (fun d=>(gE t d σ).bind fun σ'=>(jP ev σ' ifs).bind fun b=>if b then nS ev elt r σ' else some []) items):=rfl
noncomputable def j8(ev:St→IE→Option D)(σ:St)(elt:IE)(gens:List (Tg×IE×List IE))(own:List String)(free:List Nat):Option D:=
 match gens with
 | (t,src,ifs)::r=>(jF ev σ src).bind fun items=>
   (eZ (fun d=>(gE t d (mask free σ own.length)).bind fun σ'=>(jP ev σ' ifs).bind fun b=>if b then nS ev elt r σ' else some []) items).bind fun ds=>
    if ds.length≤few then some (.list ds) else none
 | []=>none
noncomputable def sliceD(xs:List D)(lo hi:Option Int):Option (List D):=
 if(lo.all fun(i:Int)=>decide (0≤i∧i<few))&&(hi.all fun(i:Int)=>decide (0≤i∧i<few))&&decide (xs.length≤few) then
  some ((match hi with | some j=>xs.take j.toNat | none=>xs).drop (match lo with | some i=>i.toNat | none=>0))
 else none
noncomputable def jq(ev:IE→Option D):Option IE→Option (Option Int)
 | none=>some none
 | some e=>match ev e with | some (.int i)=>some (some i) | _=>none
noncomputable def wNames:List String:=["raw","n","nt","norm","is_simple"]
noncomputable def evE(ft:FT):Nat→St→IE→Option D
 | 0,_,_=>none
 | n+1,σ,e=>match e with
  | .none=>some .none
  | .bool b=>some (.bool b)
  | .int i=>some (.int i)
  | .str s=>some (.str (aa s))
  | .var i=>match σ[i]? with | some (.fro d)=>some d | _=>none
  | .bor i=>match σ[i]? with | some (.fro d)=>some d | some (.mut ds)=>some (.list ds) | _=>none
  | .glo k=>DG k
  | .bin op a b=>(evE ft n σ a).bind fun x=>(evE ft n σ b).bind fun y=>dO op x y
  | .un op a=>(evE ft n σ a).bind fun x=>unD op x
  | .cmp op a b=>(evE ft n σ a).bind fun x=>(evE ft n σ b).bind fun y=>(gj op x y).map .bool
  | .not a=>(evE ft n σ a).bind fun x=>(fv x).map fun b=> .bool !b
  | .and a b=>(evE ft n σ a).bind fun x=>match x with | .bool true=>evE ft n σ b | .bool false=>some (.bool false) | _=>none
  | .or a b=>(evE ft n σ a).bind fun x=>match x with | .bool false=>evE ft n σ b | .bool true=>some (.bool true) | _=>none
  | .ite c a b=>(evE ft n σ c).bind fun x=>(fv x).bind fun t=>if t then evE ft n σ a else evE ft n σ b
  | .list es=>(es.mapM (evE ft n σ)).bind fun ds=>if ds.length≤few then some (.list ds) else none
  | .tup es=>(es.mapM (evE ft n σ)).bind fun ds=>if ds.length≤few then some (.tuple ds) else none
  | .idx a i=>(evE ft n σ a).bind fun x=>(evE ft n σ i).bind fun y=>match o4 x,y with | some xs,.int k=>idxD xs k | _,_=>none
  | .slice a lo hi=>(evE ft n σ a).bind fun x=>(jq (evE ft n σ) lo).bind fun l=>(jq (evE ft n σ) hi).bind fun h=>match x with | .list xs=>(sliceD xs l h).map .list | _=>none
  | .call f es=>match ft f with | some (c,F)=>if c≤n then(es.mapM (evE ft n σ)).bind F else none | none=>none
  | .bi b es=>(es.mapM (evE ft n σ)).bind fun ds=>biD b ds
  | .mt m a es=>(evE ft n σ a).bind fun x=>(es.mapM (evE ft n σ)).bind fun ds=>mtD m x ds
  | .attr i nm=>match σ[i]? with | some (.inst fs)=>fs.lookup nm | some (.minst fs)=>fs.lookup nm | _=>none
  | .methW i=>match σ[i]? with | some (.inst fs)=>(match ft 21 with | some (c,F)=>if c≤n∧fs.map (·.1)=wNames then F [.tuple (fs.map (·.2))] else none | none=>none) | _=>none
  | .comp elt gens own free=>j8 (evE ft n) σ elt gens own free
noncomputable def fN(ft:FT)(n:Nat)(σ:St)(c:IE):Option Bool:=(evE ft n σ c).bind fv
noncomputable def eV(t:Tg)(body:St→Option (Fl×St)):List D→St→Option (Fl×St)
 | [],σ=>some (.next,σ)
 | d::r,σ=>(gE t d σ).bind fun σ₁=>(body σ₁).bind fun x=>match x with
  | (.next,σ₂)=>eV t body r σ₂
  | y=>some y
theorem Aw{t:Tg}{body:St→Option (Fl×St)}{σ}:eV t body [] σ=(some (.next,σ)):=rfl
theorem tj{t:Tg}{body:St→Option (Fl×St)}{d r σ}:eV t body (d::r) σ=((gE t d σ).bind fun σ₁=>(body σ₁).bind fun x=>match x with
  | (.next,σ₂)=>eV t body r σ₂
  | y=>some y):=rfl
noncomputable def gR(test:St→Option Bool)(body:St→Option (Fl×St)):Nat→St→Option (Fl×St)
 | 0,_=>none
 | k+1,σ=>(test σ).bind fun b=>if b then(body σ).bind fun x=>(match x with
   | (.next,σ₂)=>gR test body k σ₂
   | (.brk,σ₂)=>some (.next,σ₂)
   | y=>some y) else some (.next,σ)
theorem l7{test:St→Option Bool}{body:St→Option (Fl×St)}{k σ}:gR test body (k+1) σ=((test σ).bind fun b=>if b then(body σ).bind fun x=>(match x with
   | (.next,σ₂)=>gR test body k σ₂
   | (.brk,σ₂)=>some (.next,σ₂)
   | y=>some y) else some (.next,σ)):=rfl
noncomputable def augD:Operator→Int→Int→Option Int
 | .Add,a,b=>some (a+b)
 | .Sub,a,b=>some (a-b)
 | .BitXor,a,b=>some (Builtin.bitXor a b)
 | _,_,_=>none
noncomputable def sJ:Option Var→Bool
 | some (.minst _)=>true
 | _=>false
noncomputable def onlyMinst(σ:St)(i:Nat):Bool:=(bu σ.length).all fun j=>j==i|| !sJ σ[j]?
noncomputable def mj(σ:St)(d:D):List Nat→St
 | []=>σ
 | i::r=>mj (σ.set i (.fro d)) d r
mutual
noncomputable def evS(ft:FT):Nat→St→IS→Option (Fl×St)
 | 0,_,_=>none
 | n+1,σ,s=>match s with
  | .assign i e=>(evE ft n σ e).map fun d=>(.next,σ.set i (.fro d))
  | .assignM i e=>(evE ft n σ e).bind fun d=>match d with | .list ds=>some (.next,σ.set i (.mut ds)) | _=>none
  | .assigns is e=>(evE ft n σ e).map fun d=>(.next,mj σ d is)
  | .unpack i j e=>(evE ft n σ e).bind fun d=>match d with | .tuple [a,b]=>some (.next,(σ.set i (.fro a)).set j (.fro b)) | _=>none
  | .unpackT i j a b=>(evE ft n σ a).bind fun x=>(evE ft n σ b).map fun y=>(.next,(σ.set i (.fro x)).set j (.fro y))
  | .aug i op e=>match σ[i]? with
   | some (.fro x)=>(evE ft n σ e).bind fun y=>match x,y with
    | .int a,.int b=>(augD op a b).map fun d=>(.next,σ.set i (.fro (.int d)))
    | _,_=>none
   | _=>none
  | .setidx i k e=>(evE ft n σ e).bind fun d=>match σ[i]? with
   | some (.mut ds)=>(evE ft n σ k).bind fun y=>match y with
    | .int j=>if 0≤j∧j<ds.length∧ds.length≤few then some (.next,σ.set i (.mut (ds.set j.toNat d))) else none
    | _=>none
   | _=>none
  | .delidx i k=>match σ[i]? with
   | some (.mut ds)=>(evE ft n σ k).bind fun y=>match y with
    | .int j=>if ds.length≤few then(if 0≤j∧j<ds.length then some (.next,σ.set i (.mut (ds.eraseIdx j.toNat))) else if j= -1∧0<ds.length then some (.next,σ.set i (.mut ds.dropLast)) else none) else none
    | _=>none
   | _=>none
  | .append i e=>match σ[i]? with
   | some (.mut ds)=>(evE ft n σ e).bind fun d=>if ds.length<few then some (.next,σ.set i (.mut (ds++[d]))) else none
   | _=>none
  | .appendPop i j k=>match σ[i]?,σ[j]? with
   | some (.mut ds),some (.mut es)=>(evE ft n σ k).bind fun y=>match y with
    | .int m=>if 0≤m∧m<es.length∧es.length≤few∧ds.length<few∧i≠j then(es[m.toNat]?).map fun d=>(.next,(σ.set j (.mut (es.eraseIdx m.toNat))).set i (.mut (ds++[d]))) else none
    | _=>none
   | _,_=>none
  | .extend i e=>match σ[i]? with
   | some (.mut ds)=>(evE ft n σ e).bind fun d=>match d with
    | .list es=>if ds.length+es.length≤few then some (.next,σ.set i (.mut (ds++es))) else none
    | _=>none
   | _=>none
  | .reverse i=>match σ[i]? with
   | some (.mut ds)=>if ds.length≤few then some (.next,σ.set i (.mut ds.reverse)) else none
   | _=>none
  | .ife c t e=>(fN ft n σ c).bind fun b=>if b then dU ft n σ t else dU ft n σ e
  | .whil fuel c body=>gR (fun σ=>fN ft n σ c) (fun σ=>dU ft n σ body) fuel σ
  | .fore t src body orelse=>(jF (evE ft n) σ src).bind fun items=>(eV t (fun σ=>dU ft n σ body) items σ).bind fun x=>match x with
   | (.next,σ')=>dU ft n σ' orelse
   | (.brk,σ')=>some (.next,σ')
   | y=>some y
  | .ret e=>(evE ft n σ e).map fun d=>(.ret d,σ)
  | .brk=>some (.brk,σ)
  | .pas=>some (.next,σ)
  | .assert c=>(fN ft n σ c).bind fun b=>if b then some (.next,σ) else none
  | .frz i=>match σ[i]? with
   | some (.mut ds)=>some (.next,σ.set i (.fro (.list ds)))
   | _=>some (.next,σ)
  | .setattr i nm e=>match σ[i]? with
   | some (.minst fs)=>(evE ft n σ e).bind fun d=>if(fs.lookup nm).isNone∧onlyMinst σ i=true then some (.next,σ.set i (.minst (fs++[(nm,d)]))) else none
   | _=>none
  | .mkW i e=>match ft 20 with
   | some (c,F)=>if c≤n then(evE ft n σ e).bind fun d=>match F [d]with
    | some (.tuple [a,b,c,d,e])=>some (.next,σ.set i (.inst [("raw",a),("n",b),("nt",c),("norm",d),("is_simple",e)]))
    | _=>none else none
   | none=>none
  | .stuck=>none
noncomputable def dU(ft:FT):Nat→St→List IS→Option (Fl×St)
 | 0,_,_=>none
 | _+1,σ,[]=>some (.next,σ)
 | n+1,σ,s::r=>(evS ft n σ s).bind fun x=>match x with
  | (.next,σ')=>dU ft n σ' r
  | y=>some y
end
structure Fn where
 names:List String
 args:Nat
 body:List IS
noncomputable def xJ(r:Option (Fl×St)):Option D:=r.bind fun p=>match p.1 with
 | .ret d=>some d
 | .next=>some .none
 | .brk=>none
noncomputable def Fn.run(ft:FT)(n:Nat)(f:Fn)(ds:List D):Option D:=
 if ds.length=f.args then
  xJ (dU ft n (ds.map .fro++aq (f.names.length-f.args) .u0) f.body)
 else none
end Pw
end
section
open PySem
set_option maxRecDepth 4000
namespace Pl
open Pw
section
variable {ft:FT}{n:Nat}{σ σ' σ'':St}{a b c e:IE}{x y z d:D}{i j k:Nat}
theorem ob1{α β:Type}{p:Option α}{x:α}{f:α→Option β}{d:Option β}(h1:p=some x)(h:f x=d):p.bind f=d:=by subst h1; exact h
theorem ob2{α β γ:Type}{p:Option α}{q:Option β}{x:α}{y:β}{f:α→β→Option γ}{d:Option γ}(h1:p=some x)(h2:q=some y)(h:f x y=d):(p.bind fun x=>q.bind fun y=>f x y)=d:=by subst h1; subst h2; exact h
theorem om1{α β:Type}{p:Option α}{x:α}{f:α→β}(h1:p=some x):p.map f=some (f x):=by subst h1; rfl
theorem oi1{α:Type}{c:Prop} [Decidable c] {x:α}(h:c):(if c then some x else none)=some x:=if_pos h
theorem oi2{α:Type}{c:Prop} [Decidable c] {x y:α}{d:α}(h:c)(e:x=d):(if c then x else y)=d:=by rw[if_pos h,e]
theorem oG2{α β γ:Type}{p p':α}{q q':β}{F:α→β→γ}{d:γ}(h:p=p')(h':q=q')(e:F p' q'=d):F p q=d:=by subst h; subst h'; exact e
theorem BE{a b:Int}(h:iJ a b=true):dO .Mult (.int a) (.int b)=some (.int (a*b)):=(if_pos h:(if iJ a b=true then some (PyData.int (a*b)) else none)=_)
theorem xp{a b:Int}(h:b≠0∧b.natAbs<2^64):dO .FloorDiv (.int a) (.int b)=some (.int (a.fdiv b)):=(if_pos h:(if b≠0∧b.natAbs<2^64 then some (PyData.int (a.fdiv b)) else none)=_)
theorem BF{xs:List D}{k:Nat}(h:xs.length=k)(hk:k≤few):biD .len [.list xs]=some (.int k):=by subst h; exact(if_pos hk:(if xs.length≤few then some (PyData.int (xs.length:Nat)) else none)=_)
theorem gy{xs:List D}(h:xs.length≤few):zh (.list xs)=some xs:=(if_pos h:(if xs.length≤few then some xs else none)=_)
theorem va{xs:List D}(h:xs.length≤few):Gu (.list xs)=some xs.reverse:=(if_pos h:(if xs.length≤few then some xs.reverse else none)=_)
theorem nk{a:Int}(h: -few≤a∧a<few):mo [.int a]=some ((fH 0 a 1).map .int):=(if_pos h:(if -few≤a∧a<few then some ((fH 0 a 1).map PyData.int) else none)=_)
theorem za{a b:Int}(h: -few≤a∧a<few∧ -few≤b∧b<few):mo [.int a,.int b]=some ((fH a b 1).map .int):=(if_pos h:(if -few≤a∧a<few∧ -few≤b∧b<few then some ((fH a b 1).map PyData.int) else none)=_)
theorem xo{a b:Int}(h:b≠0):dO .Mod (.int a) (.int b)=some (.int (a.fmod b)):=(if_pos h:(if b≠0 then some (PyData.int (a.fmod b)) else none)=_)
theorem Il{a b:Int}(h:0≤b∧b<10000∧a.natAbs≤16):dO .Pow (.int a) (.int b)=some (.int (a^b.toNat)):=(if_pos h:(if 0≤b∧b<10000∧a.natAbs≤16 then some (PyData.int (a^b.toNat)) else none)=_)
theorem yk{a b:List D}(h:a.length+b.length≤few):dO .Add (.list a) (.list b)=some (.list (a++b)):=(if_pos h:(if a.length+b.length≤few then some (PyData.list (a++b)) else none)=_)
theorem EM{a b:Str}(h:a.length+b.length≤few):dO .Add (.str a) (.str b)=some (.str (a++b)):=(if_pos h:(if a.length+b.length≤few then some (PyData.str (a++b)) else none)=_)
theorem ED{a:List D}{n:Int}(h:n<1000∧a.length≤1000∧ -1000<n):dO .Mult (.list a) (.int n)=some (.list (aq n.toNat a).flatten):=(if_pos h:(if n<1000∧a.length≤1000∧ -1000<n then some (PyData.list (aq n.toNat a).flatten) else none)=_)
theorem EC{a:Str}{n:Int}(h:n<1000∧a.length≤1000∧ -1000<n):dO .Mult (.str a) (.int n)=some (.str (Txt.mul a n)):=(if_pos h:(if n<1000∧a.length≤1000∧ -1000<n then some (PyData.str (Txt.mul a n)) else none)=_)
theorem EH{x:Str}{k:Nat}(h:x.length=k)(hk:k≤few):biD .len [.str x]=some (.int k):=by subst h; exact(if_pos hk:(if x.length≤few then some (PyData.int (x.length:Nat)) else none)=_)
theorem EG{x:List D}{k:Nat}(h:x.length=k)(hk:k≤few):biD .len [.tuple x]=some (.int k):=by subst h; exact(if_pos hk:(if x.length≤few then some (PyData.int (x.length:Nat)) else none)=_)
theorem EF{x:List D}(h:x.length≤few):biD .lst [.list x]=some (.list x):=(if_pos h:(if x.length≤few then some (PyData.list x) else none)=_)
theorem Ii{x:List D}(h:x.length≤few):biD .tup [.list x]=some (.tuple x):=(if_pos h:(if x.length≤few then some (PyData.tuple x) else none)=_)
theorem b_dm{a b:Int}(h:b≠0∧b.natAbs<2^5000):biD .divmod [.int a,.int b]=some (.tuple [.int (a.fdiv b),.int (a.fmod b)]):=(if_pos h:(if b≠0∧b.natAbs<2^5000 then some (PyData.tuple [.int (a.fdiv b),.int (a.fmod b)]) else none)=_)
theorem EK{x y:Str}{p q:Int}(h:0≤p∧0≤q∧p<few∧q<few):mtD .find3 (.str x) [.str y,.int p,.int q]=some (.int (ib x y p q)):=(if_pos h:(if 0≤p∧0≤q∧p<few∧q<few then some (PyData.int (ib x y p q)) else none)=_)
theorem BB{x y:Str}(h:x.length≤4000∧0<y.length):mtD .split (.str x) [.str y]=some (.list ((Txt.split x y).map .str)):=(if_pos h:(if x.length≤4000∧0<y.length then some (PyData.list ((Txt.split x y).map PyData.str)) else none)=_)
theorem EB{x y z:Str}(h:x.length≤1000∧z.length≤1000∧y≠z):mtD .replace (.str x) [.str y,.str z]=some (.str (Txt.replace x y z)):=(if_pos h:(if x.length≤1000∧z.length≤1000∧y≠z then some (PyData.str (Txt.replace x y z)) else none)=_)
theorem EL{x y:Str}(h:x.length≤few):mtD .count (.str x) [.str y]=some (.int (Txt.count x y)):=(if_pos h:(if x.length≤few then some (PyData.int (Txt.count x y)) else none)=_)
theorem Iv{a b:List D}(h:(cu (.list a)&&cu (.list b))=true):gj .Eq (.list a) (.list b)=some (PyData.eqv (.list a) (.list b)):=(if_pos h:(if(cu (.list a)&&cu (.list b))=true then some (PyData.eqv (.list a) (.list b)) else none)=_)
theorem Ip{a b:List D}(h:(cu (.list a)&&cu (.list b))=true):gj .NotEq (.list a) (.list b)=some (!PyData.eqv (.list a) (.list b)):=(if_pos h:(if(cu (.list a)&&cu (.list b))=true then some (!PyData.eqv (.list a) (.list b)) else none)=_)
theorem EJ{x:D}{b:List D}(h:(cu x&&cu (.list b))=true):gj .In x (.list b)=some (b.any fun z=>PyData.eqv z x):=(if_pos h:(if(cu x&&cu (.list b))=true then some (b.any fun z=>PyData.eqv z x) else none)=_)
theorem xn{a b:Int}(h:0≤b∧b<10000∧iJ a 0=true):dO .LShift (.int a) (.int b)=some (.int (a*2^b.toNat)):=(if_pos h:(if 0≤b∧b<10000∧iJ a 0=true then some (PyData.int (a*2^b.toNat)) else none)=_)
theorem Ij{a b:Int}(h:0≤b):dO .RShift (.int a) (.int b)=some (.int (a.fdiv (2^b.toNat))):=if_pos h
theorem oG{α β:Type}{p q:α}{F:α→β}{d:β}(h:p=q)(e:F q=d):F p=d:=by subst h; exact e
theorem cO{v:Int}:evE ft (n+1) σ (.int v)=some (.int v):=rfl
theorem ji{s:String}:evE ft (n+1) σ (.str s)=some (.str (aa s)):=rfl
theorem pq{v:Bool}:evE ft (n+1) σ (.bool v)=some (.bool v):=rfl
theorem aF(h:σ[i]? =some (.fro d)):evE ft (n+1) σ (.var i)=some d:=oG (F:=fun o:Option Var=>match o with | some (.fro d)=>some d | _=>none) h rfl
theorem HP(h:σ[i]? =some (.fro d)):evE ft (n+1) σ (.bor i)=some d:=oG (F:=fun o:Option Var=>match o with | some (.fro d)=>some d | some (.mut ds)=>some (.list ds) | _=>none) h rfl
theorem ic{ds:List D}(h:σ[i]? =some (.mut ds)):evE ft (n+1) σ (.bor i)=some (.list ds):=oG (F:=fun o:Option Var=>match o with | some (.fro d)=>some d | some (.mut ds)=>some (.list ds) | _=>none) h rfl
theorem wL(h:DG k=some d):evE ft (n+1) σ (.glo k)=some d:=h
theorem cm{op:Operator}(h1:evE ft n σ a=some x)(h2:evE ft n σ b=some y)(h:dO op x y=some d):evE ft (n+1) σ (.bin op a b)=some d:=ob2 h1 h2 h
theorem uu{op:UnaryOp}(h1:evE ft n σ a=some x)(h:unD op x=some d):evE ft (n+1) σ (.un op a)=some d:=ob1 h1 h
theorem ei{op:CmpOp}{t:Bool}(h1:evE ft n σ a=some x)(h2:evE ft n σ b=some y)(h:gj op x y=some t):evE ft (n+1) σ (.cmp op a b)=some (.bool t):=ob2 h1 h2 (om1 h)
theorem AO{t:Bool}(h1:evE ft n σ a=some x)(h:fv x=some t):evE ft (n+1) σ (.not a)=some (.bool !t):=ob1 h1 (om1 h)
theorem yd(h1:evE ft n σ a=some (.bool true))(h2:evE ft n σ b=some d):evE ft (n+1) σ (.and a b)=some d:=ob1 h1 h2
theorem D5(h1:evE ft n σ a=some (.bool false)):evE ft (n+1) σ (.and a b)=some (.bool false):=ob1 h1 rfl
theorem AN(h1:evE ft n σ a=some (.bool false))(h2:evE ft n σ b=some d):evE ft (n+1) σ (.or a b)=some d:=ob1 h1 h2
theorem HO{t:Bool}(h1:evE ft n σ c=some x)(h:fv x=some t)(h2:(if t then evE ft n σ a else evE ft n σ b)=some d):evE ft (n+1) σ (.ite c a b)=some d:=ob1 h1 (ob1 h h2)
theorem d8{es:List IE}{ds:List D}(h:es.mapM (evE ft n σ)=some ds)(hl:ds.length≤few):evE ft (n+1) σ (.list es)=some (.list ds):=ob1 h (oi1 hl)
theorem lR{es:List IE}{ds:List D}(h:es.mapM (evE ft n σ)=some ds)(hl:ds.length≤few):evE ft (n+1) σ (.tup es)=some (.tuple ds):=ob1 h (oi1 hl)
theorem j6{xs:List D}{m:Int}(h1:evE ft n σ a=some x)(h2:evE ft n σ b=some (.int m))(hx:o4 x=some xs)(h:idxD xs m=some d):evE ft (n+1) σ (.idx a b)=some d:=ob2 h1 h2 (oG (F:=fun o:Option (List D)=>match o,(PyData.int m) with | some xs,.int k=>idxD xs k | _,_=>none) hx h)
theorem n4{xs ys:List D}{lo hi:Option IE}{l h:Option Int}(h1:evE ft n σ a=some (.list xs))(h2:jq (evE ft n σ) lo=some l)(h3:jq (evE ft n σ) hi=some h)(h4:sliceD xs l h=some ys):evE ft (n+1) σ (.slice a lo hi)=some (.list ys):=ob1 h1 (ob2 h2 h3 (om1 h4))
theorem eT{es:List IE}{ds:List D}{f cst:Nat}{F:List D→Option D}(hf:ft f=some (cst,F))(hc:cst≤n)(h:es.mapM (evE ft n σ)=some ds)(hF:F ds=some d):evE ft (n+1) σ (.call f es)=some d:=oG (F:=fun o:Option (Nat×(List D→Option D))=>match o with | some (c,F)=>if c≤n then(es.mapM (evE ft n σ)).bind F else none | none=>none) hf (oi2 hc (ob1 h hF))
theorem kq{es:List IE}{ds:List D}{bb:Bi}(h:es.mapM (evE ft n σ)=some ds)(hb:biD bb ds=some d):evE ft (n+1) σ (.bi bb es)=some d:=ob1 h hb
theorem qt{es:List IE}{ds:List D}{m:Mt}(h1:evE ft n σ a=some x)(h:es.mapM (evE ft n σ)=some ds)(hm:mtD m x ds=some d):evE ft (n+1) σ (.mt m a es)=some d:=ob2 h1 h hm
theorem tK{gens:List (Tg×IE×List IE)}{own:List String}{free:List Nat}(h:j8 (evE ft n) σ e gens own free=some d):evE ft (n+1) σ (.comp e gens own free)=some d:=h
theorem bU{f:IE→Option D}:([]:List IE).mapM f=some []:=rfl
theorem aS{f:IE→Option D}{es:List IE}{ds:List D}(h1:f a=some x)(h2:es.mapM f=some ds):(a::es).mapM f=some (x::ds):=by
 rw[List.mapM_cons,h1,h2]; rfl
theorem fF{t:Bool}(h1:evE ft n σ a=some x)(h:fv x=some t):fN ft n σ a=some t:=ob1 h1 h
theorem cU:dU ft (n+1) σ []=some (.next,σ):=rfl
theorem aH{s:IS}{r:List IS}(h:evS ft n σ s=some (.next,σ')):dU ft (n+1) σ (s::r)=dU ft n σ' r:=ob1 h rfl
theorem dt{s:IS}{r:List IS}{f:Fl}(h:evS ft n σ s=some (f,σ'))(hf:f≠ .next):dU ft (n+1) σ (s::r)=some (f,σ'):=ob1 h (by cases f<;>first | exact absurd rfl hf | rfl)
theorem bf(h:evE ft n σ e=some d):evS ft (n+1) σ (.assign i e)=some (.next,σ.set i (.fro d)):=om1 h
theorem dX{ds:List D}(h:evE ft n σ e=some (.list ds)):evS ft (n+1) σ (.assignM i e)=some (.next,σ.set i (.mut ds)):=ob1 h rfl
theorem fP(h:evE ft n σ e=some (.tuple [x,y])):evS ft (n+1) σ (.unpack i j e)=some (.next,(σ.set i (.fro x)).set j (.fro y)):=ob1 h rfl
theorem iG(h1:evE ft n σ a=some x)(h2:evE ft n σ b=some y):evS ft (n+1) σ (.unpackT i j a b)=some (.next,(σ.set i (.fro x)).set j (.fro y)):=ob1 h1 (om1 h2)
theorem qZ{op:Operator}{u v w:Int}(h0:σ[i]? =some (.fro (.int u)))(h:evE ft n σ e=some (.int v))(hw:augD op u v=some w):evS ft (n+1) σ (.aug i op e)=some (.next,σ.set i (.fro (.int w))):=oG (F:=fun o:Option Var=>match o with | some (.fro x)=>(evE ft n σ e).bind fun y=>(match x,y with | .int a,.int b=>(augD op a b).map fun d=>(Fl.next,σ.set i (.fro (.int d))) | _,_=>none) | _=>none) h0 (ob1 h (om1 hw))
theorem gI{ds:List D}(h0:σ[i]? =some (.mut ds))(h:evE ft n σ e=some d)(hl:ds.length<few):evS ft (n+1) σ (.append i e)=some (.next,σ.set i (.mut (ds++[d]))):=oG (F:=fun o:Option Var=>match o with | some (.mut ds)=>(evE ft n σ e).bind fun d=>if ds.length<few then some (Fl.next,σ.set i (.mut (ds++[d]))) else none | _=>none) h0 (ob1 h (oi1 hl))
theorem jH{ds es:List D}(h0:σ[i]? =some (.mut ds))(h:evE ft n σ e=some (.list es))(hl:ds.length+es.length≤few):evS ft (n+1) σ (.extend i e)=some (.next,σ.set i (.mut (ds++es))):=oG (F:=fun o:Option Var=>match o with | some (.mut ds)=>(evE ft n σ e).bind fun d=>(match d with | .list es=>if ds.length+es.length≤few then some (Fl.next,σ.set i (.mut (ds++es))) else none | _=>none) | _=>none) h0 (ob1 h (oi1 hl))
theorem jT{ds:List D}(h0:σ[i]? =some (.mut ds))(hl:ds.length≤few):evS ft (n+1) σ (.reverse i)=some (.next,σ.set i (.mut ds.reverse)):=oG (F:=fun o:Option Var=>match o with | some (.mut ds)=>if ds.length≤few then some (Fl.next,σ.set i (.mut ds.reverse)) else none | _=>none) h0 (oi1 hl)
theorem ik{ds es:List D}{m:Int}{u:D}(h0:σ[i]? =some (.mut ds))(h1:σ[j]? =some (.mut es))(h:evE ft n σ e=some (.int m))(hc:0≤m∧m<es.length∧es.length≤few∧ds.length<few∧i≠j)(hu:es[m.toNat]? =some u):
  evS ft (n+1) σ (.appendPop i j e)=some (.next,(σ.set j (.mut (es.eraseIdx m.toNat))).set i (.mut (ds++[u]))):=oG2 (F:=fun o p:Option Var=>match o,p with | some (.mut ds),some (.mut es)=>(evE ft n σ e).bind fun y=>(match y with | .int m=>if 0≤m∧m<es.length∧es.length≤few∧ds.length<few∧i≠j then(es[m.toNat]?).map fun d=>(Fl.next,(σ.set j (.mut (es.eraseIdx m.toNat))).set i (.mut (ds++[d]))) else none | _=>none) | _,_=>none) h0 h1 (ob1 h (oi2 hc (om1 hu)))
theorem Gn{t e':List IS}{bb:Bool}(h:fN ft n σ c=some bb):evS ft (n+1) σ (.ife c t e')=if bb then dU ft n σ t else dU ft n σ e':=ob1 h rfl
theorem jC{t e':List IS}(h:fN ft n σ c=some true):evS ft (n+1) σ (.ife c t e')=dU ft n σ t:=ob1 h rfl
theorem fV{t e':List IS}(h:fN ft n σ c=some false):evS ft (n+1) σ (.ife c t e')=dU ft n σ e':=ob1 h rfl
theorem fW{t:Tg}{src:IE}{body orelse:List IS}{items:List D}(h:jF (evE ft n) σ src=some items)(hg:eV t (fun σ=>dU ft n σ body) items σ=some (.next,σ')):evS ft (n+1) σ (.fore t src body orelse)=dU ft n σ' orelse:=ob1 h (ob1 hg rfl)
theorem qY{t:Tg}{src:IE}{body orelse:List IS}{items:List D}(h:jF (evE ft n) σ src=some items)(hg:eV t (fun σ=>dU ft n σ body) items σ=some (.brk,σ')):evS ft (n+1) σ (.fore t src body orelse)=some (.next,σ'):=ob1 h (ob1 hg rfl)
theorem yS{t:Tg}{src:IE}{body orelse:List IS}{items:List D}(h:jF (evE ft n) σ src=some items)(hg:eV t (fun σ=>dU ft n σ body) items σ=some (.ret d,σ')):evS ft (n+1) σ (.fore t src body orelse)=some (.ret d,σ'):=ob1 h (ob1 hg rfl)
theorem gQ(h:evE ft n σ e=some d):evS ft (n+1) σ (.ret e)=some (.ret d,σ):=om1 h
theorem Cp:evS ft (n+1) σ .brk=some (.brk,σ):=rfl
theorem lB(h:fN ft n σ c=some true):evS ft (n+1) σ (.assert c)=some (.next,σ):=ob1 h rfl
theorem pP{ds:List D}(h0:σ[i]? =some (.mut ds)):evS ft (n+1) σ (.frz i)=some (.next,σ.set i (.fro (.list ds))):=oG (F:=fun o:Option Var=>match o with | some (.mut ds)=>some (Fl.next,σ.set i (.fro (.list ds))) | _=>some (Fl.next,σ)) h0 rfl
theorem fb{t:Tg}{body:St→Option (Fl×St)}{r:List D}(h1:gE t d σ=some σ')(h2:body σ'=some (.next,σ'')):eV t body (d::r) σ=eV t body r σ'':=ob1 h1 (ob1 h2 rfl)
theorem tf{t:Tg}{body:St→Option (Fl×St)}{r:List D}{f:Fl}(h1:gE t d σ=some σ')(h2:body σ'=some (f,σ''))(hf:f≠ .next):eV t body (d::r) σ=some (f,σ''):=ob1 h1 (ob1 h2 (by cases f<;>first | exact absurd rfl hf | rfl))
end
end Pl
end
section
open PySem PySem.W PyProof.Rows
set_option maxRecDepth 4000
namespace Pw
noncomputable def hput(Z:Heap)(a:Addr)(o:Obj):Heap:=
 ⟨(Z.objs++Array.replicate (a+1-Z.objs.size) ({cls:= .none,data:= .freed}:Obj)).setIfInBounds a o,Z.life⟩
theorem cM{Z:Heap}{a:Addr}{o:Obj}(ho:o.isFreed=false):(hput Z a o).get? a=some o:=by
 refine ba.mpr ⟨?_,ho⟩
 unfold hput
 rw[Array.getElem?_setIfInBounds_self_of_lt]
 simp only[Array.size_append,Array.size_replicate]; exact aq11
theorem cD{Z:Heap}{a b:Addr}{o:Obj}(hb:b≠a):(hput Z a o).get? b=Z.get? b:=by
 have e:(hput Z a o).objs[b]? =(Z.objs++Array.replicate (a+1-Z.objs.size) ({cls:= .none,data:= .freed}:Obj))[b]? :=by
  unfold hput
  rw[Array.getElem?_setIfInBounds_ne (Ne.symm hb)]
 by_cases h:b<Z.objs.size
 ·unfold Heap.get?
  rw[e,Array.getElem?_append_left h]
 ·have h1:Z.objs[b]? =none:=Array.getElem?_eq_none (Nat.le_of_not_lt h)
  have h2:Z.get? b=none:=by unfold Heap.get?; rw[h1]
  rw[h2]
  unfold Heap.get?
  rw[e,Array.getElem?_append,if_neg h,Array.getElem?_replicate]
  by_cases h3:b-Z.objs.size<a+1-Z.objs.size
  ·rw[if_pos h3]
  ·rw[if_neg h3]
noncomputable def Le(Z h:Heap):Prop:=∀a o,Z.get? a=some o→h.get? a=some o
theorem Le.refl(h:Heap):Le h h:=fun υ υ e=>e
theorem Le.trans{a b c:Heap}(x:Le a b)(y:Le b c):Le a c:=fun υ υ e=>y _ _ (x _ _ e)
noncomputable def LeX(T:List Addr)(B h:Heap):Prop:=∀a o,a∉T→B.get? a=some o→h.get? a=some o
theorem LeX.refl(T h):LeX T h h:=fun υ υ υ e=>e
theorem LeX.trans{T:List Addr}{a b c:Heap}(x:LeX T a b)(y:LeX T b c):LeX T a c:=fun υ υ n e=>y _ _ n (x _ _ n e)
theorem Le.toX{T:List Addr}{a b:Heap}(x:Le a b):LeX T a b:=fun υ υ υ e=>x _ _ e
theorem Le.push(h:Heap)(o:Obj):Le h (h.push o):=fun υ υ e=>aU _ e
theorem get?_size(h:Heap):h.get? h.objs.size=none:=by
 cases e:h.get? h.objs.size with
 | none=>rfl
 | some o=>exact absurd (cQ e) (Nat.lt_irrefl _)
theorem dY{Z:Heap}{a:Addr}{o:Obj}(hz:Z.get? a=none):Le Z (hput Z a o):=fun b o' e=>by
 by_cases hb:b=a
 ·rw[hb,hz]at e; cases e
 ·rw[cD hb]; exact e
theorem lN{Z h:Heap}{a:Addr}{o:Obj}(hz:Le Z h)(ho:h.get? a=some o):Le (hput Z a o) h:=fun b o' e=>by
 by_cases hb:b=a
 ·subst hb
  have hf:o.isFreed=false:=(ba.mp ho).2
  rw[cM hf]at e; rw[ho]; exact e
 ·rw[cD hb]at e; exact hz _ _ e
mutual
inductive Rep(Z:Heap):Value→D→Prop
 | none:Rep Z .none .none
 | bool (b):Rep Z (.bool b) (.bool b)
 | int (i t):Rep Z (.int i t) (.int i)
 | str (x t):Rep Z (.str x t) (.str x)
 | list {a vs ds}:Z.PlainList a vs→RepAll Z vs.toList ds→Rep Z (.ref a) (.list ds)
 | tuple {a vs ds}:IsTup Z a vs→RepAll Z vs.toList ds→Rep Z (.ref a) (.tuple ds)
inductive RepAll(Z:Heap):List Value→List D→Prop
 | nil:RepAll Z [] []
 | cons {v d vs ds}:Rep Z v d→RepAll Z vs ds→RepAll Z (v::vs) (d::ds)
end
theorem eP{Z h:Heap}{a vs}(k:Le Z h)(x:Z.PlainList a vs):h.PlainList a vs:=by obtain⟨n,e⟩:=x; exact⟨n,k _ _ e⟩
theorem lM{Z h:Heap}{a vs}(k:Le Z h)(x:IsTup Z a vs):IsTup h a vs:=by obtain⟨o,e,r⟩:=x; exact⟨o,k _ _ e,r⟩
theorem Rep.le{Z h:Heap}(k:Le Z h){v:Value}{d:D}(r:Rep Z v d):Rep h v d:=
 @Rep.rec Z (fun v d υ=>Rep h v d) (fun vs ds υ=>RepAll h vs ds) .none .bool .int .str (fun l υ r=> .list (eP k l) r) (fun l υ r=> .tuple (lM k l) r) .nil (fun υ υ a b=> .cons a b) v d r
theorem RepAll.ind{Z:Heap}{M:List Value→List D→Prop}(n:M [] [])(c:∀v d vs ds,Rep Z v d→RepAll Z vs ds→M vs ds→M (v::vs) (d::ds)){vs:List Value}{ds:List D}(r:RepAll Z vs ds):M vs ds:=
 @RepAll.rec Z (fun υ υ υ=>True) (fun vs ds υ=>M vs ds) trivial (fun υ=>trivial) (fun υ υ=>trivial) (fun υ υ=>trivial) (fun υ υ υ=>trivial) (fun υ υ υ=>trivial) n (fun a b υ e=>c _ _ _ _ a b e) vs ds r
theorem RepAll.le{Z h:Heap}(k:Le Z h){vs:List Value}{ds:List D}(r:RepAll Z vs ds):RepAll h vs ds:=
 r.ind .nil fun υ υ υ υ a υ b=> .cons (a.le k) b
theorem Rep.reads{Z:Heap}{v:Value}{d:D}(r:Rep Z v d):∃as,Reads Z v d as:=
 @Rep.rec Z (fun v d υ=>∃as,Reads Z v d as) (fun vs ds υ=>∃as,ReadsAll Z vs ds as) ⟨_,.none⟩ (fun b=>⟨_,.bool b⟩) (fun i t=>⟨_,.int i t⟩) (fun x t=>⟨_,.str x t⟩)
  (fun l υ q=>l.elim fun υ e=>q.elim fun υ q=>⟨_,.list e rfl rfl q⟩) (fun l υ q=>by obtain⟨_,e,hc,_,hd⟩:=l; exact q.elim fun υ q=>⟨_,.tuple e hc hd q⟩) ⟨_,.nil⟩ (fun υ υ a b=>a.elim fun υ p=>b.elim fun υ q=>⟨_,.cons p q⟩) v d r
theorem RepAll.reads{Z:Heap}{vs:List Value}{ds:List D}(r:RepAll Z vs ds):∃as,ReadsAll Z vs ds as:=
 r.ind (M:=fun vs ds=>∃as,ReadsAll Z vs ds as) ⟨_,.nil⟩ fun υ υ υ υ a υ b=>a.reads.elim fun υ p=>b.elim fun υ q=>⟨_,.cons p q⟩
theorem RepAll.nil_inv{Z}{vs}(a:RepAll Z vs []):vs=[]:=by cases a; rfl
theorem RepAll.length{Z vs ds}(r:RepAll Z vs ds):vs.length=ds.length:=r.ind (M:=fun vs ds=>vs.length=ds.length) rfl fun υ υ υ υ υ υ e=>congrArg Nat.succ e
theorem RepAll.append{Z vs ds ws es}(r:RepAll Z vs ds)(k:RepAll Z ws es):RepAll Z (vs++ws) (ds++es):=r.ind (M:=fun vs ds=>RepAll Z (vs++ws) (ds++es)) k fun υ υ υ υ a υ e=> .cons a e
theorem RepAll.get{Z vs ds}(i:Nat){d}(r:RepAll Z vs ds)(e:ds[i]? =some d):∃v,vs[i]? =some v∧Rep Z v d:=by
 refine r.ind (M:=fun vs ds=>∀i,ds[i]? =some d→∃v,vs[i]? =some v∧Rep Z v d) (fun υ e=>by cases e) (fun v υ υ υ a υ k i=>?_) i e
 cases i with
 | zero=>exact fun e=>⟨v,rfl,ax.inj e▸a⟩
 | succ i=>exact k i
theorem RepAll.take{Z vs ds}(n:Nat)(r:RepAll Z vs ds):RepAll Z (vs.take n) (ds.take n):=by
 refine r.ind (M:=fun vs ds=>∀n,RepAll Z (vs.take n) (ds.take n)) (fun n=>?_) (fun υ υ υ υ a υ e n=>?_) n
 ·rw[List.take_nil,List.take_nil]; exact .nil
 ·cases n with
  | zero=>exact .nil
  | succ n=>exact .cons a (e n)
theorem RepAll.drop{Z vs ds}(n:Nat)(r:RepAll Z vs ds):RepAll Z (vs.drop n) (ds.drop n):=by
 refine r.ind (M:=fun vs ds=>∀n,RepAll Z (vs.drop n) (ds.drop n)) (fun n=>?_) (fun υ υ υ υ a b e n=>?_) n
 ·rw[List.drop_nil,List.drop_nil]; exact .nil
 ·cases n with
  | zero=>exact .cons a b
  | succ n=>exact e n
theorem RepAll.set{Z vs ds}(n:Nat){v d}(r:RepAll Z vs ds)(q:Rep Z v d):RepAll Z (vs.set n v) (ds.set n d):=by
 refine r.ind (M:=fun vs ds=>∀n,RepAll Z (vs.set n v) (ds.set n d)) (fun n=> .nil) (fun υ υ υ υ a b e n=>?_) n
 cases n with
 | zero=>exact .cons q b
 | succ n=>exact .cons a (e n)
theorem RepAll.eraseIdx{Z vs ds}(n:Nat)(r:RepAll Z vs ds):RepAll Z (vs.eraseIdx n) (ds.eraseIdx n):=by
 refine r.ind (M:=fun vs ds=>∀n,RepAll Z (vs.eraseIdx n) (ds.eraseIdx n)) (fun n=> .nil) (fun υ υ υ υ a b e n=>?_) n
 cases n with
 | zero=>exact b
 | succ n=>exact .cons a (e n)
theorem RepAll.reverse{Z vs ds}(r:RepAll Z vs ds):RepAll Z vs.reverse ds.reverse:=r.ind (M:=fun vs ds=>RepAll Z vs.reverse ds.reverse) .nil fun υ υ υ υ a υ e=>by
 rw[List.reverse_cons,List.reverse_cons]; exact e.append (.cons a .nil)
theorem RepAll.dropLast{Z}{vs ds}(h:RepAll Z vs ds):RepAll Z vs.dropLast ds.dropLast:=by
 rw[List.dropLast_eq_take,List.dropLast_eq_take,h.length]; exact h.take _
theorem Rep.none_inv{Z v}(h:Rep Z v .none):v= .none:=by cases h; rfl
theorem Rep.bool_inv{Z v b}(h:Rep Z v (.bool b)):v= .bool b:=by cases h; rfl
theorem Rep.int_inv{Z v i}(h:Rep Z v (.int i)):∃t,v= .int i t:=by cases h; exact⟨_,rfl⟩
theorem Rep.str_inv{Z v i}(h:Rep Z v (.str i)):∃t,v= .str i t:=by cases h; exact⟨_,rfl⟩
theorem Rep.list_inv{Z v ds}(h:Rep Z v (.list ds)):∃a vs,v= .ref a∧Z.PlainList a vs∧RepAll Z vs.toList ds:=by
 cases h with | list l r=>exact⟨_,_,rfl,l,r⟩
theorem Rep.tuple_inv{Z v ds}(h:Rep Z v (.tuple ds)):∃a vs,v= .ref a∧IsTup Z a vs∧RepAll Z vs.toList ds:=by
 cases h with | tuple l r=>exact⟨_,_,rfl,l,r⟩
structure Pm where
 prog:Program
 w:World
 T:List Addr
 TO:Heap→Heap→Prop
 to1:∀{Z Z' h h':Heap},TO Z h→Le Z Z'→(∀t∈T,h'.get? t=h.get? t)→TO Z' h'
 to2:∀{Z h:Heap},TO Z h→∀t∈T,∃o,h.get? t=some o∧o.cls= .none∧∃ps,o.data= .fields ps
 g0:Heap
 os:OsState
 mg:Str→Option Value
 mb:Str→Option Value
 hg:g0.Ns aX mg
 hb:g0.Ns cE mb
 hbi:∀x:Str,x≠"__name__"→mb x=bootBuiltins x
 hlim:g0.NoLimit
 me:Addr:=0
noncomputable abbrev Pm.M(P:Pm):Model:=model P.prog P.w
structure Ok(P:Pm)(Z:Heap)(s:Shared):Prop where
 z:Le Z s.heap
 g:Le P.g0 Z
 zT:∀t∈P.T,Z.get? t=none
 tab:P.TO Z s.heap
 gens:s.gens= #[]
 os:s.os=P.os
 tk:0<s.toks
structure Go(P:Pm)(Z:Heap)(s:Shared)(Z':Heap)(s':Shared):Prop where
 ok:Ok P Z' s'
 le:Le Z Z'
 keep:LeX P.T s.heap s'.heap
 fresh:∀a o,Z'.get? a=some o→Z.get? a=some o∨s.heap.get? a=none
theorem Ok.g0{P Z s}(h:Ok P Z s):Le P.g0 s.heap:=h.g.trans h.z
theorem Go.refl{P Z s}(h:Ok P Z s):Go P Z s Z s:=⟨h,.refl _,.refl _ _,fun υ υ e=> .inl e⟩
theorem Go.trans{P Z s Z' s' Z'' s''}(x:Go P Z s Z' s')(y:Go P Z' s' Z'' s''):Go P Z s Z'' s'':=by
 refine⟨y.ok,x.le.trans y.le,x.keep.trans y.keep,fun a o e=>?_⟩
 rcases y.fresh a o e with q | q
 ·exact x.fresh a o q
 ·refine .inr ?_
  cases h:s.heap.get? a with
  | none=>rfl
  | some o'=>
   by_cases hT:a∈P.T
   ·rw[y.ok.zT a hT]at e; cases e
   ·rw[x.keep a o' hT h]at q; cases q
theorem Go.of_le{P Z s}{s':Shared}(h:Ok P Z s)(k:Le s.heap s'.heap)(ht:0<s'.toks)(hg:s'.gens=s.gens:=by rfl)(ho:s'.os=s.os:=by rfl):Go P Z s Z s':=
 ⟨⟨h.z.trans k,h.g,h.zT,P.to1 h.tab (.refl _) (fun t ht=>by
   refine bq (P.to2 h.tab t ht) fun o e υ=>?_
   rw[e]; exact k _ _ e),hg.trans h.gens,ho.trans h.os,ht⟩,.refl _,k.toX,fun υ υ e=> .inl e⟩
theorem Go.toks{P Z s}(h:Ok P Z s)(k:Nat)(hk:0<k):Go P Z s Z {s with toks:=k}:=Go.of_le h (.refl _) hk
theorem Go.push{P Z s}(h:Ok P Z s)(o:Obj)(k:Nat)(hk:0<k):Go P Z s Z {s with heap:=s.heap.push o,toks:=k}:=
 Go.of_le h (Le.push _ _) hk
theorem Go.push'{P Z s}(h:Ok P Z s)(o:Obj):Go P Z s Z {s with heap:=s.heap.push o}:=
 Go.of_le h (Le.push _ _) h.tk
theorem Ok.notT{P Z s}(h:Ok P Z s){a:Addr}{o:Obj}(e:s.heap.get? a=some o)(hc:o.cls≠ .none∨(∀ps,o.data≠ .fields ps)):a∉P.T:=fun ht=>by
 obtain⟨o',e',h1,ps,h2⟩:=P.to2 h.tab a ht
 rw[e]at e'; cases e'
 rcases hc with q | q
 ·exact q h1
 ·exact q ps h2
theorem Ok.listT{P Z s}(h:Ok P Z s){a vs}(l:s.heap.PlainList a vs):a∉P.T:=by obtain⟨_,e⟩:=l; exact h.notT e (.inl nofun)
theorem Ok.cellT{P Z s}(h:Ok P Z s){a v}(l:s.heap.IsCell a v):a∉P.T:=by obtain⟨_,e,hd⟩:=l; exact h.notT e (.inr (by rw[hd]; nofun))
theorem Ok.nsT{P Z s}(h:Ok P Z s){a m}(l:s.heap.Ns a m):a∉P.T:=by obtain⟨_,_,_,e,hd,_⟩:=l; exact h.notT e (.inr (by rw[hd]; nofun))
theorem Go.freeze{P Z s Z' s'}(g:Go P Z s Z' s'){a:Addr}{o:Obj}(ho:s'.heap.get? a=some o)(hn:s.heap.get? a=none)(hz:Z'.get? a=none)(ht:a∉P.T):Go P Z s (hput Z' a o) s':=by
 refine⟨⟨lN g.ok.z ho,g.ok.g.trans (dY hz),fun t hT=>?_,P.to1 g.ok.tab (dY hz) (fun υ υ=>rfl),g.ok.gens,g.ok.os,g.ok.tk⟩,g.le.trans (dY hz),g.keep,fun b o' e=>?_⟩
 ·rw[cD (fun q=>ht (by rw[←q]; exact hT))]; exact g.ok.zT t hT
 ·by_cases hb:b=a
  ·subst hb; exact .inr hn
  ·rw[cD hb]at e; exact g.fresh b o' e
theorem Ok.znone{P Z s}(h:Ok P Z s){a:Addr}(e:s.heap.get? a=none):Z.get? a=none:=by
 cases q:Z.get? a with
 | none=>rfl
 | some o=>rw[h.z _ _ q]at e; cases e
theorem Go.newList{P Z s}(h:Ok P Z s){vs:List Value}{ds:List D}(r:RepAll Z vs ds)(k:Nat)(hk:0<k):
  ∃Z',Go P Z s Z' {s with heap:=s.heap.push {cls:= .type "list",data:= .seq vs.toArray},toks:=k}∧Rep Z' (.ref s.heap.objs.size) (.list ds):=by
 have g:=Go.push h {cls:= .type "list",data:= .seq vs.toArray} k hk
 have e:(s.heap.push {cls:= .type "list",data:= .seq vs.toArray}).get? s.heap.objs.size=some {cls:= .type "list",data:= .seq vs.toArray}:=aJ _ rfl
 have hz:=h.znone (get?_size s.heap)
 refine gX (hput Z s.heap.objs.size {cls:= .type "list",data:= .seq vs.toArray}) (g.freeze e (get?_size _) hz (g.ok.notT e (.inl nofun))) ?_
 exact Rep.list (vs:=vs.toArray) ⟨_,cM rfl⟩ (by simpa using r.le (dY hz))
theorem Go.newTuple{P Z s}(h:Ok P Z s){vs:List Value}{ds:List D}(r:RepAll Z vs ds)(k:Nat)(hk:0<k):
  ∃Z',Go P Z s Z' {s with heap:=s.heap.push {cls:= .type "tuple",data:= .seq vs.toArray},toks:=k}∧Rep Z' (.ref s.heap.objs.size) (.tuple ds):=by
 have g:=Go.push h {cls:= .type "tuple",data:= .seq vs.toArray} k hk
 have e:(s.heap.push {cls:= .type "tuple",data:= .seq vs.toArray}).get? s.heap.objs.size=some {cls:= .type "tuple",data:= .seq vs.toArray}:=aJ _ rfl
 have hz:=h.znone (get?_size s.heap)
 refine gX (hput Z s.heap.objs.size {cls:= .type "tuple",data:= .seq vs.toArray}) (g.freeze e (get?_size _) hz (g.ok.notT e (.inl nofun))) ?_
 exact Rep.tuple (vs:=vs.toArray) ⟨_,cM rfl,rfl,_,rfl⟩ (by simpa using r.le (dY hz))
noncomputable def gp(P:Pm)(Z h:Heap)(v:Value)(d:D):Prop:=
 Rep Z v d∨∃a vs ds,v= .ref a∧d= .list ds∧h.PlainList a vs∧RepAll Z vs.toList ds
theorem gp.go{P Z s Z' s' v d}(r:gp P Z s.heap v d)(h:Ok P Z s)(g:Go P Z s Z' s'):gp P Z' s'.heap v d:=by
 rcases r with r | ⟨a,vs,ds,e1,e2,hl,hr⟩
 ·exact .inl (r.le g.le)
 ·refine dh (id hl) fun o ho=>?_
  exact .inr ⟨a,vs,ds,e1,e2,⟨o,g.keep _ _ (h.listT hl) ho⟩,hr.le g.le⟩
theorem gp.rep{P Z s v d}(r:gp P Z s.heap v d)(h:Ok P Z s):Rep s.heap v d:=by
 rcases r with r | ⟨a,vs,ds,e1,e2,hl,hr⟩
 ·exact r.le h.z
 ·subst e1 e2; exact Rep.list hl (hr.le h.z)
theorem gp.reads{P Z s v d}(r:gp P Z s.heap v d)(h:Ok P Z s):∃as,Reads s.heap v d as:=(r.rep h).reads
theorem gp.list{P Z s v ds}(r:gp P Z s.heap v (.list ds))(h:Ok P Z s):∃a vs,v= .ref a∧s.heap.PlainList a vs∧RepAll Z vs.toList ds:=by
 rcases r with r | ⟨a,vs,ds',e1,e2,hl,hr⟩
 ·refine gw r.list_inv fun a vs e hl hr=>?_
  exact uo a vs e (eP h.z hl) hr
 ·cases e2; exact⟨a,vs,e1,hl,hr⟩
theorem gp.of{P Z h v d}(r:Rep Z v d):gp P Z h v d:= .inl r
theorem gp.int{P Z h v i}(r:gp P Z h v (.int i)):∃t,v= .int i t:=by
 rcases r with r | ⟨a,vs,ds,e1,e2,_⟩
 ·exact r.int_inv
 ·cases e2
theorem gp.bool{P Z h v i}(r:gp P Z h v (.bool i)):v= .bool i:=by
 rcases r with r | ⟨a,vs,ds,e1,e2,_⟩
 ·exact r.bool_inv
 ·cases e2
theorem gp.none{P Z h v}(r:gp P Z h v .none):v= .none:=by
 rcases r with r | ⟨a,vs,ds,e1,e2,_⟩
 ·exact r.none_inv
 ·cases e2
theorem gp.str{P Z h v i}(r:gp P Z h v (.str i)):∃t,v= .str i t:=by
 rcases r with r | ⟨a,vs,ds,e1,e2,_⟩
 ·exact r.str_inv
 ·cases e2
theorem gp.tuple{P Z s v ds}(r:gp P Z s.heap v (.tuple ds))(h:Ok P Z s):∃a vs,v= .ref a∧IsTup s.heap a vs∧RepAll Z vs.toList ds:=by
 rcases r with r | ⟨a,vs,ds',e1,e2,hl,hr⟩
 ·refine gw r.tuple_inv fun a vs e hl hr=>?_
  exact uo a vs e (lM h.z hl) hr
 ·cases e2
noncomputable def jA(wc:Addr)(Z h:Heap)(x dx:Addr)(fs:List (String×D)):Prop:=
 h.get? x=some (instObj wc dx)∧∃es n,h.get? dx=some (dictOf es n)∧
  (∀nm:String,match fs.lookup nm with
   | some d=>∃v,getL (aa nm) es=some (some v)∧Rep Z v d
   | none=>getL (aa nm) es=some none)∧es.length≤fs.length∧(fs.map (·.1)).Nodup∧∀p∈fs,p.1∈wNames
theorem jA.mono{wc:Addr}{Z Z' h h':Heap}{x dx:Addr}{fs:List (String×D)}(r:jA wc Z h x dx fs)(k:Le Z Z')(kx:h'.get? x=h.get? x)(kd:h'.get? dx=h.get? dx):jA wc Z' h' x dx fs:=by
 obtain⟨h1,es,n,h2,h3⟩:=r
 refine⟨kx.trans h1,es,n,kd.trans h2,fun nm=>?_,h3.2⟩
 have:=h3.1 nm
 cases hl:fs.lookup nm with
 | none=>rw[hl]at this; exact this
 | some d=>rw[hl]at this; obtain⟨v,a,b⟩:=this; exact⟨v,a,b.le k⟩
inductive VFro(Z:Heap)(d:D)(ov:Option Value):Prop
 | mk (v:Value) (e:ov=some v) (r:Rep Z v d):VFro Z d ov
inductive VMut(B Z h:Heap)(a:Addr)(ds:List D)(ov:Option Value):Prop
 | mk (vs:Array Value) (e:ov=some (.ref a)) (l:h.PlainList a vs) (r:RepAll Z vs.toList ds) (z:Z.get? a=none) (q:B.get? a=none):VMut B Z h a ds ov
inductive VInst(wc:Addr)(Z:Heap)(fs:List (String×D))(ov:Option Value):Prop
 | mk (x dx:Addr) (e:ov=some (.ref x)) (r:jA wc Z Z x dx fs):VInst wc Z fs ov
inductive VMinst(P:Pm)(wc L:Addr)(B Z h:Heap)(fs:List (String×D))(ov:Option Value):Prop
 | mk (x dx:Addr) (e:ov=some (.ref x)) (r:jA wc Z h x dx fs) (z:Z.get? dx=none) (q:B.get? dx=none) (n:dx≠L∧x=P.me):VMinst P wc L B Z h fs ov
noncomputable def VR(P:Pm)(wc:Addr)(L:Addr)(B Z h:Heap)(a:Addr):Option Var→Option Value→Prop
 | some (.fro d),ov=>VFro Z d ov
 | some (.mut ds),ov=>VMut B Z h a ds ov
 | some (.inst fs),ov=>VInst wc Z fs ov
 | some (.minst fs),ov=>VMinst P wc L B Z h fs ov
 | _,_=>True
theorem jA.keep{wc:Addr}{Z Z' h h':Heap}{x dx:Addr}{fs:List (String×D)}(r:jA wc Z h x dx fs)(k:Le Z Z')(kx:h.get? x=some (instObj wc dx)→h'.get? x=some (instObj wc dx))
  (kd:∀es n,h.get? dx=some (dictOf es n)→h'.get? dx=some (dictOf es n)):jA wc Z' h' x dx fs:=by
 obtain⟨h1,es,n,h2,υ⟩:=id r
 exact r.mono k ((kx h1).trans h1.symm) ((kd es n h2).trans h2.symm)
theorem VR.imp{P:Pm}{wc L:Addr}{B Z h B' Z' h':Heap}{a:Addr}{w:Option Var}{ov:Option Value}(r:VR P wc L B Z h a w ov)(k:Le Z Z')
  (m:∀ds vs,w=some (.mut ds)→h.PlainList a vs→Z.get? a=none→B.get? a=none→h'.PlainList a vs∧Z'.get? a=none∧B'.get? a=none)
  (n:∀fs x dx,w=some (.minst fs)→h.get? x=some (instObj wc dx)→h'.get? x=some (instObj wc dx))
  (q:∀fs dx es n,w=some (.minst fs)→h.get? dx=some (dictOf es n)→Z.get? dx=none→B.get? dx=none→dx≠L→h'.get? dx=some (dictOf es n)∧Z'.get? dx=none∧B'.get? dx=none):VR P wc L B' Z' h' a w ov:=by
 cases w with
 | none=>trivial
 | some w=>
  cases w with
  | u0=>trivial
  | fro d=>cases r with | mk v e r=>exact⟨v,e,r.le k⟩
  | «mut» ds=>cases r with | mk vs e l r z b=>exact⟨vs,e,(m ds vs rfl l z b).1,r.le k,(m ds vs rfl l z b).2.1,(m ds vs rfl l z b).2.2⟩
  | inst fs=>cases r with | mk x dx e r=>exact⟨x,dx,e,r.keep k (k _ _) fun υ υ=>k _ _⟩
  | minst fs=>
   cases r with
   | mk x dx e r z b hne=>
    obtain⟨υ,es,l,h2,υ⟩:=id r
    exact⟨x,dx,e,r.keep k (n fs x dx rfl) fun es l h=>(q fs dx es l rfl h z b hne.1).1,(q fs dx es l rfl h2 z b hne.1).2.1,(q fs dx es l rfl h2 z b hne.1).2.2,hne⟩
theorem VR.go{P:Pm}{wc L:Addr}{B Z:Heap}{s:Shared}{Z':Heap}{s':Shared}{a:Addr}{w:Option Var}{ov:Option Value}(r:VR P wc L B Z s.heap a w ov)(ok:Ok P Z s)(g:Go P Z s Z' s'):
  VR P wc L B Z' s'.heap a w ov:=by
 have kz:∀b o,s.heap.get? b=some o→Z.get? b=none→Z'.get? b=none:=fun b o e n=>by
  cases q:Z'.get? b with
  | none=>rfl
  | some o'=>
   rcases g.fresh b o' q with q' | q'
   ·rw[n]at q'; cases q'
   ·rw[e]at q'; cases q'
 exact r.imp g.le (fun υ vs υ l z q=>⟨l.elim fun o ho=>⟨o,g.keep _ _ (ok.listT l) ho⟩,l.elim fun o ho=>kz _ _ ho z,q⟩) (fun υ x dx υ h=>g.keep _ _ (ok.notT h (.inl nofun)) h) fun υ dx es n υ h z b υ=>⟨g.keep _ _ (ok.notT h (.inl nofun)) h,kz _ _ h z,b⟩
theorem VR.same{P:Pm}{wc L:Addr}{B Z h h':Heap}{a b:Addr}{w:Option Var}{ov:Option Value}(r:VR P wc L B Z h a w ov)(hs:Heap.SameBut b h h')
  (hb:(b=L∧∃m,h.Ns L m)∨∃o,h.IsCell b o):VR P wc L B Z h' a w ov:=by
 have nl:∀a o,h.get? a=some o→(∀d,o.data≠ .cell d)→(∀ps n,o.data≠ .dict ps n)∨a≠L→a≠b:=fun a o e hc hd q=>by
  subst q
  rcases hb with⟨q,m,o',es,ep,e',hd',_⟩ | ⟨v,o',e',hd'⟩
  ·rcases hd with hd | hd
   ·rw[q,e']at e; cases e; exact hd _ _ hd'
   ·exact hd q
  ·rw[e]at e'; cases e'; exact hc _ hd'
 exact r.imp (.refl _) (fun υ vs υ l z q=>⟨l.extBut hs.extBut (l.elim fun o e=>nl _ _ e nofun (.inl nofun)),z,q⟩) (fun υ x dx υ e=>(hs.2 _ (nl _ _ e nofun (.inl nofun))).trans e) fun υ dx es n υ e z b q=>⟨(hs.2 _ (nl _ _ e nofun (.inr q))).trans e,z,b⟩
theorem VR.sameList{P:Pm}{wc L:Addr}{B Z h h':Heap}{a b:Addr}{w:Option Var}{ov:Option Value}{us:Array Value}(r:VR P wc L B Z h a w ov)(hs:Heap.SameBut b h h')
  (hb:h.PlainList b us) (hab:∀ds,w=some (.mut ds)→a≠b):VR P wc L B Z h' a w ov:=by
 have nl:∀c o,h.get? c=some o→(∀us n,o.data≠ .seq us n)→c≠b:=fun c o e hc q=>by
  subst q
  exact hb.elim fun nb eb=>by rw[eb]at e; cases e; exact hc _ _ rfl
 exact r.imp (.refl _) (fun ds vs e l z q=>⟨l.extBut hs.extBut (hab ds e),z,q⟩) (fun υ x dx υ e=>(hs.2 _ (nl _ _ e nofun)).trans e) fun υ dx es n υ e z b υ=>⟨(hs.2 _ (nl _ _ e nofun)).trans e,z,b⟩
theorem VR.zle{P:Pm}{wc L:Addr}{B Z Z' h:Heap}{a:Addr}{w:Option Var}{ov:Option Value}(r:VR P wc L B Z h a w ov)(k:Le Z Z')
  (hm:∀ds,w=some (.mut ds)→Z'.get? a=none) (hi:∀fs dx,w=some (.minst fs)→Z.get? dx=none→(∃es n,h.get? dx=some (dictOf es n))→Z'.get? dx=none):VR P wc L B Z' h a w ov:=by
 exact r.imp k (fun ds vs e l z q=>⟨l,hm ds e,q⟩) (fun υ υ υ υ e=>e) fun fs dx es n e h z b υ=>⟨h,hi fs dx e z ⟨es,n,h⟩,b⟩
structure Bs where
 B:Heap
 Z0:Heap
inductive CelV(P:Pm)(wc:Addr)(env:Env)(own:Nat)(b:Bs)(Z h:Heap)(a:Addr)(w:Option Var)(i:Nat)(x:Str):Prop
 | mk (k:env.kindOf x=some .cell∨env.kindOf x=some .free) (c:Addr) (o:Option Value) (h1:env.cells.lookup x=some c) (h2:h.IsCell c o) (h3:VR P wc env.locals b.B Z h a w o) (h4:own≤i→Z.get? c=none∧b.B.get? c=none) (h5:i<own→b.B.get? c≠none):CelV P wc env own b Z h a w i x
structure SR(P:Pm)(wc:Addr)(sc:Scope)(env:Env)(ns:List (Option Str))(own:Nat)(b:Bs)(Z:Heap)(σ:St)(ad:Nat→Addr)(s:Shared):Prop where
 ok:Ok P Z s
 kind:env.scope.kind= .function
 glob:env.globals=aX
 blt:env.builtins=cE
 gl:∀x,sc.names.lookup x=some .globalImplicit→env.kindOf x=some .globalImplicit
 base:LeX P.T b.B s.heap
 zle:Le b.Z0 Z
 zb:∀a o,Z.get? a=some o→b.Z0.get? a=some o∨b.B.get? a=none
 lz:Z.get? env.locals=none
 lb:b.B.get? env.locals=none
 nss:∃m,s.heap.Ns env.locals m∧∀(i:Nat) (x:Str),ns[i]? =some (some x)→env.kindOf x=some .local→VR P wc env.locals b.B Z s.heap (ad i) σ[i]? (m x)
 cel:∀(i:Nat) (x:Str),ns[i]? =some (some x)→env.kindOf x=some .local∨CelV P wc env own b Z s.heap (ad i) σ[i]? i x
 ownk:∀(i:Nat) (x:Str),ns[i]? =some (some x)→own≤i→env.kindOf x=some .local∨env.kindOf x=some .cell
 nd:∀(i j:Nat) (x:Str),ns[i]? =some (some x)→ns[j]? =some (some x)→i=j
 cd:∀(i j:Nat) (x y:Str) (c:Addr),ns[i]? =some (some x)→ns[j]? =some (some y)→own≤i→own≤j→env.kindOf x=some .cell→env.kindOf y=some .cell→env.cells.lookup x=some c→env.cells.lookup y=some c→i=j
 ai:∀(i j:Nat) (ds es:List D),σ[i]? =some (.mut ds)→σ[j]? =some (.mut es)→ad i=ad j→i=j
 dd:∀(i:Nat) (x:Str),ns[i]? =some (some x)→(x==("__debug__":Str))=false∧(x==("__classdict__":Str))=false
 len:σ.length=ns.length
 cf:∀x,sc.names.lookup x=some .cell∨sc.names.lookup x=some .free→env.kindOf x=some .cell∨env.kindOf x=some .free
 lc:∀x,sc.names.lookup x=some .local→env.kindOf x=some .local
section
variable {P:Pm}{wc:Addr}{sc:Scope}{env:Env}{ns:List (Option Str)}{own:Nat}{b:Bs}{Z Z':Heap}{σ:St}{ad:Nat→Addr}{s s':Shared}{A:Around}
theorem SR.go(S:SR P wc sc env ns own b Z σ ad s)(g:Go P Z s Z' s'):SR P wc sc env ns own b Z' σ ad s':=by
 refine bq S.nss fun m hm hv=>?_
 have hL:=S.ok.nsT hm
 have hm':s'.heap.Ns env.locals m:=by
  refine uz hm fun o es ep e r=>?_
  exact DA o es ep (g.keep _ _ hL e) r
 refine⟨g.ok,S.kind,S.glob,S.blt,S.gl,S.base.trans g.keep,S.zle.trans g.le,fun a o e=>?_,?_,S.lb,⟨m,hm',fun i x hi hk=>(hv i x hi hk).go S.ok g⟩,fun i x hi=>?_,S.ownk,S.nd,S.cd,S.ai,S.dd,S.len,S.cf,S.lc⟩
 ·rcases g.fresh a o e with q | q
  ·exact S.zb a o q
  ·refine .inr ?_
   cases hq:b.B.get? a with
   | none=>rfl
   | some o'=>
    by_cases hT:a∈P.T
    ·rw[g.ok.zT a hT]at e; cases e
    ·rw[S.base a o' hT hq]at q; cases q
 ·cases q:Z'.get? env.locals with
  | none=>rfl
  | some o=>
   rcases g.fresh _ o q with q' | q'
   ·rw[S.lz]at q'; cases q'
   ·obtain⟨υ,υ,υ,e,υ⟩:=hm; rw[e]at q'; cases q'
 ·rcases S.cel i x hi with q | ⟨k,c,o,h1,h2,h3,h4,h5⟩
  ·exact .inl q
  ·refine bq (id h2) fun oc e hd=>?_
   refine .inr ⟨k,c,o,h1,⟨oc,g.keep _ _ (S.ok.cellT h2) e,hd⟩,h3.go S.ok g,fun ho=>⟨?_,(h4 ho).2⟩,h5⟩
   cases q:Z'.get? c with
   | none=>rfl
   | some o'=>
    rcases g.fresh _ o' q with q' | q'
    ·rw[(h4 ho).1]at q'; cases q'
    ·rw[e]at q'; cases q'
theorem SR.toGo{s0:Shared}{Z0:Heap}(S:SR P wc sc env ns own ⟨s0.heap,Z0⟩ Z σ ad s):Go P Z0 s0 Z s:=
 ⟨S.ok,S.zle,S.base,S.zb⟩
theorem SR.slot(S:SR P wc sc env ns own b Z σ ad s){i:Nat}{x:Str}(hi:ns[i]? =some (some x)):
  ∃ov,VR P wc env.locals b.B Z s.heap (ad i) σ[i]? ov∧∀v (Q:Value→Shared→Prop) E,ov=some v→Q v s→wpAny P.M A (loadName env x) Q E s:=by
 rcases S.cel i x hi with q | ⟨k,c,o,h1,h2,h3,h4,h5⟩
 ·refine bq S.nss fun m hm hv=>?_
  exact gX (m x) (hv i x hi q) (fun v Q E e h=>wpAny_loadName_local S.kind q hm e h)
 ·refine gX o h3 (fun v Q E e h=>?_)
  subst e
  rcases k with k | k
  ·exact wpAny_loadName_cell S.kind k h1 h2 h
  ·exact wpAny_loadName_free S.kind k h1 h2 h (S.dd i x hi).2
theorem SR.read(S:SR P wc sc env ns own b Z σ ad s){i:Nat}{x:Str}{d:D}(hi:ns[i]? =some (some x))(hd:σ[i]? =some (.fro d)){pos:Pos}{Q:Value→Shared→Prop}{E}
  (h:∀v,Rep Z v d→Q v s):wpAny P.M A (eval (.Name x pos) env) Q E s:=by
 refine bq (S.slot (A:=A) hi) fun ov hv k=>?_
 rw[hd]at hv
 obtain⟨v,rfl,r⟩:=hv
 exact wpAny_Name (k v Q E rfl (h v r)) (S.dd i x hi).1
theorem SR.readM(S:SR P wc sc env ns own b Z σ ad s){i:Nat}{x:Str}{ds:List D}(hi:ns[i]? =some (some x))(hd:σ[i]? =some (.mut ds)){pos:Pos}{Q:Value→Shared→Prop}{E}
  (h:∀vs,s.heap.PlainList (ad i) vs→RepAll Z vs.toList ds→Z.get? (ad i)=none→b.B.get? (ad i)=none→Q (.ref (ad i)) s):wpAny P.M A (eval (.Name x pos) env) Q E s:=by
 refine bq (S.slot (A:=A) hi) fun ov hv k=>?_
 rw[hd]at hv
 obtain⟨vs,rfl,l,r,z,n⟩:=hv
 exact wpAny_Name (k _ Q E rfl (h vs l r z n)) (S.dd i x hi).1
theorem SR.weaken(S:SR P wc sc env ns own b Z σ ad s)(σ':St)(hlen:σ'.length=σ.length)(hσ:∀i:Nat,σ'[i]? =σ[i]? ∨σ'[i]? =some Var.u0∨σ'[i]? =none):SR P wc sc env ns own b Z σ' ad s:=by
 refine bq S.nss fun m hm hv=>?_
 have k:∀(i:Nat) a ov,VR P wc env.locals b.B Z s.heap a σ[i]? ov→VR P wc env.locals b.B Z s.heap a σ'[i]? ov:=fun i a ov h=>by
  rcases hσ i with q | q | q
  ·rw[q]; exact h
  ·rw[q]; trivial
  ·rw[q]; trivial
 refine⟨S.ok,S.kind,S.glob,S.blt,S.gl,S.base,S.zle,S.zb,S.lz,S.lb,⟨m,hm,fun i x hi hk=>k i _ _ (hv i x hi hk)⟩,fun i x hi=>?_,S.ownk,S.nd,S.cd,fun i j ds es h1 h2=>?_,S.dd,hlen.trans S.len,S.cf,S.lc⟩
 ·rcases S.cel i x hi with q | ⟨k',c,o,h1,h2,h3,h4,h5⟩
  ·exact .inl q
  ·exact .inr ⟨k',c,o,h1,h2,k i _ _ h3,h4,h5⟩
 ·have f:∀(i:Nat) (ds:List D),σ'[i]? =some (Var.mut ds)→σ[i]? =some (Var.mut ds):=fun i ds h=>by
   rcases hσ i with q | q | q
   ·rw[←q]; exact h
   ·rw[q]at h; cases h
   ·rw[q]at h; cases h
  exact S.ai i j ds es (f i ds h1) (f j es h2)
theorem di{σ:St}{i j:Nat}{w:Var}(hi:i<σ.length):(σ.set i w)[j]? =if j=i then some w else σ[j]? :=by
 rw[List.getElem?_set]
 by_cases h:i=j
 ·subst h; simp[hi]
 ·rw[if_neg h,if_neg (Ne.symm h)]
theorem SR.bind(S:SR P wc sc env ns own b Z σ ad s){i:Nat}{x:Str}(hi:ns[i]? =some (some x))(ho:own≤i)(hl:i<σ.length){v:Value}{w:Var}{a:Addr}
  (hw:VR P wc env.locals b.B Z s.heap a (some w) (some v)) (ha:∀ds,w= .mut ds→∀j es,j≠i→σ[j]? =some (.mut es)→ad j≠a) {Q:Unit→Shared→Prop} {E}
  (h:∀s',SR P wc sc env ns own b Z (σ.set i w) (fun j=>if j=i then a else ad j) s'→Q () s'):wpAny P.M A (bindName env x v) Q E s:=by
 refine bq S.nss fun m hm hv=>?_
 have hL:=S.ok.nsT hm
 have hai:∀j k ds es,(σ.set i w)[j]? =some (.mut ds)→(σ.set i w)[k]? =some (.mut es)→(if j=i then a else ad j)=(if k=i then a else ad k)→j=k:=fun j k ds es h1 h2 h3=>by
  rw[di hl]at h1 h2
  by_cases hj:j=i<;>by_cases hk:k=i
  ·rw[hj,hk]
  ·rw[if_pos hj]at h1 h3; rw[if_neg hk]at h2 h3; exact absurd h3.symm (ha ds (ax.inj h1) k es hk h2)
  ·rw[if_neg hj]at h1 h3; rw[if_pos hk]at h2 h3; exact absurd h3 (ha es (ax.inj h2) j ds hj h1)
  ·rw[if_neg hj]at h1 h3; rw[if_neg hk]at h2 h3; exact S.ai j k ds es h1 h2 h3
 refine wpAny_bindName ?_
 rcases S.ownk i x hi ho with hk | hk
 ·
  refine wpAny_storeName_local hk hm (fun h' hn hs=>h _ ?_) (by rw[S.kind]; rfl)
  have hb:(env.locals=env.locals∧∃m,s.heap.Ns env.locals m)∨∃o,s.heap.IsCell env.locals o:= .inl ⟨rfl,m,hm⟩
  have keep:∀c o,c≠env.locals→s.heap.get? c=some o→h'.get? c=some o:=fun c o q e=>(hs.2 c q).trans e
  have zk:Le Z h':=fun c o e=>keep c o (fun q=>by rw[q,S.lz]at e; cases e) (S.ok.z c o e)
  refine⟨⟨zk,S.ok.g,S.ok.zT,P.to1 S.ok.tab (.refl _) (fun t ht=>hs.2 t fun q=>hL (by rw[←q]; exact ht)),S.ok.gens,S.ok.os,br _⟩,S.kind,S.glob,S.blt,S.gl,fun c o hT e=>keep c o (fun q=>by rw[q,S.lb]at e; cases e) (S.base c o hT e),S.zle,S.zb,S.lz,S.lb,⟨_,hn,fun j y hj hky=>?_⟩,fun j y hj=>?_,S.ownk,S.nd,S.cd,hai,S.dd,by rw[dn]; exact S.len,S.cf,S.lc⟩
  ·rw[di hl]
   by_cases hji:j=i
   ·subst hji
    have:y=x:=by rw[hi]at hj; exact(ax.inj (ax.inj hj)).symm
    subst this
    simp only[if_true]
    exact hw.same hs hb
   ·have hyx:y≠x:=fun q=>hji (S.nd j i x (by rw[←q]; exact hj) hi)
    simp only[if_neg hji,if_neg hyx]
    exact(hv j y hj hky).same hs hb
  ·rcases S.cel j y hj with q | ⟨k',c,o,h1,h2,h3,h4,h5⟩
   ·exact .inl q
   ·have hji:j≠i:=fun q=>by
     subst q
     have:y=x:=by rw[hi]at hj; exact(ax.inj (ax.inj hj)).symm
     subst this
     rcases k' with k' | k'<;>(rw[hk]at k'; cases k')
    have hc:c≠env.locals:=fun q=>by
     obtain⟨υ,e1,d1⟩:=h2; obtain⟨_,_,_,e2,d2,_⟩:=hm
     rw[q,e2]at e1; cases e1; rw[d2]at d1; cases d1
    refine .inr ⟨k',c,o,h1,h2.sameBut hs hc,?_,h4,h5⟩
    rw[di hl,if_neg hji,if_neg hji]
    exact h3.same hs hb
 ·
  have hk0:¬(env.kindOf x=some .local):=fun q=>by rw[hk]at q; cases q
  obtain⟨υ,c,o,h1,h2,h3,h4,h5⟩:=(S.cel i x hi).resolve_left hk0
  refine fu (h4 ho) fun hz hB=>?_
  refine wpAny_storeName_cell S.kind hk h1 h2 fun h' hc hs=>h _ ?_
  have hb:(c=env.locals∧∃m,s.heap.Ns env.locals m)∨∃o,s.heap.IsCell c o:= .inr ⟨o,h2⟩
  have keep:∀e o,e≠c→s.heap.get? e=some o→h'.get? e=some o:=fun e o q e'=>(hs.2 e q).trans e'
  have hcl:env.locals≠c:=fun q=>by
   obtain⟨υ,e1,d1⟩:=h2; obtain⟨_,_,_,e2,d2,_⟩:=hm
   rw[←q,e2]at e1; cases e1; rw[d2]at d1; cases d1
  have zk:Le Z h':=fun e o e'=>keep e o (fun q=>by rw[q,hz]at e'; cases e') (S.ok.z e o e')
  refine⟨⟨zk,S.ok.g,S.ok.zT,P.to1 S.ok.tab (.refl _) (fun t ht=>hs.2 t fun q=>S.ok.cellT h2 (by rw[←q]; exact ht)),S.ok.gens,S.ok.os,S.ok.tk⟩,S.kind,S.glob,S.blt,S.gl,fun e o hT e'=>keep e o (fun q=>by rw[q,hB]at e'; cases e') (S.base e o hT e'),S.zle,S.zb,S.lz,S.lb,⟨m,hm.sameBut hs hcl,fun j y hj hky=>?_⟩,fun j y hj=>?_,S.ownk,S.nd,S.cd,hai,S.dd,by rw[dn]; exact S.len,S.cf,S.lc⟩
  ·have hji:j≠i:=fun q=>by
    subst q
    have:y=x:=by rw[hi]at hj; exact(ax.inj (ax.inj hj)).symm
    subst this; exact hk0 hky
   rw[di hl,if_neg hji,if_neg hji]
   exact(hv j y hj hky).same hs hb
  ·rcases S.cel j y hj with q | ⟨k',c',o',g1,g2,g3,g4,g5⟩
   ·exact .inl q
   ·by_cases hji:j=i
    ·subst hji
     have:y=x:=by rw[hi]at hj; exact(ax.inj (ax.inj hj)).symm
     subst this
     refine .inr ⟨k',c,some v,h1,hc,?_,h4,h5⟩
     rw[di hl,if_pos rfl,if_pos rfl]
     exact hw.same hs hb
    ·have hne:c'≠c:=fun q=>by
      subst q
      by_cases hoj:own≤j
      ·rcases S.ownk j y hj hoj with q2 | q2
       ·rcases k' with k' | k'<;>(rw[q2]at k'; cases k')
       ·exact hji (S.cd j i y x c' hj hi hoj ho q2 hk g1 h1)
      ·exact g5 (Nat.lt_of_not_le hoj) hB
     refine .inr ⟨k',c',o',g1,g2.sameBut hs hne,?_,g4,g5⟩
     rw[di hl,if_neg hji,if_neg hji]
     exact g3.same hs hb
theorem SR.change(S:SR P wc sc env ns own b Z σ ad s){i:Nat}{x:Str}{ds es:List D}(hi:ns[i]? =some (some x))(hd:σ[i]? =some (.mut ds)){h':Heap}{us:Array Value}{tk:Nat}(htk:0<tk)
  (hs:Heap.SameBut (ad i) s.heap h') (hl:h'.PlainList (ad i) us) (hr:RepAll Z us.toList es):SR P wc sc env ns own b Z (σ.set i (.mut es)) ad {s with heap:=h',toks:=tk}:=by
 refine bq S.nss fun m hm hv=>?_
 have hli:i<σ.length:=by
  rcases bS i σ.length with q | q
  ·exact q
  ·rw[bj q]at hd; cases hd
 have hmut:∃ov vs,VR P wc env.locals b.B Z s.heap (ad i) σ[i]? ov∧s.heap.PlainList (ad i) vs∧Z.get? (ad i)=none∧b.B.get? (ad i)=none:=by
  refine bq (S.slot (A:={}) hi) fun ov hv υ=>?_
  have hv':=hv
  rw[hd]at hv'
  obtain⟨vs,υ,l,υ,z,n⟩:=hv'
  exact Hg ov vs hv l z n
 refine x2_4 hmut fun υ vs υ l hz hB=>?_
 have hT:=S.ok.listT l
 have keep:∀e o,e≠ad i→s.heap.get? e=some o→h'.get? e=some o:=fun e o q e'=>(hs.2 e q).trans e'
 have zk:Le Z h':=fun e o e'=>keep e o (fun q=>by rw[q,hz]at e'; cases e') (S.ok.z e o e')
 have hLi:env.locals≠ad i:=fun q=>by
  obtain⟨υ,e1⟩:=l; obtain⟨_,_,_,e2,d2,_⟩:=hm
  rw[←q,e2]at e1; cases e1; cases d2
 have key:∀j y ov,ns[j]? =some (some y)→VR P wc env.locals b.B Z s.heap (ad j) σ[j]? ov→VR P wc env.locals b.B Z h' (ad j) (σ.set i (.mut es))[j]? ov:=fun j y ov hj hv=>by
  rw[di hli]
  by_cases hji:j=i
  ·subst hji
   rw[hd]at hv
   obtain⟨vs,e,υ,υ,z,n⟩:=hv
   rw[if_pos rfl]; exact⟨us,e,hl,hr,z,n⟩
  ·rw[if_neg hji]
   exact hv.sameList hs l fun ds' q e=>hji (S.ai j i ds' ds q hd e)
 refine⟨⟨zk,S.ok.g,S.ok.zT,P.to1 S.ok.tab (.refl _) (fun t ht=>hs.2 t fun q=>hT (by rw[←q]; exact ht)),S.ok.gens,S.ok.os,htk⟩,S.kind,S.glob,S.blt,S.gl,fun e o hT e'=>keep e o (fun q=>by rw[q,hB]at e'; cases e') (S.base e o hT e'),S.zle,S.zb,S.lz,S.lb,
  ⟨m,hm.sameBut hs hLi,fun j y hj hky=>key j y _ hj (hv j y hj hky)⟩,fun j y hj=>?_,S.ownk,S.nd,S.cd,fun j k ds1 ds2 h1 h2 h3=>?_,S.dd,by rw[dn]; exact S.len,S.cf,S.lc⟩
 ·rcases S.cel j y hj with q | ⟨k',c,o,h1,h2,h3,h4,h5⟩
  ·exact .inl q
  ·have hne:c≠ad i:=fun q=>by
    obtain⟨υ,e1⟩:=l; obtain⟨_,e2,d2⟩:=h2
    rw[q,e1]at e2; cases e2; cases d2
   exact .inr ⟨k',c,o,h1,h2.sameBut hs hne,key j y _ hj h3,h4,h5⟩
 ·have f:∀(j:Nat) (ds1:List D),(σ.set i (Var.mut es))[j]? =some (Var.mut ds1)→∃ds2:List D,σ[j]? =some (Var.mut ds2):=fun j ds1 h=>by
   rw[di hli]at h
   by_cases hji:j=i
   ·exact⟨ds,by rw[hji]; exact hd⟩
   ·rw[if_neg hji]at h; exact⟨_,h⟩
  refine dh (f j ds1 h1) fun e1 q1=>?_
  refine dh (f k ds2 h2) fun e2 q2=>?_
  exact S.ai j k e1 e2 q1 q2 h3
theorem SR.freeze(S:SR P wc sc env ns own b Z σ ad s){i:Nat}{x:Str}{ds:List D}(hi:ns[i]? =some (some x))(hd:σ[i]? =some (.mut ds)):
  ∃Z',Le Z Z'∧SR P wc sc env ns own b Z' (σ.set i (.fro (.list ds))) ad s:=by
 refine bq S.nss fun m hm hv=>?_
 have hli:i<σ.length:=by
  rcases bS i σ.length with q | q
  ·exact q
  ·rw[bj q]at hd; cases hd
 have hmut:∃vs,s.heap.PlainList (ad i) vs∧Z.get? (ad i)=none∧b.B.get? (ad i)=none∧RepAll Z vs.toList ds:=by
  refine bq (S.slot (A:={}) hi) fun ov hv υ=>?_
  rw[hd]at hv
  obtain⟨vs,υ,l,r,z,n⟩:=hv
  exact FZ vs l z n r
 refine B9 hmut fun vs l hz hB hr=>?_
 refine dh (id l) fun n0 ho=>?_
 generalize hoo:({cls:=Value.type "list",data:=Data.seq vs n0}:Obj)=o at ho
 have hdat:o.data= .seq vs n0:=by rw[←hoo]
 have hT:=S.ok.listT l
 have hfr:o.isFreed=false:=(ba.mp ho).2
 have hle:=dY (o:=o) hz
 have hLi:env.locals≠ad i:=fun q=>by
  refine pF hm fun υ υ υ e2 d2 υ=>?_
  rw[←q,e2]at ho; cases ho; rw[d2]at hdat; cases hdat
 have key:∀j y ov,ns[j]? =some (some y)→VR P wc env.locals b.B Z s.heap (ad j) σ[j]? ov→VR P wc env.locals b.B (hput Z (ad i) o) s.heap (ad j) (σ.set i (.fro (.list ds)))[j]? ov:=fun j y ov hj hv=>by
  rw[di hli]
  by_cases hji:j=i
  ·subst hji
   rw[hd]at hv
   obtain⟨vs',e,l',r',υ⟩:=hv
   rw[if_pos rfl]
   refine dh l' fun n' ho'=>?_
   rw[ho]at ho'; cases ho'
   exact⟨_,e,Rep.list (vs:=vs') ⟨_,cM hfr⟩ (r'.le hle)⟩
  ·rw[if_neg hji]
   refine hv.zle hle (fun ds' q=>?_) fun fs dx q z ⟨es,k,hx⟩=>?_
   ·rw[cD (fun e=>hji (S.ai j i ds' ds q hd e))]
    rw[q]at hv
    obtain⟨υ,υ,υ,υ,hz,υ⟩:=hv; exact hz
   ·rw[cD (fun e=>by rw[e,ho]at hx; cases hx; cases hdat)]; exact z
 refine⟨hput Z (ad i) o,hle,⟨lN S.ok.z ho,S.ok.g.trans hle,fun t ht=>?_,P.to1 S.ok.tab hle (fun υ υ=>rfl),S.ok.gens,S.ok.os,S.ok.tk⟩,S.kind,S.glob,S.blt,S.gl,S.base,S.zle.trans hle,fun a o' e=>?_,?_,S.lb,
  ⟨m,hm,fun j y hj hky=>key j y _ hj (hv j y hj hky)⟩,fun j y hj=>?_,S.ownk,S.nd,S.cd,fun j k ds1 ds2 h1 h2 h3=>?_,S.dd,by rw[dn]; exact S.len,S.cf,S.lc⟩
 ·rw[cD (fun q=>hT (by rw[←q]; exact ht))]; exact S.ok.zT t ht
 ·by_cases ha:a=ad i
  ·exact .inr (by rw[ha]; exact hB)
  ·rw[cD ha]at e; exact S.zb a o' e
 ·rw[cD hLi]; exact S.lz
 ·rcases S.cel j y hj with q | ⟨k',c,o',h1,h2,h3,h4,h5⟩
  ·exact .inl q
  ·have hne:c≠ad i:=fun q=>by
    refine bq h2 fun υ e2 d2=>?_
    rw[q,ho]at e2; cases e2; rw[hdat]at d2; cases d2
   exact .inr ⟨k',c,o',h1,h2,key j y _ hj h3,fun hh=>⟨by rw[cD hne]; exact(h4 hh).1,(h4 hh).2⟩,h5⟩
 ·have f:∀(j:Nat) (ds1:List D),(σ.set i (Var.fro (.list ds)))[j]? =some (Var.mut ds1)→σ[j]? =some (Var.mut ds1):=fun j ds1 h=>by
   rw[di hli]at h
   by_cases hji:j=i
   ·rw[if_pos hji]at h; cases h
   ·rw[if_neg hji]at h; exact h
  exact S.ai j k ds1 ds2 (f j ds1 h1) (f k ds2 h2) h3
end
structure Room(A:Around)(n:Nat):Prop where
 hd:A.handled=none
 depth:A.depth+n<recursionLimit
 units:A.units+8*n+80<cLine
theorem Room.mono{A:Around}{n m:Nat}(h:Room A n)(k:m≤n):Room A m:=⟨h.hd,by have:=h.depth; exact Oo this k,by have:=h.units; exact Om this k⟩
noncomputable def Gv(P:Pm)(A:Around)(Z:Heap)(s:Shared)(t:Sem Value)(d:D):Prop:=
 ∀(Q:Value→Shared→Prop) (E:Value→Shared→Prop),(∀v s' Z',Go P Z s Z' s'→Rep Z' v d→Q v s')→wpAny P.M A t Q E s
theorem few_eq:few=1048576:=rfl
section
variable {P:Pm}{A:Around}{Z:Heap}{s:Shared}{n:Nat}
theorem gC{a:Int}{k:Nat}(h:a.natAbs<2^k):Builtin.Int.intBits a≤k:=by
 unfold Builtin.Int.intBits
 split
 ·exact bK _
 ·rename_i h0
  have hp:a.natAbs≠0:=fun q=>h0 (by simp[Int.natAbs_eq_zero.mp q])
  have:=(Nat.log2_lt hp).mpr h
  exact qo this
theorem vz{a b:Int}(h:iJ a b=true):IntMulOk a b:=by
 unfold iJ at h
 simp only[aV,decide_eq_true_eq]at h
 obtain⟨h1,h2⟩:=h
 have k1:=gC h1
 have k2:=gC h2
 unfold IntMulOk
 intro q
 have q2:=(ee.mp q).2
 have h3:((Builtin.Int.intBits a:Nat):Int)+((Builtin.Int.intBits b:Nat):Int)>(bitsLine:Int):=of_decide_eq_true q2
 have e:(bitsLine:Int)=134217728:=by decide
 exact Ol k1 k2 h3 e
theorem Gv.int(ok:Ok P Z s){t:Sem Value}{i:Int}(h:∀Q E,Q (.int i s.toks) {s with toks:=s.toks+1}→wpAny P.M A t Q E s):Gv P A Z s t (.int i):=
 fun Q E k=>h Q E (k _ _ Z (Go.toks ok _ (br _)) (Rep.int _ _))
theorem Gv.int0(ok:Ok P Z s){t:Sem Value}{i:Int}(h:∀(Q:Value→Shared→Prop) E,(∀tk k,Q (.int i tk) {s with toks:=k})→wpAny P.M A t Q E s):Gv P A Z s t (.int i):=
 fun υ υ k=>wpAny_with_toks (n:=1) ok.tk (h _ _ fun υ υ hk=>k _ _ Z (Go.toks ok _ hk) (Rep.int _ _))
theorem Gv.str(ok:Ok P Z s){t:Sem Value}{x:Str}(h:∀(Q:Value→Shared→Prop) E,(∀tk k,Q (.str x tk) {s with toks:=k})→wpAny P.M A t Q E s):Gv P A Z s t (.str x):=
 fun υ υ k=>wpAny_with_toks (n:=1) ok.tk (h _ _ fun υ υ hk=>k _ _ Z (Go.toks ok _ hk) (Rep.str _ _))
theorem Gv.bool(ok:Ok P Z s){t:Sem Value}{x:Bool}(h:∀(Q:Value→Shared→Prop) E,(∀k,Q (.bool x) {s with toks:=k})→wpAny P.M A t Q E s):Gv P A Z s t (.bool x):=
 fun υ υ k=>wpAny_with_toks (n:=1) ok.tk (h _ _ fun υ hk=>k _ _ Z (Go.toks ok _ hk) (Rep.bool _))
theorem rh{a b:Int}{t u:Tok}(ok:Ok P Z s)(h:0≤b∧b<10000∧a.natAbs≤16):Gv P A Z s (binaryOp .Pow (.int a t) (.int b u)) (.int (a^b.toNat)):=by
 obtain⟨h0,h1,h2⟩:=h
 refine Gv.int0 ok fun Q E k=>?_
 have mk:∀i:Int,i=a^b.toNat→(Made.int i).post Q s:=fun i e=>by subst e; exact k _ _
 by_cases c1:(b==0)=true
 ·have:b=0:=by simpa using c1
  subst this
  exact AutoIntOps.pow_0 (by assumption) c1 (mk 1 (by simp))
 ·by_cases c2:(a==0||a==1)=true
  ·refine AutoIntOps.pow_1 h0 c1 c2 (mk a ?_)
   have hb:b.toNat≠0:=by intro q; apply c1; simp; exact Oj q h0
   simp only[Bool.or_eq_true,beq_iff_eq]at c2
   rcases c2 with rfl | rfl
   ·rw[Int.zero_pow hb]
   ·rw[Int.one_pow]
  ·by_cases c3:(a== -1)=true
   ·refine AutoIntOps.pow_2 h0 c1 c2 c3 (mk _ ?_)
    have ha:a= -1:=by simpa using c3
    subst ha
    have e:∀n:Nat,((-1:Int)^n=if n%2=0 then 1 else -1):=by
     intro n
     induction n with
     | zero=>rfl
     | succ n ih=>rw[Int.pow_succ,ih]; by_cases hn:n%2=0<;>simp[hn]<;>(first | exact Oi hn | exact Oh hn)
    rw[e]
    by_cases hb:b%2=0
    ·have:b.toNat%2=0:=by exact Og hb
     simp[hb,this]
    ·have:¬b.toNat%2=0:=by exact Of hb h0
     simp[hb,this]
   ·refine AutoIntOps.pow_4 h0 c1 c2 c3 ?_ (mk _ rfl)
    have k1:Builtin.Int.intBits a≤5:=gC (by have:(2:Nat)^5=32:=rfl; exact Oe h2)
    have hm:((Builtin.Int.intBits a:Nat):Int)*b≤5*b:=Int.mul_le_mul_of_nonneg_right (by exact er.mpr (by assumption)) h0
    intro q
    have h3:((Builtin.Int.intBits a:Nat):Int)*b>(bitsLine:Int):=of_decide_eq_true q
    have e:(bitsLine:Int)=134217728:=by decide
    exact Od h1 h3 e hm
theorem iV{a b:Addr}{vs ws:Array Value}{ds es:List D}(ha':s.heap.PlainList a vs)(hb':s.heap.PlainList b ws)(ra:RepAll Z vs.toList ds)(rb:RepAll Z ws.toList es)
  (hsz:ds.length+es.length≤few) {Q:Value→Shared→Prop} {E} (h:∀l,(s.heap.push {cls:= .type "list",data:= .seq (vs.toList++ws.toList).toArray}).PlainList s.heap.objs.size l→RepAll Z l.toList (ds++es)→Q (.ref s.heap.objs.size) {s with heap:=s.heap.push {cls:= .type "list",data:= .seq (vs.toList++ws.toList).toArray}}):
  wpAny P.M A (binaryOp .Add (.ref a) (.ref b)) Q E s:=by
 have ha:=ha'.isList
 have hb:=hb'.isList
 obtain⟨⟨cls,dd,data,sl⟩,ho,hc,n,hd⟩:=id ha
 obtain⟨⟨cls2,dd2,data2,sl2⟩,ho2,hc2,n2,hd2⟩:=id hb
 simp only at hc hd hc2 hd2
 subst hc hd hc2 hd2
 have e:vs++ws=(vs.toList++ws.toList).toArray:=by simp
 have l1:=ra.length
 have l2:=rb.length
 have hz:vs.size+ws.size≤sizeLine:=by
  rw[sizeLine_eq]; simp only[Array.length_toList]at l1 l2; rw[few_eq]at hsz; exact Oc hsz l1 l2
 refine concat_meets ⟨_,ho,rfl⟩ ⟨_,ho2,rfl⟩ noFill_list_add seq_list_add PySem.F.slot_list_add PySem.F.entry_list_add (PySem.F.args_list_add_2 _ _) (list_addW a b vs ws n n2 dd dd2 sl sl2 hz) ⟨ho,ho2,?_⟩
 rw[e]
 exact h (vs.toList++ws.toList).toArray ⟨_,aJ _ rfl⟩ (by simpa using ra.append rb)
theorem pT{vs:List Value}{ds:List D}(r:RepAll Z vs ds):∀k,RepAll Z (aq k vs).flatten (aq k ds).flatten:=by
 intro k
 induction k with
 | zero=>
  exact by simp; exact RepAll.nil
 | succ k ih=>
  exact by simp only[dK,List.flatten_cons]; exact r.append (ih)
theorem iK{a:Addr}{vs:Array Value}{ds:List D}{x:Int}{u:Tok}(ha':s.heap.PlainList a vs)(ra:RepAll Z vs.toList ds)
  (hx:x<1000∧ds.length≤1000∧ -1000<x) {Q:Value→Shared→Prop} {E}
  (h:∀o l,o.isFreed=false→(s.heap.push o).PlainList s.heap.objs.size l→RepAll Z l.toList (aq x.toNat ds).flatten→Q (.ref s.heap.objs.size) {s with heap:=s.heap.push o}):
  wpAny P.M A (binaryOp .Mult (.ref a) (.int x u)) Q E s:=by
 have ha:=ha'.isList
 obtain⟨⟨cls,d,data,sl⟩,ho,hcl,k,hd⟩:=id ha
 simp only at hcl hd
 subst hcl hd
 have l1:=ra.length
 simp only[Array.length_toList]at l1
 have hsz':vs.size*x.toNat≤2^24:=by
  have:vs.size*x.toNat≤1000*1000:=fk (by exact Ob l1 hx) (by exact FG hx)
  have e:(2:Nat)^24=16777216:=by decide
  exact Oa this
 have e63:(2:Int)^63=9223372036854775808:=by decide
 refine wpAny_binaryOp_repeat_ref (T:="list") (U:="int") (by decide) ⟨_,ho,rfl⟩ (fun s'=>typeIs_int s' x u) noFill_list_mul F.fills_int_mul F.slot_int_rmul repeat_list F.slot_int_index.lookup
  (call_meets F.slot_int_rmul (typeIs_int s x u) F.entry_int_rmul (F.args_int_rmul_2 _ _) (lm_int_rmul_list_any x u a vs k d sl)
   ⟨ho,rfl,⟨_,ho,rfl⟩,call_meets F.slot_list_mul ⟨_,ho,rfl⟩ F.entry_list_mul (F.args_list_mul_2 _ _)
    (lm_list_mul_any a vs k d sl x u (by simp[Builtin.List.listFitsIndex]; exact N9 hx) (by exact N8 hsz') (by simp[Builtin.List.listTooLong,sizeLine]; exact qo hsz'))
    ⟨ho,?_⟩⟩)
 refine h _ (aq x.toNat vs.toList).flatten.toArray rfl ⟨0,?_⟩ (by simpa using pT ra x.toNat)
 rw[←listMul_foldl_if]
 exact aJ _ rfl
end
section
variable {P:Pm}{A:Around}{Z:Heap}{s:Shared}{n:Nat}
theorem lP{k:Nat}(h:k≤few):k≤sizeLine:=by rw[sizeLine_eq]; rw[few_eq]at h; exact aq28 h
theorem Gv.freezeNew(ok:Ok P Z s){t:Sem Value}{ds:List D}
  (h:∀(Q:Value→Shared→Prop) E,(∀o l k,o.isFreed=false→(s.heap.push o).PlainList s.heap.objs.size l→RepAll Z l.toList ds→Q (.ref s.heap.objs.size) {s with heap:=s.heap.push o,toks:=k})→wpAny P.M A t Q E s):Gv P A Z s t (.list ds):=
 fun υ υ k=>wpAny_with_toks (n:=1) ok.tk (h _ _ fun o l tk hf hl hr (hk:0<tk)=>by
  have g:=Go.push ok o tk hk
  refine dh (id hl) fun n e=>?_
  have hz:=ok.znone (get?_size s.heap)
  have ht:s.heap.objs.size∉P.T:=g.ok.notT e (.inl nofun)
  exact k _ _ _ (g.freeze e (get?_size _) hz ht) (Rep.list (vs:=l) ⟨n,cM rfl⟩ (hr.le (dY hz))))
theorem IB{a b:Bool}(h:(a&&b)=true):a=true:=by
 cases a
 ·exact Bool.noConfusion h
 ·rfl
theorem bA2{b1 b2:Bool}{G:Prop}(h:(b1&&b2)=true)(f:b1=true→b2=true→G):G:=by
 cases b1
 ·exact Bool.noConfusion h
 ·exact f rfl h
theorem noPy{b:Int}(h:b.natAbs<2^64):b.natAbs.log2<64∨b.natAbs=0:=by
 rcases Nat.eq_zero_or_pos b.natAbs with h0 | hp
 ·exact .inr h0
 ·exact .inl ((Nat.log2_lt (Nat.ne_of_gt hp)).mpr h)
theorem binI(R:Room A n)(ok:Ok P Z s){op:Operator}{a b:Int}{d:D}{t u:Tok}(h:dO op (.int a) (.int b)=some d):Gv P A Z s (binaryOp op (.int a t) (.int b u)) d:=by
 have hh:=R.hd
 cases op with
 | Add=>cases h; exact Gv.int ok fun Q E k=>PySem.P.add_int k
 | Sub=>cases h; exact Gv.int ok fun Q E k=>PySem.P.sub_int k
 | Mult=>have h:(if iJ a b=true then some (PyData.int (a*b)) else none)=some d:=h; obtain⟨hm,rfl⟩:=oif h; exact Gv.int ok fun Q E k=>PySem.P.mul_int k (vz hm)
 | FloorDiv=>
  refine fu (oif h) fun hm e38_1=>?_; subst e38_1
  exact Gv.int ok fun Q E k=>floordiv_int_or hh (fun q=>absurd q hm.1) (fun υ=>k) fun υ=> .inl (PyProof.noPylong_of_log2 (by
   rcases noPy hm.2 with h0 | h0
   ·exact eY h0 (by decide)
   ·rw[h0]; decide))
 | Mod=>obtain⟨hm,rfl⟩:=oif h; exact Gv.int ok fun Q E k=>mod_int_or hh (fun q=>absurd q hm) fun υ=>k
 | Pow=>obtain⟨hm,rfl⟩:=oif h; exact rh ok hm
 | LShift=>
  have h:(if 0≤b∧b<10000∧iJ a 0=true then some (PyData.int (a*2^b.toNat)) else none)=some d:=h
  refine fu (oif h) fun hm e47_1=>?_; subst e47_1
  refine Gv.int ok fun Q E k=>lshift_int hm.1 ?_ k
  have:=gC (of_decide_eq_true (IB hm.2.2))
  have e:(2:Int)^27=134217728:=by decide
  have h1:=hm.2.1
  clear hm k h hh
  exact N7 this h1
 | RShift=>obtain⟨hm,rfl⟩:=oif h; exact Gv.int ok fun Q E k=>rshift_int_or hh (fun q=>absurd hm (Int.not_le.mpr q)) fun υ=>k
 | BitAnd=>cases h; exact Gv.int ok fun Q E k=>and_int k
 | BitOr=>cases h; exact Gv.int ok fun Q E k=>or_int k
 | BitXor=>cases h; exact Gv.int ok fun Q E k=>xor_int k
 | _=>cases h
theorem Bt(ok:Ok P Z s){op:Operator}{a b:Str}{d:D}{t u:Tok}(h:dO op (.str a) (.str b)=some d):Gv P A Z s (binaryOp op (.str a t) (.str b u)) d:=by
 cases op with
 | Add=>obtain⟨hm,rfl⟩:=oif h; exact Gv.str ok fun Q E k=>SB.add k (lP hm)
 | _=>cases h
theorem vy{b:Int}(h:b<1000)(h0:0<b):(1000:Int)<(2^63-1) / b:=by
 have h1:(2^63-1) / 999≤((2^63-1) / b:Int):=by
  rw[Int.le_ediv_iff_mul_le h0]
  have:(2^63-1:Int) / 999*b≤(2^63-1) / 999*999:=Int.mul_le_mul_of_nonneg_left (by exact N6 h) (by decide)
  exact cJ this (by decide)
 exact dB (by decide) h1
theorem Bu(ok:Ok P Z s){op:Operator}{a:Str}{b:Int}{d:D}{t u:Tok}(h:dO op (.str a) (.int b)=some d):Gv P A Z s (binaryOp op (.str a t) (.int b u)) d:=by
 cases op with
 | Mult=>
  refine fu (oif h) fun hm e72_1=>?_; subst e72_1
  have e:(2:Int)^63=9223372036854775808:=by decide
  refine Gv.str ok fun Q E k=>SB.mul ⟨?_,fun υ h0=>?_,fun υ υ=>?_⟩ k
  ·simp only[Bool.or_eq_false_iff,decide_eq_false_iff_not]; exact N5 hm
  ·intro q
   have h2:0<b:=by exact N4 (by assumption)
   have:=vy hm.1 h2
   exact N3 hm this q
  ·have:a.length*b.toNat≤1000*1000:=fk hm.2.1 (by exact FG hm)
   unfold Builtin.Str.tooLong
   simp only[sizeLine_eq,decide_eq_false_iff_not]; exact N2 this
 | _=>cases h
theorem Bv(ok:Ok P Z s){op:Operator}{a b:List D}{d:D}{v u:Value}(h:dO op (.list a) (.list b)=some d)(rx:gp P Z s.heap v (.list a))(ry:gp P Z s.heap u (.list b)):Gv P A Z s (binaryOp op v u) d:=by
 refine gw (rx.list ok) fun υ vs e85_1 la ra=>?_; subst e85_1
 refine gw (ry.list ok) fun υ ws e86_1 lb rb=>?_; subst e86_1
 cases op with
 | Add=>obtain⟨hm,rfl⟩:=oif h; exact Gv.freezeNew ok fun Q E k=>iV la lb ra rb hm fun l hl hr=>k _ l s.toks rfl hl hr
 | _=>cases h
theorem Bw(ok:Ok P Z s){op:Operator}{a:List D}{b:Int}{d:D}{v:Value}{u:Tok}(h:dO op (.list a) (.int b)=some d)(rx:gp P Z s.heap v (.list a)):Gv P A Z s (binaryOp op v (.int b u)) d:=by
 refine gw (rx.list ok) fun υ vs e91_1 la ra=>?_; subst e91_1
 cases op with
 | Mult=>obtain⟨hm,rfl⟩:=oif h; exact Gv.freezeNew ok fun Q E k=>iK la ra hm fun o l hf hl hr=>k o l s.toks hf hl hr
 | _=>cases h
theorem kj(R:Room A n)(ok:Ok P Z s){op:Operator}{x y d:D}{v u:Value}(h:dO op x y=some d)(rx:gp P Z s.heap v x)(ry:gp P Z s.heap u y):
  Gv P A Z s (binaryOp op v u) d:=by
 cases x with
 | int a=>
  refine dh rx.int fun t e2_1=>?_; subst e2_1
  cases y with
  | int b=>obtain⟨w,rfl⟩:=ry.int; exact @binI P A Z s n R ok op a b d t w h
  | _=>exact onv h
 | str a=>
  refine dh rx.str fun t e7_1=>?_; subst e7_1
  cases y with
  | str b=>obtain⟨w,rfl⟩:=ry.str; exact @Bt P A Z s ok op a b d t w h
  | int b=>obtain⟨w,rfl⟩:=ry.int; exact @Bu P A Z s ok op a b d t w h
  | _=>exact onv h
 | list a=>
  cases y with
  | list b=>exact @Bv P A Z s ok op a b d v u h rx ry
  | int b=>obtain⟨w,rfl⟩:=ry.int; exact @Bw P A Z s ok op a b d v w h rx
  | _=>exact onv h
 | _=>exact onv h
theorem uF(ok:Ok P Z s){op:UnaryOp}{x d:D}{v:Value}(h:unD op x=some d)(rx:gp P Z s.heap v x):Gv P A Z s (unaryOp op v) d:=by
 cases x with
 | int a=>
  refine dh rx.int fun υ e22_1=>?_; subst e22_1
  cases op with
  | USub=>cases h; exact Gv.int ok fun Q E k=>PySem.P.neg_int k
  | Invert=>cases h; exact Gv.int ok fun Q E k=>invert_int k
  | _=>cases h
 | _=>cases op<;>cases h
theorem cmpI(ok:Ok P Z s){op:CmpOp}{a b:Int}{c:Bool}{t u:Tok}(h:gj op (.int a) (.int b)=some c):Gv P A Z s (compareOp op (.int a t) (.int b u)) (.bool c):=by
 cases op with
 | Eq=>obtain rfl:=ax.inj h; exact Gv.bool ok fun Q E k=>PySem.P.eq_int (k _)
 | NotEq=>obtain rfl:=ax.inj h; exact Gv.bool ok fun Q E k=>PySem.P.ne_int (k _)
 | Lt=>obtain rfl:=ax.inj h; exact Gv.bool ok fun Q E k=>PySem.P.lt_int (k _)
 | LtE=>obtain rfl:=ax.inj h; exact Gv.bool ok fun Q E k=>PySem.P.le_int (k _)
 | Gt=>obtain rfl:=ax.inj h; exact Gv.bool ok fun Q E k=>PySem.P.gt_int (k _)
 | GtE=>obtain rfl:=ax.inj h; exact Gv.bool ok fun Q E k=>PySem.P.ge_int (k _)
 | _=>cases h
theorem cmpS(ok:Ok P Z s){op:CmpOp}{a b:Str}{c:Bool}{t u:Tok}(h:gj op (.str a) (.str b)=some c):Gv P A Z s (compareOp op (.str a t) (.str b u)) (.bool c):=by
 cases op with
 | Eq=>have h:some (a.cps.toList==b.cps.toList)=some c:=h; cases h; exact Gv.bool ok fun Q E k=>PySem.P.eq_str (k _)
 | In=>have h:some (Txt.contains b a)=some c:=h; cases h; exact Gv.bool ok fun Q E k=>PySem.P.in_str (k _)
 | NotIn=>have h:some (!Txt.contains b a)=some c:=h; cases h; exact Gv.bool ok fun Q E k=>PySem.P.notIn_str (k _)
 | _=>cases h
theorem sP{b:List D}(h:cu (.list b)=true):PyData.canLayAll0 b=true:=by have:=SeqAt.canLay_of_shaped h; simpa[PyData.canLay0]using this
theorem cmpL(R:Room A n)(ok:Ok P Z s){op:CmpOp}{x:D}{b:List D}{c:Bool}{v u:Value}(h:gj op x (.list b)=some c)(rx:gp P Z s.heap v x)(ry:gp P Z s.heap u (.list b)):
  Gv P A Z s (compareOp op v u) (.bool c):=by
 have hu:A.units+64<cLine:=by have:=R.units; exact N1 this
 have hu':A.units+66<cLine:=by have:=R.units; exact N0 this
 obtain⟨υ,r1⟩:=rx.reads ok; obtain⟨_,r2⟩:=ry.reads ok
 cases op with
 | Eq=>
  cases x with
  | list a=>
   refine fu (oif h) fun hm e54_1=>?_; subst e54_1
   exact bA2 hm fun h1 h2=>Gv.bool ok fun Q E k=>eq_dataH r1 r2 h1 h2 hu (k _)
  | _=>cases h
 | NotEq=>
  cases x with
  | list a=>
   refine fu (oif h) fun hm e60_1=>?_; subst e60_1
   exact bA2 hm fun h1 h2=>Gv.bool ok fun Q E k=>ne_dataH r1 r2 h1 h2 hu (k _)
  | _=>cases h
 | In=>
  refine fu (oif h) fun hm e64_1=>?_; subst e64_1
  refine bA2 hm fun h1 h2=>?_
  have d1:=SeqAt.depth_of_shaped h1
  exact Gv.bool ok fun Q E k=>SeqAt.in_list_reads r2 r1 (sP h2) (SeqAt.canLay_of_shaped h1) (by have:=Nat.min_le_right (PyData.depthAll b) (PyData.depth x); exact FF hu' d1) (k _)
 | NotIn=>
  refine fu (oif h) fun hm e69_1=>?_; subst e69_1
  refine bA2 hm fun h1 h2=>?_
  have d1:=SeqAt.depth_of_shaped h1
  exact Gv.bool ok fun Q E k=>SeqAt.notIn_list_reads r2 r1 (sP h2) (SeqAt.canLay_of_shaped h1) (by have:=Nat.min_le_right (PyData.depthAll b) (PyData.depth x); exact FF hu' d1) (k _)
 | _=>cases h
theorem mM(R:Room A n)(ok:Ok P Z s){op:CmpOp}{x y:D}{b:Bool}{v u:Value}(h:gj op x y=some b)(rx:gp P Z s.heap v x)(ry:gp P Z s.heap u y):
  Gv P A Z s (compareOp op v u) (.bool b):=by
 cases y with
 | int b'=>
  cases x with
  | int a=>obtain⟨t,rfl⟩:=rx.int; obtain⟨w,rfl⟩:=ry.int; exact @cmpI P A Z s ok op a b' b t w h
  | _=>cases h
 | str b'=>
  cases x with
  | str a=>obtain⟨t,rfl⟩:=rx.str; obtain⟨w,rfl⟩:=ry.str; exact @cmpS P A Z s ok op a b' b t w h
  | _=>cases h
 | list b'=>exact @cmpL P A Z s n R ok op x b' b v u h rx ry
 | _=>cases h
end
theorem kno{P:Prop}(h:false=true):P:=Bool.noConfusion h
noncomputable def kk(n i:Nat)(F:i=n→Bool):Bool:=if h:i=n then F h else false
theorem kkE{n i:Nat}{F:i=n→Bool}{G:Prop}(h:kk n i F=true)(g:∀c,F c=true→G):G:=by
 unfold kk at h
 by_cases c:i=n
 ·rw[dif_pos c]at h; exact g c h
 ·rw[dif_neg c]at h; exact kno h
noncomputable def kW(f:Const→Nat→Pos→Bool)(e:Expr):Bool:=kk 19 e.ctorIdx fun h=>Expr.Constant.elim (motive_1:=fun υ=>Bool) e h f
@[elab_as_elim] theorem kConst'{f:Const→Nat→Pos→Bool}{e:Expr}{G:Expr→Prop}(h:kW f e=true)(g:∀a0 a1 a2,f a0 a1 a2=true→G (.Constant a0 a1 a2)):G e:=kkE h fun c q=>Expr.Constant.elim (motive_1:=fun e=>∀c:e.ctorIdx=19,Expr.Constant.elim (motive_1:=fun υ=>Bool) e c f=true→G e) e c (fun a0 a1 a2 υ=>g a0 a1 a2) c q
noncomputable def fi(f:Str→Pos→Bool)(e:Expr):Bool:=kk 23 e.ctorIdx fun h=>Expr.Name.elim (motive_1:=fun υ=>Bool) e h f
@[elab_as_elim] theorem dC{f:Str→Pos→Bool}{e:Expr}{G:Expr→Prop}(h:fi f e=true)(g:∀a0 a1,f a0 a1=true→G (.Name a0 a1)):G e:=kkE h fun c q=>Expr.Name.elim (motive_1:=fun e=>∀c:e.ctorIdx=23,Expr.Name.elim (motive_1:=fun υ=>Bool) e c f=true→G e) e c (fun a0 a1 υ=>g a0 a1) c q
noncomputable def G9(f:Expr→Operator→Expr→Pos→Bool)(e:Expr):Bool:=kk 2 e.ctorIdx fun h=>Expr.BinOp.elim (motive_1:=fun υ=>Bool) e h f
@[elab_as_elim] theorem vP{f:Expr→Operator→Expr→Pos→Bool}{e:Expr}{G:Expr→Prop}(h:G9 f e=true)(g:∀a0 a1 a2 a3,f a0 a1 a2 a3=true→G (.BinOp a0 a1 a2 a3)):G e:=kkE h fun c q=>Expr.BinOp.elim (motive_1:=fun e=>∀c:e.ctorIdx=2,Expr.BinOp.elim (motive_1:=fun υ=>Bool) e c f=true→G e) e c (fun a0 a1 a2 a3 υ=>g a0 a1 a2 a3) c q
noncomputable def kUn(f:UnaryOp→Expr→Pos→Bool)(e:Expr):Bool:=kk 3 e.ctorIdx fun h=>Expr.UnaryOp.elim (motive_1:=fun υ=>Bool) e h f
@[elab_as_elim] theorem Dn{f:UnaryOp→Expr→Pos→Bool}{e:Expr}{G:Expr→Prop}(h:kUn f e=true)(g:∀a0 a1 a2,f a0 a1 a2=true→G (.UnaryOp a0 a1 a2)):G e:=kkE h fun c q=>Expr.UnaryOp.elim (motive_1:=fun e=>∀c:e.ctorIdx=3,Expr.UnaryOp.elim (motive_1:=fun υ=>Bool) e c f=true→G e) e c (fun a0 a1 a2 υ=>g a0 a1 a2) c q
noncomputable def kCmp(f:Expr→List CmpOp→List Expr→Pos→Bool)(e:Expr):Bool:=kk 15 e.ctorIdx fun h=>Expr.Compare.elim (motive_1:=fun υ=>Bool) e h f
@[elab_as_elim] theorem zS{f:Expr→List CmpOp→List Expr→Pos→Bool}{e:Expr}{G:Expr→Prop}(h:kCmp f e=true)(g:∀a0 a1 a2 a3,f a0 a1 a2 a3=true→G (.Compare a0 a1 a2 a3)):G e:=kkE h fun c q=>Expr.Compare.elim (motive_1:=fun e=>∀c:e.ctorIdx=15,Expr.Compare.elim (motive_1:=fun υ=>Bool) e c f=true→G e) e c (fun a0 a1 a2 a3 υ=>g a0 a1 a2 a3) c q
noncomputable def zU(f:BoolOp→List Expr→Pos→Bool)(e:Expr):Bool:=kk 0 e.ctorIdx fun h=>Expr.BoolOp.elim (motive_1:=fun υ=>Bool) e h f
@[elab_as_elim] theorem kBool'{f:BoolOp→List Expr→Pos→Bool}{e:Expr}{G:Expr→Prop}(h:zU f e=true)(g:∀a0 a1 a2,f a0 a1 a2=true→G (.BoolOp a0 a1 a2)):G e:=kkE h fun c q=>Expr.BoolOp.elim (motive_1:=fun e=>∀c:e.ctorIdx=0,Expr.BoolOp.elim (motive_1:=fun υ=>Bool) e c f=true→G e) e c (fun a0 a1 a2 υ=>g a0 a1 a2) c q
noncomputable def kIf(f:Expr→Expr→Expr→Pos→Bool)(e:Expr):Bool:=kk 5 e.ctorIdx fun h=>Expr.IfExp.elim (motive_1:=fun υ=>Bool) e h f
@[elab_as_elim] theorem G5{f:Expr→Expr→Expr→Pos→Bool}{e:Expr}{G:Expr→Prop}(h:kIf f e=true)(g:∀a0 a1 a2 a3,f a0 a1 a2 a3=true→G (.IfExp a0 a1 a2 a3)):G e:=kkE h fun c q=>Expr.IfExp.elim (motive_1:=fun e=>∀c:e.ctorIdx=5,Expr.IfExp.elim (motive_1:=fun υ=>Bool) e c f=true→G e) e c (fun a0 a1 a2 a3 υ=>g a0 a1 a2 a3) c q
noncomputable def Dr(f:List Expr→Pos→Bool)(e:Expr):Bool:=kk 24 e.ctorIdx fun h=>Expr.List.elim (motive_1:=fun υ=>Bool) e h f
@[elab_as_elim] theorem sC{f:List Expr→Pos→Bool}{e:Expr}{G:Expr→Prop}(h:Dr f e=true)(g:∀a0 a1,f a0 a1=true→G (.List a0 a1)):G e:=kkE h fun c q=>Expr.List.elim (motive_1:=fun e=>∀c:e.ctorIdx=24,Expr.List.elim (motive_1:=fun υ=>Bool) e c f=true→G e) e c (fun a0 a1 υ=>g a0 a1) c q
noncomputable def Dp(f:List Expr→Nat→Pos→Bool)(e:Expr):Bool:=kk 25 e.ctorIdx fun h=>Expr.Tuple.elim (motive_1:=fun υ=>Bool) e h f
@[elab_as_elim] theorem sx{f:List Expr→Nat→Pos→Bool}{e:Expr}{G:Expr→Prop}(h:Dp f e=true)(g:∀a0 a1 a2,f a0 a1 a2=true→G (.Tuple a0 a1 a2)):G e:=kkE h fun c q=>Expr.Tuple.elim (motive_1:=fun e=>∀c:e.ctorIdx=25,Expr.Tuple.elim (motive_1:=fun υ=>Bool) e c f=true→G e) e c (fun a0 a1 a2 υ=>g a0 a1 a2) c q
noncomputable def Dq(f:Expr→Expr→Pos→Bool)(e:Expr):Bool:=kk 21 e.ctorIdx fun h=>Expr.Subscript.elim (motive_1:=fun υ=>Bool) e h f
@[elab_as_elim] theorem sy{f:Expr→Expr→Pos→Bool}{e:Expr}{G:Expr→Prop}(h:Dq f e=true)(g:∀a0 a1 a2,f a0 a1 a2=true→G (.Subscript a0 a1 a2)):G e:=kkE h fun c q=>Expr.Subscript.elim (motive_1:=fun e=>∀c:e.ctorIdx=21,Expr.Subscript.elim (motive_1:=fun υ=>Bool) e c f=true→G e) e c (fun a0 a1 a2 υ=>g a0 a1 a2) c q
noncomputable def xU(f:Option Expr→Option Expr→Option Expr→Pos→Bool)(e:Expr):Bool:=kk 26 e.ctorIdx fun h=>Expr.Slice.elim (motive_1:=fun υ=>Bool) e h f
@[elab_as_elim] theorem zR{f:Option Expr→Option Expr→Option Expr→Pos→Bool}{e:Expr}{G:Expr→Prop}(h:xU f e=true)(g:∀a0 a1 a2 a3,f a0 a1 a2 a3=true→G (.Slice a0 a1 a2 a3)):G e:=kkE h fun c q=>Expr.Slice.elim (motive_1:=fun e=>∀c:e.ctorIdx=26,Expr.Slice.elim (motive_1:=fun υ=>Bool) e c f=true→G e) e c (fun a0 a1 a2 a3 υ=>g a0 a1 a2 a3) c q
noncomputable def iO(f:Expr→List Expr→List Keyword→Pos→Bool)(e:Expr):Bool:=kk 16 e.ctorIdx fun h=>Expr.Call.elim (motive_1:=fun υ=>Bool) e h f
@[elab_as_elim] theorem kCall'{f:Expr→List Expr→List Keyword→Pos→Bool}{e:Expr}{G:Expr→Prop}(h:iO f e=true)(g:∀a0 a1 a2 a3,f a0 a1 a2 a3=true→G (.Call a0 a1 a2 a3)):G e:=kkE h fun c q=>Expr.Call.elim (motive_1:=fun e=>∀c:e.ctorIdx=16,Expr.Call.elim (motive_1:=fun υ=>Bool) e c f=true→G e) e c (fun a0 a1 a2 a3 υ=>g a0 a1 a2 a3) c q
noncomputable def j1(f:Expr→Str→Pos→Bool)(e:Expr):Bool:=kk 20 e.ctorIdx fun h=>Expr.Attribute.elim (motive_1:=fun υ=>Bool) e h f
@[elab_as_elim] theorem gB{f:Expr→Str→Pos→Bool}{e:Expr}{G:Expr→Prop}(h:j1 f e=true)(g:∀a0 a1 a2,f a0 a1 a2=true→G (.Attribute a0 a1 a2)):G e:=kkE h fun c q=>Expr.Attribute.elim (motive_1:=fun e=>∀c:e.ctorIdx=20,Expr.Attribute.elim (motive_1:=fun υ=>Bool) e c f=true→G e) e c (fun a0 a1 a2 υ=>g a0 a1 a2) c q
noncomputable def kLC(f:Expr→List Comprehension→Scope→Pos→Bool)(e:Expr):Bool:=kk 8 e.ctorIdx fun h=>Expr.ListComp.elim (motive_1:=fun υ=>Bool) e h f
@[elab_as_elim] theorem kLC'{f:Expr→List Comprehension→Scope→Pos→Bool}{e:Expr}{G:Expr→Prop}(h:kLC f e=true)(g:∀a0 a1 a2 a3,f a0 a1 a2 a3=true→G (.ListComp a0 a1 a2 a3)):G e:=kkE h fun c q=>Expr.ListComp.elim (motive_1:=fun e=>∀c:e.ctorIdx=8,Expr.ListComp.elim (motive_1:=fun υ=>Bool) e c f=true→G e) e c (fun a0 a1 a2 a3 υ=>g a0 a1 a2 a3) c q
noncomputable def BX(f:List Expr→Expr→Pos→Bool)(e:Stmt):Bool:=kk 5 e.ctorIdx fun h=>Stmt.Assign.elim (motive_2:=fun υ=>Bool) e h f
@[elab_as_elim] theorem sE{f:List Expr→Expr→Pos→Bool}{e:Stmt}{G:Stmt→Prop}(h:BX f e=true)(g:∀a0 a1 a2,f a0 a1 a2=true→G (.Assign a0 a1 a2)):G e:=kkE h fun c q=>Stmt.Assign.elim (motive_2:=fun e=>∀c:e.ctorIdx=5,Stmt.Assign.elim (motive_2:=fun υ=>Bool) e c f=true→G e) e c (fun a0 a1 a2 υ=>g a0 a1 a2) c q
noncomputable def kAug(f:Expr→Operator→Expr→Pos→Bool)(e:Stmt):Bool:=kk 7 e.ctorIdx fun h=>Stmt.AugAssign.elim (motive_2:=fun υ=>Bool) e h f
@[elab_as_elim] theorem Ha{f:Expr→Operator→Expr→Pos→Bool}{e:Stmt}{G:Stmt→Prop}(h:kAug f e=true)(g:∀a0 a1 a2 a3,f a0 a1 a2 a3=true→G (.AugAssign a0 a1 a2 a3)):G e:=kkE h fun c q=>Stmt.AugAssign.elim (motive_2:=fun e=>∀c:e.ctorIdx=7,Stmt.AugAssign.elim (motive_2:=fun υ=>Bool) e c f=true→G e) e c (fun a0 a1 a2 a3 υ=>g a0 a1 a2 a3) c q
noncomputable def kDel(f:List Expr→Pos→Bool)(e:Stmt):Bool:=kk 4 e.ctorIdx fun h=>Stmt.Delete.elim (motive_2:=fun υ=>Bool) e h f
@[elab_as_elim] theorem G7{f:List Expr→Pos→Bool}{e:Stmt}{G:Stmt→Prop}(h:kDel f e=true)(g:∀a0 a1,f a0 a1=true→G (.Delete a0 a1)):G e:=kkE h fun c q=>Stmt.Delete.elim (motive_2:=fun e=>∀c:e.ctorIdx=4,Stmt.Delete.elim (motive_2:=fun υ=>Bool) e c f=true→G e) e c (fun a0 a1 υ=>g a0 a1) c q
noncomputable def Dt(f:Expr→Pos→Bool)(e:Stmt):Bool:=kk 24 e.ctorIdx fun h=>Stmt.Expr.elim (motive_2:=fun υ=>Bool) e h f
@[elab_as_elim] theorem Ds{f:Expr→Pos→Bool}{e:Stmt}{G:Stmt→Prop}(h:Dt f e=true)(g:∀a0 a1,f a0 a1=true→G (.Expr a0 a1)):G e:=kkE h fun c q=>Stmt.Expr.elim (motive_2:=fun e=>∀c:e.ctorIdx=24,Stmt.Expr.elim (motive_2:=fun υ=>Bool) e c f=true→G e) e c (fun a0 a1 υ=>g a0 a1) c q
noncomputable def kIfS(f:Expr→List Stmt→List Stmt→Pos→Bool)(e:Stmt):Bool:=kk 12 e.ctorIdx fun h=>Stmt.If.elim (motive_2:=fun υ=>Bool) e h f
@[elab_as_elim] theorem G4{f:Expr→List Stmt→List Stmt→Pos→Bool}{e:Stmt}{G:Stmt→Prop}(h:kIfS f e=true)(g:∀a0 a1 a2 a3,f a0 a1 a2 a3=true→G (.If a0 a1 a2 a3)):G e:=kkE h fun c q=>Stmt.If.elim (motive_2:=fun e=>∀c:e.ctorIdx=12,Stmt.If.elim (motive_2:=fun υ=>Bool) e c f=true→G e) e c (fun a0 a1 a2 a3 υ=>g a0 a1 a2 a3) c q
noncomputable def xT(f:Expr→List Stmt→List Stmt→Pos→Bool)(e:Stmt):Bool:=kk 11 e.ctorIdx fun h=>Stmt.While.elim (motive_2:=fun υ=>Bool) e h f
@[elab_as_elim] theorem zQ{f:Expr→List Stmt→List Stmt→Pos→Bool}{e:Stmt}{G:Stmt→Prop}(h:xT f e=true)(g:∀a0 a1 a2 a3,f a0 a1 a2 a3=true→G (.While a0 a1 a2 a3)):G e:=kkE h fun c q=>Stmt.While.elim (motive_2:=fun e=>∀c:e.ctorIdx=11,Stmt.While.elim (motive_2:=fun υ=>Bool) e c f=true→G e) e c (fun a0 a1 a2 a3 υ=>g a0 a1 a2 a3) c q
noncomputable def kFor(f:Expr→Expr→List Stmt→List Stmt→Pos→Bool)(e:Stmt):Bool:=kk 9 e.ctorIdx fun h=>Stmt.For.elim (motive_2:=fun υ=>Bool) e h f
@[elab_as_elim] theorem G6{f:Expr→Expr→List Stmt→List Stmt→Pos→Bool}{e:Stmt}{G:Stmt→Prop}(h:kFor f e=true)(g:∀a0 a1 a2 a3 a4,f a0 a1 a2 a3 a4=true→G (.For a0 a1 a2 a3 a4)):G e:=kkE h fun c q=>Stmt.For.elim (motive_2:=fun e=>∀c:e.ctorIdx=9,Stmt.For.elim (motive_2:=fun υ=>Bool) e c f=true→G e) e c (fun a0 a1 a2 a3 a4 υ=>g a0 a1 a2 a3 a4) c q
noncomputable def kRet(f:Option Expr→Pos→Bool)(e:Stmt):Bool:=kk 3 e.ctorIdx fun h=>Stmt.Return.elim (motive_2:=fun υ=>Bool) e h f
@[elab_as_elim] theorem G2{f:Option Expr→Pos→Bool}{e:Stmt}{G:Stmt→Prop}(h:kRet f e=true)(g:∀a0 a1,f a0 a1=true→G (.Return a0 a1)):G e:=kkE h fun c q=>Stmt.Return.elim (motive_2:=fun e=>∀c:e.ctorIdx=3,Stmt.Return.elim (motive_2:=fun υ=>Bool) e c f=true→G e) e c (fun a0 a1 υ=>g a0 a1) c q
noncomputable def kBrk(f:Pos→Bool)(e:Stmt):Bool:=kk 26 e.ctorIdx fun h=>Stmt.Break.elim (motive_2:=fun υ=>Bool) e h f
@[elab_as_elim] theorem G8{f:Pos→Bool}{e:Stmt}{G:Stmt→Prop}(h:kBrk f e=true)(g:∀a0,f a0=true→G (.Break a0)):G e:=kkE h fun c q=>Stmt.Break.elim (motive_2:=fun e=>∀c:e.ctorIdx=26,Stmt.Break.elim (motive_2:=fun υ=>Bool) e c f=true→G e) e c (fun a0 υ=>g a0) c q
noncomputable def kPas(f:Pos→Bool)(e:Stmt):Bool:=kk 25 e.ctorIdx fun h=>Stmt.Pass.elim (motive_2:=fun υ=>Bool) e h f
@[elab_as_elim] theorem G3{f:Pos→Bool}{e:Stmt}{G:Stmt→Prop}(h:kPas f e=true)(g:∀a0,f a0=true→G (.Pass a0)):G e:=kkE h fun c q=>Stmt.Pass.elim (motive_2:=fun e=>∀c:e.ctorIdx=25,Stmt.Pass.elim (motive_2:=fun υ=>Bool) e c f=true→G e) e c (fun a0 υ=>g a0) c q
noncomputable def kAst(f:Expr→Option Expr→Pos→Bool)(e:Stmt):Bool:=kk 19 e.ctorIdx fun h=>Stmt.Assert.elim (motive_2:=fun υ=>Bool) e h f
@[elab_as_elim] theorem Hb{f:Expr→Option Expr→Pos→Bool}{e:Stmt}{G:Stmt→Prop}(h:kAst f e=true)(g:∀a0 a1 a2,f a0 a1 a2=true→G (.Assert a0 a1 a2)):G e:=kkE h fun c q=>Stmt.Assert.elim (motive_2:=fun e=>∀c:e.ctorIdx=19,Stmt.Assert.elim (motive_2:=fun υ=>Bool) e c f=true→G e) e c (fun a0 a1 a2 υ=>g a0 a1 a2) c q
noncomputable def kNo(e:Const):Bool:=Const.casesOn (motive:=fun υ=>Bool) e true (fun υ=>false) (fun υ=>false) (fun υ=>false) (fun υ υ=>false) (fun υ=>false) (fun υ=>false) false
@[elab_as_elim] theorem kNo'{e:Const}{G:Const→Prop}(h:kNo e=true)(g:G .none):G e:=by cases e<;>first | exact g | exact Bool.noConfusion h
noncomputable def kBo(f:Bool→Bool)(e:Const):Bool:=Const.casesOn (motive:=fun υ=>Bool) e false f (fun υ=>false) (fun υ=>false) (fun υ υ=>false) (fun υ=>false) (fun υ=>false) false
@[elab_as_elim] theorem kBo'{f:Bool→Bool}{e:Const}{G:Const→Prop}(h:kBo f e=true)(g:∀a0,f a0=true→G (.bool a0)):G e:=by cases e<;>first | exact g _ h | exact Bool.noConfusion h
noncomputable def kIn(f:Int→Bool)(e:Const):Bool:=Const.casesOn (motive:=fun υ=>Bool) e false (fun υ=>false) f (fun υ=>false) (fun υ υ=>false) (fun υ=>false) (fun υ=>false) false
@[elab_as_elim] theorem kIn'{f:Int→Bool}{e:Const}{G:Const→Prop}(h:kIn f e=true)(g:∀a0,f a0=true→G (.int a0)):G e:=by cases e<;>first | exact g _ h | exact Bool.noConfusion h
noncomputable def kSt(f:Str→Bool)(e:Const):Bool:=Const.casesOn (motive:=fun υ=>Bool) e false (fun υ=>false) (fun υ=>false) (fun υ=>false) (fun υ υ=>false) f (fun υ=>false) false
@[elab_as_elim] theorem kSt'{f:Str→Bool}{e:Const}{G:Const→Prop}(h:kSt f e=true)(g:∀a0,f a0=true→G (.str a0)):G e:=by cases e<;>first | exact g _ h | exact Bool.noConfusion h
section
variable {α:Type}
noncomputable def k0(b:Bool)(l:List α):Bool:=List.casesOn (motive:=fun υ=>Bool) l b fun υ υ=>false
@[elab_as_elim] theorem k0'{b:Bool}{l:List α}{G:List α→Prop}(h:k0 b l=true)(g:b=true→G []):G l:=by cases l<;>first | exact g h | exact Bool.noConfusion h
noncomputable def kc(f:α→List α→Bool)(l:List α):Bool:=List.casesOn (motive:=fun υ=>Bool) l false f
@[elab_as_elim] theorem kc'{f:α→List α→Bool}{l:List α}{G:List α→Prop}(h:kc f l=true)(g:∀a r,f a r=true→G (a::r)):G l:=by cases l<;>first | exact g _ _ h | exact Bool.noConfusion h
noncomputable def k1(f:α→Bool)(l:List α):Bool:=kc (fun a r=>k0 (f a) r) l
@[elab_as_elim] theorem k1'{f:α→Bool}{l:List α}{G:List α→Prop}(h:k1 f l=true)(g:∀a,f a=true→G [a]):G l:=kc' h fun a υ h=>k0' (G:=fun r=>G (a::r)) h fun h=>g a h
noncomputable def k2(f:α→α→Bool)(l:List α):Bool:=kc (fun a r=>k1 (f a) r) l
@[elab_as_elim] theorem k2'{f:α→α→Bool}{l:List α}{G:List α→Prop}(h:k2 f l=true)(g:∀a b,f a b=true→G [a,b]):G l:=kc' h fun a υ h=>k1' (G:=fun r=>G (a::r)) h fun b h=>g a b h
noncomputable def kOn(f:α→Bool)(o:Option α):Bool:=Option.casesOn (motive:=fun υ=>Bool) o false f
@[elab_as_elim] theorem kOn'{f:α→Bool}{o:Option α}{G:Option α→Prop}(h:kOn f o=true)(g:∀a,f a=true→G (some a)):G o:=by cases o<;>first | exact g _ h | exact Bool.noConfusion h
noncomputable def kO0(b:Bool)(o:Option α):Bool:=Option.casesOn (motive:=fun υ=>Bool) o b fun υ=>false
@[elab_as_elim] theorem kO0'{b:Bool}{o:Option α}{G:Option α→Prop}(h:kO0 b o=true)(g:b=true→G none):G o:=by cases o<;>first | exact g h | exact Bool.noConfusion h
end
theorem bA3{b1 b2 b3:Bool}{G:Prop}:(b1&&b2&&b3)=true→(b1=true→b2=true→b3=true→G)→G:=fun h f=>bA2 h fun h t=>bA2 h fun h1 h2=>f h1 h2 t
theorem bA4{b1 b2 b3 b4:Bool}{G:Prop}:(b1&&b2&&b3&&b4)=true→(b1=true→b2=true→b3=true→b4=true→G)→G:=fun h f=>bA2 h fun h t=>bA3 h fun h1 h2 h3=>f h1 h2 h3 t
theorem bA5{b1 b2 b3 b4 b5:Bool}{G:Prop}:(b1&&b2&&b3&&b4&&b5)=true→(b1=true→b2=true→b3=true→b4=true→b5=true→G)→G:=fun h f=>bA2 h fun h t=>bA4 h fun h1 h2 h3 h4=>f h1 h2 h3 h4 t
theorem bA6{b1 b2 b3 b4 b5 b6:Bool}{G:Prop}:(b1&&b2&&b3&&b4&&b5&&b6)=true→(b1=true→b2=true→b3=true→b4=true→b5=true→b6=true→G)→G:=fun h f=>bA2 h fun h t=>bA5 h fun h1 h2 h3 h4 h5=>f h1 h2 h3 h4 h5 t
theorem bA7{b1 b2 b3 b4 b5 b6 b7:Bool}{G:Prop}:(b1&&b2&&b3&&b4&&b5&&b6&&b7)=true→(b1=true→b2=true→b3=true→b4=true→b5=true→b6=true→b7=true→G)→G:=fun h f=>bA2 h fun h t=>bA6 h fun h1 h2 h3 h4 h5 h6=>f h1 h2 h3 h4 h5 h6 t
theorem bA8{b1 b2 b3 b4 b5 b6 b7 b8:Bool}{G:Prop}:(b1&&b2&&b3&&b4&&b5&&b6&&b7&&b8)=true→(b1=true→b2=true→b3=true→b4=true→b5=true→b6=true→b7=true→b8=true→G)→G:=fun h f=>bA2 h fun h t=>bA7 h fun h1 h2 h3 h4 h5 h6 h7=>f h1 h2 h3 h4 h5 h6 h7 t
theorem bA9{b1 b2 b3 b4 b5 b6 b7 b8 b9:Bool}{G:Prop}:(b1&&b2&&b3&&b4&&b5&&b6&&b7&&b8&&b9)=true→(b1=true→b2=true→b3=true→b4=true→b5=true→b6=true→b7=true→b8=true→b9=true→G)→G:=fun h f=>bA2 h fun h t=>bA8 h fun h1 h2 h3 h4 h5 h6 h7 h8=>f h1 h2 h3 h4 h5 h6 h7 h8 t
theorem bA10{b1 b2 b3 b4 b5 b6 b7 b8 b9 b10:Bool}{G:Prop}:(b1&&b2&&b3&&b4&&b5&&b6&&b7&&b8&&b9&&b10)=true→(b1=true→b2=true→b3=true→b4=true→b5=true→b6=true→b7=true→b8=true→b9=true→b10=true→G)→G:=fun h f=>bA2 h fun h t=>bA9 h fun h1 h2 h3 h4 h5 h6 h7 h8 h9=>f h1 h2 h3 h4 h5 h6 h7 h8 h9 t
theorem bA11{b1 b2 b3 b4 b5 b6 b7 b8 b9 b10 b11:Bool}{G:Prop}:(b1&&b2&&b3&&b4&&b5&&b6&&b7&&b8&&b9&&b10&&b11)=true→(b1=true→b2=true→b3=true→b4=true→b5=true→b6=true→b7=true→b8=true→b9=true→b10=true→b11=true→G)→G:=fun h f=>bA2 h fun h t=>bA10 h fun h1 h2 h3 h4 h5 h6 h7 h8 h9 h10=>f h1 h2 h3 h4 h5 h6 h7 h8 h9 h10 t
theorem bA12{b1 b2 b3 b4 b5 b6 b7 b8 b9 b10 b11 b12:Bool}{G:Prop}:(b1&&b2&&b3&&b4&&b5&&b6&&b7&&b8&&b9&&b10&&b11&&b12)=true→(b1=true→b2=true→b3=true→b4=true→b5=true→b6=true→b7=true→b8=true→b9=true→b10=true→b11=true→b12=true→G)→G:=fun h f=>bA2 h fun h t=>bA11 h fun h1 h2 h3 h4 h5 h6 h7 h8 h9 h10 h11=>f h1 h2 h3 h4 h5 h6 h7 h8 h9 h10 h11 t
theorem bA13{b1 b2 b3 b4 b5 b6 b7 b8 b9 b10 b11 b12 b13:Bool}{G:Prop}:(b1&&b2&&b3&&b4&&b5&&b6&&b7&&b8&&b9&&b10&&b11&&b12&&b13)=true→(b1=true→b2=true→b3=true→b4=true→b5=true→b6=true→b7=true→b8=true→b9=true→b10=true→b11=true→b12=true→b13=true→G)→G:=fun h f=>bA2 h fun h t=>bA12 h fun h1 h2 h3 h4 h5 h6 h7 h8 h9 h10 h11 h12=>f h1 h2 h3 h4 h5 h6 h7 h8 h9 h10 h11 h12 t
@[elab_as_elim] theorem kD{α:Type}{a b:α}{_:Decidable (a=b)}{G:α→Prop}(h:decide (a=b)=true)(g:G a):G b:=of_decide_eq_true h▸g
@[elab_as_elim] theorem kD'{α:Type}{a b:α}{_:Decidable (a=b)}{G:α→Prop}(h:decide (a=b)=true)(g:G b):G a:=of_decide_eq_true h▸g
@[elab_as_elim] theorem kB{α:Type} [BEq α] [LawfulBEq α] {a b:α}{G:α→Prop}(h:(a==b)=true)(g:G a):G b:=eq_of_beq h▸g
@[elab_as_elim] theorem kB'{α:Type} [BEq α] [LawfulBEq α] {a b:α}{G:α→Prop}(h:(a==b)=true)(g:G b):G a:=eq_of_beq h▸g
theorem kOnE{α:Type}{f:α→Bool}{o:Option α}(h:kOn f o=true):∃a,o=some a∧f a=true:=kOn' h fun υ h=>⟨_,rfl,h⟩
theorem B3{a b:Bool}(h:(a&&b)=true):a=true∧b=true:=by
 cases a
 ·exact Bool.noConfusion h
 ·exact⟨rfl,h⟩
theorem kL{a:Bool}(h:(!a)=true):a=false:=by
 cases a
 ·rfl
 ·exact Bool.noConfusion h
noncomputable def DL:List String:=["_ellipsis_match","_div2n1n","_int2digits","_digits2int","_divmod_pos","int_divmod","pretty_flags","_parse_varint","_law_roads","_law_patterns_of_colours","_law_colourings","_law_parts","_law_one_ways","_law_words","_div3n2n"]
noncomputable def j3(f:Nat):Option String:=DL[f]?
noncomputable def pB:Bi→String
 | .len=>"len" | .lst=>"list" | .tup=>"tuple" | .max1=>"max" | .max2=>"max" | .sum=>"sum" | .abs=>"abs" | .divmod=>"divmod" | .lenset=>"len" | .range=>"range" | .reversed=>"reversed"
noncomputable def mz:Mt→String
 | .bitLength=>"bit_length" | .count=>"count" | .startswith=>"startswith" | .endswith=>"endswith" | .find3=>"find" | .split=>"split" | .replace=>"replace" | .join=>"join" | .flagName=>"get"
noncomputable abbrev Nms:=List (Option Str)
noncomputable def nmIs(ns:Nms)(i:Nat)(x:Str):Bool:=ns[i]? ==some (some x)
noncomputable def hK(sc:Scope)(x:Str)(nm:String):Bool:=x==aa nm&&sc.names.lookup x==some .globalImplicit
noncomputable def fB(free:List Nat)(ns:Nms)(own:List String):Nms:=
 (bu ns.length).map (fun i=>if free.contains i then(match ns[i]? with | some y=>y | none=>none) else none)++own.map (fun x=>some (aa x))
noncomputable def lU(sc sc':Scope)(ns:Nms)(own:List String)(free:List Nat):Bool:=
 decide (sc'.kind= .function)&&decide ((fB free ns own).filterMap id).Nodup&&
 (own.all fun x=>sc'.names.lookup (aa x)==some .local||sc'.names.lookup (aa x)==some .cell)&&
 (own.all fun x=>(!(aa x==("__debug__":Str)))&&(!(aa x==("__classdict__":Str))))&&
 (free.all fun i=>match ns[i]? with
  | some (some x)=>sc'.names.lookup x==some .free&&(sc.names.lookup x==some .cell||sc.names.lookup x==some .free)
  | _=>false)&&
 (sc'.names.all fun p=>p.2 != .free||(free.any fun i=>ns[i]? ==some (some p.1)))&&
 (sc'.names.all fun p=>p.2 != .local||sc'.names.lookup p.1==some .local)&&
 decide ((sc'.names.map (·.1)).Nodup)&&
 (sc'.names.all fun p=>p.2 != .cell||(own.any fun x=>aa x==p.1))
noncomputable def mV(ns:Nms)(t:Tg)(e:Expr):Bool:=match t with
 | .one i=>fi (fun x υ=>nmIs ns i x) e
 | .two i j=>Dp (fun es υ υ=>k2 (fun a b=>fi (fun x υ=>fi (fun y υ=>nmIs ns i x&&nmIs ns j y) b) a) es) e
theorem px{ns:Nms}{i:Nat}{e:Expr}(h:mV ns (.one i) e=true):∃x p,e= .Name x p∧nmIs ns i x=true:=dC h fun υ υ h=>⟨_,_,rfl,h⟩
theorem lT{ns:Nms}{i j:Nat}{e:Expr}(h:mV ns (.two i j) e=true):∃x p y q c r,e= .Tuple [.Name x p,.Name y q] c r∧nmIs ns i x=true∧nmIs ns j y=true:=
 sx h fun es c r h=>k2' h fun υ υ h=>dC h fun υ υ h=>dC h fun υ υ h=>bA2 h fun h1 h2=>i6_3 _ _ _ _ _ _ rfl h1 h2
noncomputable def gO{α β:Type}(f:α→β→Bool):List α→List β→Bool
 | [],[]=>true
 | a::r,b::t=>f a b&&gO f r t
 | _,_=>false
noncomputable def CS(f:IE→Expr→Bool):Option IE→Option Expr→Bool
 | none,none=>true
 | some a,some b=>f a b
 | _,_=>false
noncomputable def isBor(e:IE):Bool:=IE.casesOn (motive_1:=fun υ=>Bool) e false (fun υ=>false) (fun υ=>false) (fun υ=>false) (fun υ=>false) (fun υ=>true) (fun υ=>false) (fun υ υ υ=>false) (fun υ υ=>false) (fun υ υ υ=>false) (fun υ=>false) (fun υ υ=>false) (fun υ υ=>false) (fun υ υ υ=>false) (fun υ=>false) (fun υ=>false) (fun υ υ=>false) (fun υ υ υ=>false) (fun υ υ=>false) (fun υ υ=>false) (fun υ υ υ=>false) (fun υ υ=>false) (fun υ=>false) (fun υ υ υ υ=>false)
noncomputable def jR(e:IE):Bool:=match asRev e with
 | some x=> !isBor x
 | none=> !isBor e
noncomputable def slots:Tg→List Nat
 | .one i=>[i]
 | .two i j=>[i,j]
noncomputable def nD(v:Expr):Bool:= !iO (fun υ υ υ υ=>true) v
noncomputable def o5(e:IE):Bool:=IE.casesOn (motive_1:=fun υ=>Bool) e false (fun υ=>false) (fun υ=>false) (fun υ=>true) (fun υ=>false) (fun υ=>false) (fun υ=>false) (fun υ υ υ=>false) (fun υ υ=>false) (fun υ υ υ=>false) (fun υ=>false) (fun υ υ=>false) (fun υ υ=>false) (fun υ υ υ=>false) (fun υ=>false) (fun υ=>false) (fun υ υ=>false) (fun υ υ υ=>false) (fun υ υ=>false) (fun υ υ=>false) (fun υ υ υ=>false) (fun υ υ=>false) (fun υ=>false) (fun υ υ υ υ=>false)
noncomputable def pz(f:IE→Expr→Bool)(sc:Scope)(es:List IE):Expr→Bool:=
 iO fun g xs kw υ=>fi (fun x υ=>k1 (iO fun g2 zs kw2 υ=>fi (fun y υ=>k1 (fun z=>k0 (k0 (k1 (fun a=>hK sc x "len"&&hK sc y "set"&&f a z) es) kw2) kw) zs) g2) xs) g
noncomputable def ckBi(f:IE→Expr→Bool)(sc:Scope)(b:Bi)(es:List IE):Expr→Bool:=
 iO fun g xs kw υ=>fi (fun x υ=>k0 (hK sc x (pB b)&&gO f es xs&&decide (es.length<20)) kw) g
noncomputable def yj(f:IE→Expr→Bool)(sc:Scope)(a:IE)(es:List IE):Expr→Bool:=
 iO fun g0 xs kw pos=>j1 (fun o g apos=>fi (fun x υ=>k2 (fun y=>iO fun g2 zs kw2 υ=>fi (fun h υ=>k1 (fun z=>k0 (k0 (k0 (hK sc x "COMPILER_FLAG_NAMES"&&g==aa "get"&&hK sc h "hex"&&f a y&&f a z&&apos.endLine==pos.line) es) kw2) kw) zs) g2) xs) o) g0
noncomputable def ckMt(f:IE→Expr→Bool)(m:Mt)(a:IE)(es:List IE):Expr→Bool:=
 iO fun g xs kw pos=>j1 (fun o g apos=>k0 (g==aa (mz m)&&nD o&&f a o&&gO f es xs&&apos.endLine==pos.line&&decide (es.length<20)&&(decide (m≠ .replace)||es.all o5)) kw) g
noncomputable def El(sc:Scope)(g:Nat)(e:Expr):Bool:=match g with
 | 0=>fi (fun x υ=>hK sc x "ELLIPSIS_MARKER") e
 | 1=>fi (fun x υ=>hK sc x "_DIV_LIMIT") e
 | 2=>j1 (fun o a υ=>fi (fun x υ=>hK sc x "Whitespace"&&a==aa "S") o) e
 | 3=>j1 (fun o a υ=>fi (fun x υ=>hK sc x "Whitespace"&&a==aa "T") o) e
 | _=>false
noncomputable def vR:Bi→Bool
 | .lenset=>true
 | _=>false
noncomputable def Dy:Mt→Bool
 | .flagName=>true
 | _=>false
noncomputable def ckE:Nat→Nms→Scope→IE→Expr→Bool
 | 0,_,_,_,_=>false
 | n+1,ns,sc,ie,e=>match ie with
  | .none=>kW (fun c υ υ=>kNo c) e
  | .bool b=>kW (fun c υ υ=>kBo (fun c=>b==c) c) e
  | .int i=>kW (fun c υ υ=>kIn (fun j=>decide (i=j)) c) e
  | .str s=>kW (fun c υ υ=>kSt (fun x=>aa s==x) c) e
  | .var i=>fi (fun x υ=>nmIs ns i x) e
  | .bor i=>fi (fun x υ=>nmIs ns i x) e
  | .glo g=>El sc g e
  | .bin op a b=>G9 (fun l o r υ=>decide (op=o)&&ckE n ns sc a l&&ckE n ns sc b r) e
  | .un op a=>kUn (fun o x υ=>decide (op=o)&&decide (op≠ .Not)&&ckE n ns sc a x) e
  | .cmp op a b=>kCmp (fun l os rs υ=>k1 (fun o=>k1 (fun r=>decide (op=o)&&ckE n ns sc a l&&ckE n ns sc b r) rs) os) e
  | .not a=>kUn (fun o x υ=>decide (UnaryOp.Not=o)&&ckE n ns sc a x) e
  | .and a b=>zU (fun o xs υ=>k2 (fun x y=>decide (BoolOp.And=o)&&ckE n ns sc a x&&ckE n ns sc b y&& !isBor b) xs) e
  | .or a b=>zU (fun o xs υ=>k2 (fun x y=>decide (BoolOp.Or=o)&&ckE n ns sc a x&&ckE n ns sc b y&& !isBor b) xs) e
  | .ite c a b=>kIf (fun t x y υ=>ckE n ns sc c t&&ckE n ns sc a x&&ckE n ns sc b y&& !isBor a&& !isBor b) e
  | .list es=>Dr (fun xs υ=>gO (ckE n ns sc) es xs&&es.all fun e=> !isBor e) e
  | .tup es=>Dp (fun xs υ υ=>gO (ckE n ns sc) es xs&&es.all fun e=> !isBor e) e
  | .idx a i=>Dq (fun v sl υ=>ckE n ns sc a v&&ckE n ns sc i sl) e
  | .slice a lo hi=>Dq (fun v sl υ=>xU (fun l h st υ=>kO0 (ckE n ns sc a v&&CS (ckE n ns sc) lo l&&CS (ckE n ns sc) hi h) st) sl) e
  | .call f es=>iO (fun g xs kw υ=>fi (fun x υ=>k0 (kOn (fun nm=>hK sc x nm) (j3 f)&&gO (ckE n ns sc) es xs&&decide (es.length<20)&&es.all (fun e=> !isBor e)) kw) g) e
  | .bi b es=>if vR b then pz (ckE n ns sc) sc es e else ckBi (ckE n ns sc) sc b es e
  | .mt m a es=>if Dy m then yj (ckE n ns sc) sc a es e else ckMt (ckE n ns sc) m a es e
  | .attr i nm=>j1 (fun o a υ=>fi (fun x υ=>nmIs ns i x&&a==aa nm&&wNames.contains nm) o) e
  | .methW i=>iO (fun f xs kw pos=>j1 (fun o g apos=>fi (fun x υ=>k0 (k0 (nmIs ns i x&&g==aa "longest_run_of_spaces"&&apos.endLine==pos.line) kw) xs) o) f) e
  | .comp elt gens own free=>kLC (fun el gs sc' υ=>
    lU sc sc' ns own free&&kc (fun q r=>kc (fun g r'=>decide (g.is_async=0)&&jR q.2.1&&ckE n ns sc q.2.1 g.iter&&decide (((q::r).flatMap fun q=>slots q.1).Nodup)&&(((q::r).flatMap fun q=>slots q.1).all fun i=>decide (ns.length≤i))&&mV (fB free ns own) q.1 g.target&&gO (ckE n (fB free ns own) sc') q.2.2 g.ifs&&
      gO (fun(q:Tg×IE×List IE) (g:Comprehension)=>decide (g.is_async=0)&&mV (fB free ns own) q.1 g.target&&jR q.2.1&&ckE n (fB free ns own) sc' q.2.1 g.iter&&gO (ckE n (fB free ns own) sc') q.2.2 g.ifs) r r') gs) gens&&ckE n (fB free ns own) sc' elt el&& !isBor elt) e
@[elab_as_elim] theorem Ek{sc:Scope}{g:Nat}{e:Expr}{G:Expr→Prop}(h:El sc g e=true)(h1:∀x p,G (.Name x p))(h2:∀x p q,G (.Attribute x p q)):G e:=by
 match g,h with
 | 0,h=>exact dC h fun υ υ υ=>h1 _ _
 | 1,h=>exact dC h fun υ υ υ=>h1 _ _
 | 2,h=>exact gB h fun υ υ υ υ=>h2 _ _ _
 | 3,h=>exact gB h fun υ υ υ υ=>h2 _ _ _
 | _+4,h=>exact kno h
theorem kIte{b x y:Bool}{G:Prop}(h:(if b then x else y)=true)(h1:b=true→x=true→G)(h2:b=false→y=true→G):G:=by
 cases b
 ·exact h2 rfl h
 ·exact h1 rfl h
noncomputable def pl:IE→Bool
 | .cmp .. =>false | .not _=>false | .and .. =>false | .or .. =>false | .ite .. =>false
 | .none=>true | .bool _=>true | .int _=>true | .str _=>true | .var _=>true | .bor _=>true | .glo _=>true | .bin .. =>true | .un .. =>true | .list _=>true | .tup _=>true | .idx .. =>true | .slice .. =>true | .call .. =>true | .bi .. =>true | .mt .. =>true | .attr .. =>true | .methW _=>true | .comp .. =>true
@[elab_as_elim] theorem jl{k:Nat}{ns:Nms}{sc:Scope}{ie:IE}{e:Expr}{G:Expr→Prop}(h:ckE k ns sc ie e=true)(a1:∀a b c,G (.Constant a b c))(a2:∀a b,G (.Name a b))(a3:∀a b c d,G (.BinOp a b c d))(a4:∀a b c,(pl ie=true→a≠ .Not)→G (.UnaryOp a b c))
  (a5:pl ie=false→∀a b c d,G (.Compare a b c d)) (a6:pl ie=false→∀a b c,G (.BoolOp a b c)) (a7:pl ie=false→∀a b c d,G (.IfExp a b c d)) (a8:∀a b,G (.List a b)) (a9:∀a b c,G (.Tuple a b c)) (b1:∀a b c,G (.Subscript a b c)) (b2:∀a b c d,G (.Call a b c d)) (b3:∀a b c,G (.Attribute a b c))
  (b4:(∃a b c d,ie= .comp a b c d)→∀a b c d,G (.ListComp a b c d)):G e:=by
 cases k with
 | zero=>exact kno h
 | succ k=>
  cases ie<;>first
   | exact kConst' h fun υ υ υ υ=>a1 _ _ _ | exact dC h fun υ υ υ=>a2 _ _ | exact vP h fun υ υ υ υ υ=>a3 _ _ _ _ | exact Dn h fun υ υ υ h=>a4 _ _ _ (fun q=>Bool.noConfusion q) | exact Dn h fun υ υ υ h=>bA3 h fun h1 h2 υ=>a4 _ _ _ fun υ q=>of_decide_eq_true h2 ((of_decide_eq_true h1).trans q) | exact zS h fun υ υ υ υ υ=>a5 rfl _ _ _ _
   | exact kBool' h fun υ υ υ υ=>a6 rfl _ _ _ | exact G5 h fun υ υ υ υ υ=>a7 rfl _ _ _ _ | exact sC h fun υ υ υ=>a8 _ _ | exact sx h fun υ υ υ υ=>a9 _ _ _ | exact sy h fun υ υ υ υ=>b1 _ _ _
   | exact kCall' h fun υ υ υ υ υ=>b2 _ _ _ _ | exact gB h fun υ υ υ υ=>b3 _ _ _ | exact Ek h a2 b3 | exact kLC' h fun υ υ υ υ υ=>b4 ⟨_,_,_,_,rfl⟩ _ _ _ _
   | exact kIte h (fun υ h=>kCall' h fun υ υ υ υ υ=>b2 _ _ _ _) (fun υ h=>kCall' h fun υ υ υ υ υ=>b2 _ _ _ _)
noncomputable def iw(ns:Nms)(sc:Scope)(ckS:IS→Stmt→Bool):List IS→List Stmt→Bool
 | [],[]=>true
 | .frz _::r,ss=>iw ns sc ckS r ss
 | i::r,s::ss=>ckS i s&&iw ns sc ckS r ss
 | _,_=>false
noncomputable def Dx(e:IE):Bool:=IE.casesOn (motive_1:=fun υ=>Bool) e false (fun υ=>false) (fun υ=>false) (fun υ=>false) (fun υ=>false) (fun υ=>false) (fun υ=>false) (fun o υ υ=>decide (o= .Add)) (fun υ υ=>false) (fun υ υ υ=>false) (fun υ=>false) (fun υ υ=>false) (fun υ υ=>false) (fun υ υ υ=>false) (fun υ=>true) (fun υ=>false) (fun υ υ=>false) (fun υ υ υ=>false) (fun υ υ=>false) (fun υ υ=>false) (fun m υ υ=>decide (m= .split)) (fun υ υ=>false) (fun υ=>false) (fun υ υ υ υ=>true)
noncomputable def sA(f:Str→Str→List Expr→Pos→Pos→Bool):Stmt→Bool:=
 Dt fun v υ=>iO (fun h xs kw pos=>j1 (fun o g apos=>fi (fun x υ=>k0 (f x g xs apos pos) kw) o) h) v
@[elab_as_elim] theorem oZ{f:Str→Str→List Expr→Pos→Pos→Bool}{s:Stmt}{G:Stmt→Prop}(h:sA f s=true)(k:∀x p g apos xs pos q,f x g xs apos pos=true→G (.Expr (.Call (.Attribute (.Name x p) g apos) xs [] pos) q)):G s:=
 Ds h fun v q h=>kCall' h fun d xs kw pos h=>gB h fun o g apos h=>dC h fun x p h=>
  k0' (G:=fun kw=>G (.Expr (.Call (.Attribute (.Name x p) g apos) xs kw pos) q)) h fun h=>k x p g apos xs pos q h
noncomputable def vQ(f:Str→Expr→Bool):Stmt→Bool:=BX fun ts v υ=>k1 (fun t=>fi (fun x υ=>f x v) t) ts
@[elab_as_elim] theorem sD{f:Str→Expr→Bool}{s:Stmt}{G:Stmt→Prop}(h:vQ f s=true)(k:∀x p v q,f x v=true→G (.Assign [.Name x p] v q)):G s:=
 sE h fun ts v q h=>k1' h fun t h=>dC h fun x p h=>k x p v q h
noncomputable def zV(f:Str→Pos→Str→Pos→Expr→Bool):Stmt→Bool:=BX fun ts v υ=>k1 (fun t=>Dp (fun us υ υ=>k2 (fun a b=>fi (fun x p=>fi (fun y q=>f x p y q v) b) a) us) t) ts
@[elab_as_elim] theorem xV{f:Str→Pos→Str→Pos→Expr→Bool}{s:Stmt}{G:Stmt→Prop}(h:zV f s=true)(k:∀x p y q c r v t,f x p y q v=true→G (.Assign [.Tuple [.Name x p,.Name y q] c r] v t)):G s:=
 sE h fun ts v z h=>k1' h fun t h=>sx h fun us c r h=>k2' h fun a b h=>
  dC h fun x p h=>dC h fun y q h=>k x p y q c r v z h
noncomputable def xW(v:Expr):Bool:=iO (fun υ υ υ υ=>true) v||j1 (fun υ υ υ=>true) v
theorem zY{v:Expr}(h:xW v=true):(∃f a kw p,v= .Call f a kw p)∨∃o a p,v= .Attribute o a p:=
 ((Bool.or_eq_true _ _).mp h).elim (fun h=>kCall' h fun υ υ υ υ υ=> .inl (Dz _ _ _ _ rfl)) fun h=>gB h fun υ υ υ υ=> .inr (Hf _ _ _ rfl)
noncomputable def ckS:Nat→Nms→Scope→IS→Stmt→Bool
 | 0,_,_,_,_=>false
 | n+1,ns,sc,i,s=>match i with
  | .assign k e=>vQ (fun x v=>nmIs ns k x&&ckE n ns sc e v&& !isBor e) s
  | .assignM k e=>vQ (fun x v=>nmIs ns k x&&ckE n ns sc e v&&Dx e) s
  | .assigns ks e=>BX (fun ts v υ=>gO (fun k t=>fi (fun x υ=>nmIs ns k x) t) ks ts&&ckE n ns sc e v&&decide (2≤ks.length)&&kW (fun υ υ υ=>true) v) s
  | .unpack i j e=>zV (fun x υ y υ v=>nmIs ns i x&&nmIs ns j y&&decide (i≠j)&&ckE n ns sc e v&& !isBor e&&xW v) s
  | .unpackT i j a b=>zV (fun x p y q vw=>Dp (fun vs υ υ=>k2 (fun v w=>nmIs ns i x&&nmIs ns j y&&decide (i≠j)&&ckE n ns sc a v&&ckE n ns sc b w&& !isBor a&& !isBor b&&decide (p.line=q.line)&&(!(foldedForSure 8 v&&foldedForSure 8 w))&&(!(constantsAlone 8 v&&constantsAlone 8 w))&&sc.names.lookup x==some .local&&sc.names.lookup y==some .local&&x !=y) vs) vw) s
  | .aug k op e=>kAug (fun t o v υ=>fi (fun x υ=>nmIs ns k x&&decide (op=o)&&ckE n ns sc e v) t) s
  | .setidx k i e=>BX (fun ts v υ=>k1 (fun t=>Dq (fun o j υ=>fi (fun x υ=>nmIs ns k x&&ckE n ns sc i j&&ckE n ns sc e v&& !isBor e&&G9 (fun υ υ υ υ=>true) v) o) t) ts) s
  | .delidx k i=>kDel (fun ts υ=>k1 (fun t=>Dq (fun o j υ=>fi (fun x υ=>nmIs ns k x&&ckE n ns sc i j) o) t) ts) s
  | .append k e=>sA (fun x g xs apos pos=>k1 (fun a=>nmIs ns k x&&g==aa "append"&&ckE n ns sc e a&& !isBor e&&apos.endLine==pos.line) xs) s
  | .appendPop k l i=>sA (fun x g xs apos pos=>k1 (fun a=>iO (fun f' js kw pos'=>j1 (fun o g' apos'=>fi (fun y υ=>k1 (fun j=>k0 (nmIs ns k x&&nmIs ns l y&&g==aa "append"&&g'==aa "pop"&&ckE n ns sc i j&&apos.endLine==pos.line&&apos'.endLine==pos'.line) kw) js) o) f') a) xs) s
  | .extend k e=>sA (fun x g xs apos pos=>k1 (fun a=>nmIs ns k x&&g==aa "extend"&&ckE n ns sc e a&&apos.endLine==pos.line) xs) s
  | .reverse k=>sA (fun x g xs apos pos=>k0 (nmIs ns k x&&g==aa "reverse"&&apos.endLine==pos.line) xs) s
  | .ife c t e=>kIfS (fun x b o υ=>ckE n ns sc c x&&iw ns sc (ckS n ns sc) t b&&iw ns sc (ckS n ns sc) e o) s
  | .whil _ c body=>xT (fun x b o υ=>k0 (ckE n ns sc c x&&iw ns sc (ckS n ns sc) body b) o) s
  | .fore t src body orelse=>kFor (fun tg it b o υ=>mV ns t tg&&decide ((slots t).Nodup)&&jR src&&ckE n ns sc src it&&iw ns sc (ckS n ns sc) body b&&iw ns sc (ckS n ns sc) orelse o) s
  | .ret e=>kRet (fun v υ=>kOn (fun v=>ckE n ns sc e v&& !isBor e) v) s
  | .brk=>kBrk (fun υ=>true) s
  | .pas=>kPas (fun υ=>true) s
  | .assert c=>kAst (fun x υ υ=>ckE n ns sc c x) s
  | .frz _=>false
  | .setattr k nm e=>BX (fun ts v υ=>k1 (fun t=>j1 (fun o a υ=>fi (fun x υ=>nmIs ns k x&&a==aa nm&&ckE n ns sc e v&& !isBor e&&wNames.contains nm) o) t) ts) s
  | .mkW k e=>vQ (fun x c=>iO (fun f vs kw υ=>fi (fun y υ=>k1 (fun v=>k0 (nmIs ns k x&&hK sc y "Whitespace"&&ckE n ns sc e v&& !isBor e) kw) vs) f) c) s
  | .stuck=>true
noncomputable def D8(nm:String)(s:Stmt):Option (Arguments×List Stmt×Scope):=Stmt.casesOn (motive_2:=fun υ=>Option (Arguments×List Stmt×Scope)) s (fun x a b υ υ υ sc υ υ υ=>if x==aa nm then some (a,b,sc) else none) (fun υ υ υ υ υ υ υ υ υ υ=>none) (fun υ υ υ υ υ υ υ υ υ υ υ=>none) (fun υ υ=>none) (fun υ υ=>none) (fun υ υ υ=>none) (fun υ υ υ υ υ υ υ=>none) (fun υ υ υ υ=>none) (fun υ υ υ υ υ=>none) (fun υ υ υ υ υ=>none) (fun υ υ υ υ υ=>none) (fun υ υ υ υ=>none) (fun υ υ υ υ=>none) (fun υ υ υ=>none) (fun υ υ υ=>none) (fun υ υ υ=>none) (fun υ υ υ=>none) (fun υ υ υ υ υ=>none) (fun υ υ υ υ υ=>none) (fun υ υ υ=>none) (fun υ υ=>none) (fun υ υ υ υ=>none) (fun υ υ=>none) (fun υ υ=>none) (fun υ υ=>none) (fun υ=>none) (fun υ=>none) (fun υ=>none)
noncomputable def HV(p:Program)(nm:String):Option (Arguments×List Stmt×Scope):=p.main.body.findSome? (D8 nm)
noncomputable def C9(p:Program)(nm:String):Option (Arguments×List Stmt×Scope):=p.main.body.findSome? fun s=>Stmt.casesOn (motive_2:=fun υ=>Option (Arguments×List Stmt×Scope)) s (fun υ υ υ υ υ υ υ υ υ υ=>none) (fun υ υ υ υ υ υ υ υ υ υ=>none) (fun υ υ υ b υ υ υ υ υ υ υ=>b.findSome? (D8 nm)) (fun υ υ=>none) (fun υ υ=>none) (fun υ υ υ=>none) (fun υ υ υ υ υ υ υ=>none) (fun υ υ υ υ=>none) (fun υ υ υ υ υ=>none) (fun υ υ υ υ υ=>none) (fun υ υ υ υ υ=>none) (fun υ υ υ υ=>none) (fun υ υ υ υ=>none) (fun υ υ υ=>none) (fun υ υ υ=>none) (fun υ υ υ=>none) (fun υ υ υ=>none) (fun υ υ υ υ υ=>none) (fun υ υ υ υ υ=>none) (fun υ υ υ=>none) (fun υ υ=>none) (fun υ υ υ υ=>none) (fun υ υ=>none) (fun υ υ=>none) (fun υ υ=>none) (fun υ=>none) (fun υ=>none) (fun υ=>none)
noncomputable def Fn.nms(f:Fn):Nms:=f.names.map fun x=>some (aa x)
inductive Al{α β:Type}(R:α→β→Prop):List α→List β→Prop
 | nil:Al R [] []
 | cons {a b as bs}:R a b→Al R as bs→Al R (a::as) (b::bs)
theorem Al.imp{α β:Type}{R S:α→β→Prop}(h:∀a b,R a b→S a b){as:List α}{bs:List β}(r:Al R as bs):Al S as bs:=
 @Al.rec α β R (fun as bs υ=>Al S as bs) .nil (fun r υ t=> .cons (h _ _ r) t) as bs r
theorem gW{Z:Heap}{vs:List Value}{ds:List D}{is:List Int}(r:RepAll Z vs ds)(h:gL ds=some is):IntsAre vs is:=by
 refine r.ind (M:=fun vs ds=>∀is,gL ds=some is→IntsAre vs is) (fun is h=>ax.inj h▸ .nil) (fun v d vs ds a υ e is h=>?_) is h
 cases a with
 | int i tk=>
  refine bq (aQ.mp h) fun is' h' q=>?_
  exact q▸ .cons i tk (e is' h')
 | _=>cases h
theorem pN{Z:Heap}{vs:List Value}{ds:List D}{is:List Str}(r:RepAll Z vs ds)(h:l8 ds=some is):∃l:List (Str×Tok),vs=strValues l∧l.map (·.1)=is:=by
 refine r.ind (M:=fun vs ds=>∀is,l8 ds=some is→∃l:List (Str×Tok),vs=strValues l∧l.map (·.1)=is) (fun is h=>⟨[],rfl,ax.inj h⟩) (fun v d vs ds a υ e is h=>?_) is h
 cases a with
 | str i tk=>
  refine bq (aQ.mp h) fun is' h' q=>?_
  refine bq (e is' h') fun l q1 q2=>?_
  exact gX ((i,tk)::l) (congrArg (Value.str i tk::·) q1) ((congrArg (i::·) q2).trans q)
 | _=>cases h
theorem sa:∀{l:List Int} {m:Int},xS l=some m→m∈l∧∀a∈l,a≤m
 | [],m,h=>by cases h
 | a::r,m,h=>by
  simp only[xS,ax.injEq]at h
  have key:∀(r:List Int) (a:Int),(r.foldl (fun m x=>if m<x then x else m) a∈a::r)∧∀b∈a::r,b≤r.foldl (fun m x=>if m<x then x else m) a:=by
   intro r
   induction r with
   | nil=>intro a; simp
   | cons x r ih=>
    intro a
    simp only[bH]
    by_cases hx:a<x
    ·rw[if_pos hx]
     refine fu (ih x) fun h1 h2=>?_
     refine⟨List.mem_cons_of_mem _ h1,fun b hb=>?_⟩
     rcases aP.mp hb with rfl | hb
     ·exact cJ (eu hx) (h2 x (.head _))
     ·exact h2 b hb
    ·rw[if_neg hx]
     refine fu (ih a) fun h1 h2=>?_
     refine⟨?_,fun b hb=>?_⟩
     ·rcases aP.mp h1 with e | e
      ·rw[e]; exact .head _
      ·exact .tail _ (.tail _ e)
     ·rcases aP.mp hb with rfl | hb
      ·exact h2 _ (.head _)
      ·rcases aP.mp hb with rfl | hb
       ·exact cJ (Int.not_lt.mp hx) (h2 a (.head _))
       ·exact h2 b (.tail _ hb)
  rw[←h]; exact key r a
noncomputable def biVal:Bi→Value
 | .len=> .builtin "len" | .lst=> .type "list" | .tup=> .type "tuple" | .max1=> .builtin "max" | .max2=> .builtin "max" | .sum=> .builtin "sum" | .abs=> .builtin "abs"
 | .divmod=> .builtin "divmod" | .lenset=> .builtin "len" | .range=> .type "range" | .reversed=> .type "reversed"
section
variable {P:Pm}{A:Around}{Z:Heap}{s:Shared}{n:Nat}
theorem iY{k:Nat}(h:k≤few):(k:Int)<2^63:=by
 rw[few_eq]at h
 have e:(2:Int)^63=9223372036854775808:=by decide
 exact aq1 h
theorem Gv.grow(ok:Ok P Z s){t:Sem Value}{d:D}(h:∀(Q:Value→Shared→Prop) E,(∀v h' k,Le s.heap h'→(∀Y,Rep Y v d)→Q v {s with heap:=h',toks:=k})→wpAny P.M A t Q E s):Gv P A Z s t d:=
 fun υ υ k=>wpAny_with_toks (n:=1) ok.tk (h _ _ fun v h' tk hl hr hk=>k v _ Z (Go.of_le ok hl hk) (hr _))
theorem kH(R:Room A n){a:Addr}{vs:Array Value}{is:List Int}{m:Int}(ha:s.heap.IsList a vs)(hi:IntsAre vs.toList is)(hm:xS is=some m){Q:Value→Shared→Prop}{E}
  (h:∀t h' k,Le s.heap h'→Q (.int m t) {s with heap:=h',toks:=k}):wpAny P.M A (call (.builtin "max") [.ref a]) Q E s:=by
 have hall:=hi.allInts
 have e:vs.toList.toArray=vs:=by simp
 rw[e]at hall
 refine dh hall.items fun xs e0_1=>?_; subst e0_1
 have hn:numsOf (intItems xs).toList=is:=hi.numsOf
 have hl:is.length=xs.size:=by rw[←hi.length]; simp[intItems]
 have hsz:0<xs.size:=by
  cases is with
  | nil=>cases hm
  | cons _ _=>simp at hl; exact aq2 hl
 refine fu (sa hm) fun m1 m2=>?_
 refine max_intList R.hd ha hsz fun v h' tk hv hk=>?_
 refine dh (intItems_at hv) fun t e9_1=>?_; subst e9_1
 refine fu (argBest_gt (numAt xs) (xs.size-1)) fun h1 h2=>?_
 rw[nums_intItems]at hn
 have eq:numAt xs (argBest (fun i j=>decide (numAt xs i>numAt xs j)) (xs.size-1))=m:=by
  refine Int.le_antisymm (m2 _ ?_) ?_
  ·rw[numAt_eq,hn]; exact getD_mem (by exact aq3 hsz hl h1)
  ·refine bq (mem_getD m1) fun j hj e=>?_
   rw[←e,←hn,←numAt_eq]; exact h2 j (by exact aq4 hj hl)
 rw[eq]
 exact h _ _ _ fun b o e=>hk b o e
theorem nr:∀(is:List Int),preSum (fun i=>is.getD i 0) is.length=is.sum:=by
 have key:∀(is:List Int) (k:Nat),k≤is.length→preSum (fun i=>is.getD i 0) k=(is.take k).sum:=by
  intro is k
  induction k with
  | zero=>intro _; simp[preSum]
  | succ k ih=>
   intro hk
   rw[preSum,ih (by exact bz (by assumption)),List.take_succ_eq_append_getElem (by assumption)]
   rw[List.sum_append]
   simp[List.getD,aR (show k<is.length by assumption)]
 intro is
 rw[key is _ (bL _),List.take_length]
theorem kC(R:Room A n){a:Addr}{vs:Array Value}{is:List Int}(ha:s.heap.IsList a vs)(hi:IntsAre vs.toList is){Q:Value→Shared→Prop}{E}
  (h:∀t h' k,Le s.heap h'→Q (.int is.sum t) {s with heap:=h',toks:=k}):wpAny P.M A (call (.builtin "sum") [.ref a]) Q E s:=by
 have hne:a≠s.heap.objs.size:=by obtain⟨o,e,_⟩:=ha; exact Nat.ne_of_lt (cQ e)
 have hl:is.length=vs.size:=by rw[←hi.length]; simp
 refine call_sum_walkG (wpAny_pyIter_list ha ⟨s.heap.objs.size,[s.heap.objs.size,a],[s.heap.objs.size],vs.size,_,_,fun i=>is.getD i 0,rfl,Walks.list (by exact R.hd) _ a hne vs,⟨⟨_,aJ _ rfl,rfl,rfl⟩,ha.push _⟩,fun b hb=>?_,fun i v hv=>?_,fun h' tk t' hk=>?_⟩)
 ·rw[df]
  refine bq ha fun o e υ=>?_
  have:=cQ e
  simp only[aP,dz,or_false]at hb
  rcases hb with hb | hb
  ·rw[hb]; exact bZ _
  ·rw[hb]; exact Nat.lt_succ_of_lt this
 ·exact hi.int_at i v (by simpa using hv)
 ·have e:=nr is
  rw[hl]at e
  rw[e]
  exact h _ _ _ fun b o e=>hk b o (fun q=>by simp at q; subst q; rw[get?_size]at e; cases e) (aU _ e)
end
section
variable {P:Pm}{A:Around}{Z:Heap}{s:Shared}{n:Nat}
theorem lJ(R:Room A n){a b:Int}{t u:Tok}{Q:Value→Shared→Prop}{E}
  (h:∀t h' k,Le s.heap h'→Q (.int (if b>a then b else a) t) {s with heap:=h',toks:=k}):wpAny P.M A (call (.builtin "max") [.int a t,.int b u]) Q E s:=by
 have ht:(s.heap.push {cls:= .type "tuple",data:= .seq #[Value.int a t,.int b u]}).IsTuple s.heap.objs.size #[Value.int a t,.int b u]:=⟨_,aJ _ rfl,rfl,_,rfl⟩
 have sz:(s.heap.push {cls:= .type "tuple",data:= .seq #[Value.int a t,.int b u]}).objs.size=s.heap.objs.size+1:=df ..
 have hval:∀(i:Nat) (v:Value),(#[Value.int a t,Value.int b u]:Array Value)[i]? =some v→∃t,v=Value.int ([a,b].getD i 0) t:=fun i v hv=>by
  match i,hv with
  | 0,hv=>cases hv; exact⟨_,rfl⟩
  | 1,hv=>cases hv; exact⟨_,rfl⟩
  | k+2,hv=>simp at hv
 refine call_max_two (wpAny_pyIter_tuple ht ⟨_,_,_,_,_,_,fun i j=>decide ([a,b].getD i 0>[a,b].getD j 0),rfl,Walks.tuple (A:=A.in1) (by exact R.hd) _ s.heap.objs.size (fun q=>absurd (q.trans sz) (Nat.ne_of_lt (bZ _))) #[Value.int a t,.int b u],?_,fun c hc=>?_,(show 0<2 by decide),CmpOf.ints_gt _ hval,fun v h' tk hv hk=>?_⟩)
 ·exact⟨⟨{cls:= .type "tuple_iterator",data:= .fields #[.ref s.heap.objs.size,.int 0 0]},aJ _ rfl,rfl,rfl⟩,ht.push _⟩
 ·simp only[aP,dz,or_false]at hc
  rw[df]
  rcases hc with hc | hc
  ·rw[hc]; exact bZ _
  ·rw[hc,sz]; exact Nat.lt_succ_of_lt (bZ _)
 ·refine dh (hval _ _ hv) fun t' e24_1=>?_; subst e24_1
  have e:[a,b].getD (argBest (fun i j=>decide ([a,b].getD i 0>[a,b].getD j 0)) ((#[Value.int a t,.int b u]:Array Value).size-1)) 0=if b>a then b else a:=by
   show [a,b].getD (argBest _ 1) 0=_
   simp only[argBest,List.getD_cons_zero,List.getD_cons_succ,decide_eq_true_eq]
   by_cases hba:b>a
   ·rw[if_pos hba,if_pos hba]; rfl
   ·rw[if_neg hba,if_neg hba]; rfl
  rw[e]
  refine h _ _ _ fun c o ec=>hk c o (fun q=>?_) (aU _ (aU _ ec))
  have h9:=cQ ec
  rw[ay]at q
  rw[q,sz]at h9
  exact absurd (Nat.lt_of_succ_lt h9) (Nat.lt_irrefl _)
theorem dk{xs:Array Value}{ds:List D}(r:RepAll Z xs.toList ds):xs.size=ds.length:=by rw[←r.length]; simp
theorem FI(a:Int):(if a<0 then -a else a)=(a.natAbs:Int):=by split<;>(first | exact aq5 (by assumption) | exact aq6 (by assumption))
theorem mK(ok:Ok P Z s){a b:Int}{t u:Tok}(hm:b≠0∧b.natAbs<2^5000):Gv P A Z s (call (.builtin "divmod") [.int a t,.int b u]) (.tuple [.int (a.fdiv b),.int (a.fmod b)]):=by
 intro Q E k
 refine divmod_int hm.1 ?_ (.inl ?_)
 ·refine bq (Go.newTuple ok (vs:=[Value.int (a.fdiv b) s.toks,.int (a.fmod b) (s.toks+1)]) (ds:=[.int (a.fdiv b),.int (a.fmod b)]) (.cons (.int _ _) (.cons (.int _ _) .nil)) (s.toks+1+1) (br _)) fun Z' g r=>?_
  exact k _ _ _ g r
 ·exact PyProof.noPylong_of_log2 (by
   rcases Nat.eq_zero_or_pos b.natAbs with h0 | hp
   ·rw[h0]; decide
   ·have:=(Nat.log2_lt (Nat.ne_of_gt hp)).mpr hm.2; exact aq7 this)
noncomputable def lstD(f:List D→Option D)(x:D):Option D:=match x with
 | .list xs=>f xs
 | _=>none
noncomputable def intD(f:Int→Option D)(x:D):Option D:=match x with
 | .int xs=>f xs
 | _=>none
noncomputable def FV(f:Str→Option D)(x:D):Option D:=match x with
 | .str xs=>f xs
 | _=>none
theorem GS{f:List D→Option D}{x d:D}(h:lstD f x=some d):∃xs,x= .list xs∧f xs=some d:=by
 cases x<;>first | exact⟨_,rfl,h⟩ | cases h
theorem Hd{f:Int→Option D}{x d:D}(h:intD f x=some d):∃xs,x= .int xs∧f xs=some d:=by
 cases x<;>first | exact⟨_,rfl,h⟩ | cases h
theorem Gl{f:Str→Option D}{x d:D}(h:FV f x=some d):∃xs,x= .str xs∧f xs=some d:=by
 cases x<;>first | exact⟨_,rfl,h⟩ | cases h
theorem Al.one1{α β:Type}{R:α→β→Prop}{vs:List α}{y:β}(r:Al R vs [y]):∃v,vs=[v]∧R v y:=by
 cases r with | cons r1 r2=>cases r2 with | nil=>exact⟨_,rfl,r1⟩
theorem Al.two2{α β:Type}{R:α→β→Prop}{vs:List α}{y z:β}(r:Al R vs [y,z]):∃v w,vs=[v,w]∧R v y∧R w z:=by
 cases r with | cons r1 r2=>obtain⟨_,rfl,q⟩:=r2.one1; exact⟨_,_,rfl,r1,q⟩
theorem iH{g:List D→Option D}{ds:List D}{d:D}(h:g ds=some d)(h0:∀y z r,g (y::z::r)=none)(h1:g []=none):∃y,ds=[y]∧g [y]=some d:=by
 rcases ds with _ | ⟨y,_ | ⟨z,r⟩⟩
 ·rw[h1]at h; cases h
 ·exact gX _ rfl h
 ·rw[h0]at h; cases h
theorem xF{g:List D→Option D}{ds:List D}{d:D}(h:g ds=some d)(h0:∀y z w r,g (y::z::w::r)=none)(h1:∀y,g [y]=none)(h2:g []=none):∃y z,ds=[y,z]∧g [y,z]=some d:=by
 rcases ds with _ | ⟨y,_ | ⟨z,_ | ⟨w,r⟩⟩⟩
 ·rw[h2]at h; cases h
 ·rw[h1]at h; cases h
 ·exact i2_2 _ _ rfl h
 ·rw[h0]at h; cases h
theorem isL{g:D→Option D}{x d:D}(h:g x=some d)(e:g=lstD fun xs=>g (.list xs)):∃xs,x= .list xs∧g (.list xs)=some d:=by rw[e]at h; obtain⟨xs,rfl,h⟩:=GS h; exact⟨xs,rfl,h⟩
theorem isI{g:D→Option D}{x d:D}(h:g x=some d)(e:g=intD fun xs=>g (.int xs)):∃xs,x= .int xs∧g (.int xs)=some d:=by rw[e]at h; obtain⟨xs,rfl,h⟩:=Hd h; exact⟨xs,rfl,h⟩
theorem isS{g:D→Option D}{x d:D}(h:g x=some d)(e:g=FV fun xs=>g (.str xs)):∃xs,x= .str xs∧g (.str xs)=some d:=by rw[e]at h; obtain⟨xs,rfl,h⟩:=Gl h; exact⟨xs,rfl,h⟩
section
variable {ds:List D}{d:D}{vs:List Value}
theorem Ey(ok:Ok P Z s)(h:biD .len ds=some d)(r:Al (gp P Z s.heap) vs ds):Gv P A Z s (call (biVal .len) vs) d:=by
 refine bq (iH h (fun υ υ υ=>rfl) rfl) fun y e88_1 h=>?_; subst e88_1
 refine bq r.one1 fun v e89_1 q=>?_; subst e89_1
 cases y with
 | list xs=>
  refine fu (oif h) fun hz e92_1=>?_; subst e92_1
  refine gw (q.list ok) fun a xs e93_1 l rr=>?_; subst e93_1
  have hs:=dk rr
  exact Gv.int0 ok fun Q E k=>len_list l.isList (by rw[hs]; exact iY hz) (by rw[hs]; exact k _ _)
 | tuple xs=>
  refine fu (oif h) fun hz e0_1=>?_; subst e0_1
  refine gw (q.tuple ok) fun a xs e1_1 l rr=>?_; subst e1_1
  have hs:=dk rr
  exact Gv.int0 ok fun Q E k=>len_tuple l (by rw[hs]; exact iY hz) (by rw[hs]; exact k _ _)
 | str x=>
  refine fu (oif h) fun hz e5_1=>?_; subst e5_1
  refine dh q.str fun t e6_1=>?_; subst e6_1
  exact Gv.int0 ok fun Q E k=>PySem.P.len_str (by have:=iY hz; exact aq8 this) (k _ _)
 | _=>cases h
theorem Ex(ok:Ok P Z s)(h:biD .lst ds=some d)(r:Al (gp P Z s.heap) vs ds):Gv P A Z s (call (biVal .lst) vs) d:=by
 refine bq (iH h (fun υ υ υ=>rfl) rfl) fun y e10_1 h=>?_; subst e10_1
 refine bq r.one1 fun v e11_1 q=>?_; subst e11_1
 refine bq (isL (g:=fun y=>biD .lst [y]) h (by funext y; cases y<;>rfl)) fun ys e12_1 h=>?_; subst e12_1
 refine fu (oif h) fun hz e13_1=>?_; subst e13_1
 refine gw (q.list ok) fun a xs e14_1 w14_1 rr=>?_; subst e14_1; obtain⟨c,l⟩:=w14_1
 have hs:=dk rr
 intro Q E k
 refine wpAny_with_toks (n:=1) ok.tk (call_list_seq a (.inl rfl) l rfl rfl (fun h' c' hk e htk=>?_) (lP (by rw[hs]; exact hz)))
 have g:Go P Z s Z {s with heap:=h',toks:=s.toks}:=Go.of_le ok (fun b o e=>hk b o e) htk
 have hz:=ok.znone (get?_size s.heap)
 exact k _ _ _ (g.freeze e (get?_size _) hz (g.ok.notT e (.inl nofun))) (Rep.list (vs:=xs) ⟨c',cM rfl⟩ (rr.le (dY hz)))
theorem Eu(ok:Ok P Z s)(h:biD .tup ds=some d)(r:Al (gp P Z s.heap) vs ds):Gv P A Z s (call (biVal .tup) vs) d:=by
 refine bq (iH h (fun υ υ υ=>rfl) rfl) fun y e22_1 h=>?_; subst e22_1
 refine bq r.one1 fun v e23_1 q=>?_; subst e23_1
 refine bq (isL (g:=fun y=>biD .tup [y]) h (by funext y; cases y<;>rfl)) fun ys e24_1 h=>?_; subst e24_1
 refine fu (oif h) fun hz e25_1=>?_; subst e25_1
 refine gw (q.list ok) fun a xs e26_1 l rr=>?_; subst e26_1
 have hs:=dk rr
 intro Q E k
 refine wpAny_with_toks (n:=1) ok.tk (call_tuple_list l.isList (fun h' hk htk=>?_) (lP (by rw[hs]; exact hz)))
 have g0:Go P Z s Z {s with heap:=h'}:=Go.of_le ok (fun b o e=>hk b o e) ok.tk
 refine bq (Go.newTuple g0.ok (vs:=xs.toList) (rr.le g0.le) s.toks ok.tk) fun Z' g1 r1=>?_
 rw[Array.toArray_toList]at g1
 exact k _ _ _ (g0.trans g1) r1
theorem By(R:Room A n)(ok:Ok P Z s)(h:biD .max1 ds=some d)(r:Al (gp P Z s.heap) vs ds):Gv P A Z s (call (biVal .max1) vs) d:=by
 refine bq (iH h (fun υ υ υ=>rfl) rfl) fun y e35_1 h=>?_; subst e35_1
 refine bq r.one1 fun v e36_1 q=>?_; subst e36_1
 refine bq (isL (g:=fun y=>biD .max1 [y]) h (by funext y; cases y<;>rfl)) fun ys e37_1 h=>?_; subst e37_1
 refine gw (q.list ok) fun a xs e38_1 l rr=>?_; subst e38_1
 exact ov1 h fun is hi h=>omv h fun m hm=>Gv.grow ok fun Q E k=>kH R l.isList (gW rr hi) hm fun t h' tk hl=>k _ _ _ hl fun Y=> .int _ _
theorem Ew(R:Room A n)(ok:Ok P Z s)(h:biD .sum ds=some d)(r:Al (gp P Z s.heap) vs ds):Gv P A Z s (call (biVal .sum) vs) d:=by
 refine bq (iH h (fun υ υ υ=>rfl) rfl) fun y e41_1 h=>?_; subst e41_1
 refine bq r.one1 fun v e42_1 q=>?_; subst e42_1
 refine bq (isL (g:=fun y=>biD .sum [y]) h (by funext y; cases y<;>rfl)) fun ys e43_1 h=>?_; subst e43_1
 refine gw (q.list ok) fun a xs e44_1 l rr=>?_; subst e44_1
 exact omv h fun is hi=>Gv.grow ok fun Q E k=>kC R l.isList (gW rr hi) fun t h' tk hl=>k _ _ _ hl fun Y=> .int _ _
theorem EA(ok:Ok P Z s)(h:biD .abs ds=some d)(r:Al (gp P Z s.heap) vs ds):Gv P A Z s (call (biVal .abs) vs) d:=by
 refine bq (iH h (fun υ υ υ=>rfl) rfl) fun y e47_1 h=>?_; subst e47_1
 refine bq r.one1 fun v e48_1 q=>?_; subst e48_1
 refine bq (isI (g:=fun y=>biD .abs [y]) h (by funext y; cases y<;>rfl)) fun ys e49_1 h=>?_; subst e49_1
 refine dh q.int fun t e50_1=>?_; subst e50_1
 cases h
 refine Gv.int0 ok fun Q E k=>call_abs_int fun u tk=>?_
 rw[FI]; exact k _ _
theorem Bx(R:Room A n)(ok:Ok P Z s)(h:biD .max2 ds=some d)(r:Al (gp P Z s.heap) vs ds):Gv P A Z s (call (biVal .max2) vs) d:=by
 refine x2_2 (xF h (fun υ υ υ υ=>rfl) (fun υ=>rfl) rfl) fun y z e55_1 h=>?_; subst e55_1
 refine gw r.two2 fun v w e56_1 r1 r2=>?_; subst e56_1
 refine bq (isI (g:=fun y=>biD .max2 [y,z]) h (by funext y; cases y<;>rfl)) fun a e57_1 h=>?_; subst e57_1
 refine bq (isI (g:=fun z=>biD .max2 [.int a,z]) h (by funext y; cases y<;>rfl)) fun b e58_1 h=>?_; subst e58_1
 refine dh r1.int fun t e59_1=>?_; subst e59_1
 refine dh r2.int fun u e60_1=>?_; subst e60_1
 cases h
 exact Gv.grow ok fun Q E k=>lJ R fun t h' tk hl=>k _ _ _ hl fun Y=> .int _ _
theorem ub(ok:Ok P Z s)(h:biD .divmod ds=some d)(r:Al (gp P Z s.heap) vs ds):Gv P A Z s (call (biVal .divmod) vs) d:=by
 refine x2_2 (xF h (fun υ υ υ υ=>rfl) (fun υ=>rfl) rfl) fun y z e64_1 h=>?_; subst e64_1
 refine gw r.two2 fun v w e65_1 r1 r2=>?_; subst e65_1
 refine bq (isI (g:=fun y=>biD .divmod [y,z]) h (by funext y; cases y<;>rfl)) fun a e66_1 h=>?_; subst e66_1
 refine bq (isI (g:=fun z=>biD .divmod [.int a,z]) h (by funext y; cases y<;>rfl)) fun b e67_1 h=>?_; subst e67_1
 refine dh r1.int fun t e68_1=>?_; subst e68_1
 refine dh r2.int fun u e69_1=>?_; subst e69_1
 refine fu (oif h) fun hm e70_1=>?_; subst e70_1
 exact mK ok hm
theorem xm(R:Room A n)(ok:Ok P Z s){b:Bi}(hb:b≠ .lenset)(h:biD b ds=some d)(r:Al (gp P Z s.heap) vs ds):Gv P A Z s (call (biVal b) vs) d:=by
 cases b with
 | len=>exact Ey ok h r
 | lst=>exact Ex ok h r
 | tup=>exact Eu ok h r
 | max1=>exact By R ok h r
 | max2=>exact Bx R ok h r
 | sum=>exact Ew R ok h r
 | abs=>exact EA ok h r
 | divmod=>exact ub ok h r
 | lenset=>exact absurd rfl hb
 | _=>cases h
end
theorem mC(R:Room A n)(ok:Ok P Z s){xs:List D}{d:D}{v:Value}(h:biD .lenset [.list xs]=some d)(r:gp P Z s.heap v (.list xs)){Q:Value→Shared→Prop}{E}
  (k:∀v s' Z',Go P Z s Z' s'→Rep Z' v d→Q v s'):
  wpAny P.M A (call (.type "set") [v]) (fun y s1=>Ok P Z s1∧∃a,y= .ref a∧(∃o,s1.heap.get? a=some o)∧wpAny P.M A (call (.builtin "len") [.ref a]) Q E s1) E s:=by
 refine ov1 h fun is hi h=>?_
 ·refine fu (oif h) fun hz e91_1=>?_; subst e91_1
  refine gw (r.list ok) fun a vs e92_1 l rr=>?_; subst e92_1
  have hia:=gW rr hi
  have hs:vs.size=is.length:=by rw[←hia.length]; simp
  refine wpAny_with_toks (n:=1) ok.tk (call_set_list R.hd l.isList hia (by rw[hs]; show _<4096; exact aq9 hz) fun h' tk hS hk htk=>?_)
  refine x4_8 hS fun o es ep t h1 h2 h3 h4 h5 h6 h7 h8=>?_
  have g:Go P Z s Z {s with heap:=h',toks:=tk}:=Go.of_le ok (fun b o e=>hk b o (cQ e) e) htk
  refine⟨g.ok,_,rfl,⟨o,h1⟩,?_⟩
  have hl:=firstMet_length_le (fun i=>is.getD i 0) vs.size
  refine wpAny_with_toks (n:=1) g.ok.tk (call_len_set h1 h2 h3 h7 ?_ fun htk'=>?_)
  ·rw[h8]
   refine iY ?_
   rw[few_eq]; exact aq10 hs hz hl
  ·rw[h8,hs]
   exact k _ _ _ (g.trans (Go.toks g.ok _ (br _))) (.int _ _)
end
theorem nR(x y:Str)(i j:Int)(t u v w:Tok):Gives (Builtin.«str.find» ⟨[.str x t,.str y u,.int i v,.int j w],[]⟩)
  (.int (match Builtin.Str.occurrences x y (fromIndex x.length i) (min (fromIndex x.length j) x.length) 1 with | k::_=>(k:Int) | []=> -1)):=by
 show Gives (match Builtin.Str.occurrences x y (fromIndex x.length i) (min (fromIndex x.length j) x.length) 1 with | k::_=>retInt k | []=>(do rule "str.find.not-found"; retInt (-1))) _
 cases Builtin.Str.occurrences x y (fromIndex x.length i) (min (fromIndex x.length j) x.length) 1 with
 | nil=>exact .rule (.of_eq rfl)
 | cons k _=>exact .of_eq rfl
theorem ip{Z:Heap}:∀l:List (Str×Tok),RepAll Z (strValues l) ((l.map (·.1)).map .str)
 | []=> .nil
 | (x,t)::r=> .cons (.str x t) (ip r)
section
variable {P:Pm}{A:Around}{Z:Heap}{s:Shared}{n:Nat}
theorem nh(ok:Ok P Z s){x y:Str}{t u:Tok}(hx:x.length≤4000)(hy:0<y.length):Gv P A Z s (call (.builtin "str.split") [.str x t,.str y u]) (.list ((Txt.split x y).map .str)):=by
 have hsz:x.length≤sizeLine:=by rw[sizeLine_eq]; exact aq47 hx
 have hy':(y.length==0)=false:=by simp; exact IK hy
 refine Gv.freezeNew ok fun Q E k=>?_
 have one:Txt.split x y=[x]→wants Q E (.ok (.ret (.ref s.heap.objs.size))) {s with heap:=s.heap.push {cls:= .type "list",data:= .seq #[Value.str x t]}}:=fun e=>
  k _ #[Value.str x t] s.toks rfl ⟨_,aJ _ rfl⟩ (by rw[e]; exact .cons (.str _ _) .nil)
 cases h1:(decide (x.length<y.length)||decide (Builtin.Str.strKind x<Builtin.Str.strKind y))
 ·cases hf:(Builtin.Str.occurrences x y 0 x.length (x.length+1)).isEmpty
  ·have hsz2:(Builtin.Str.partsBetween x (Builtin.Str.occurrences x y 0 x.length (x.length+1)) y.length).length≤sizeLine:=by
    have:=StrLaws.occ_length_le x y 0 x.length (x.length+1)
    unfold Builtin.Str.partsBetween
    simp only[ag,List.length_zip,ah,ak,aE]
    rw[sizeLine_eq]; exact aq49 this hx
   refine call_meets F.slot_str_split (typeIs_str _ _ _) F.entry_str_split (F.args_str_split_2 _ _) (meets_str_split_sep x y t u h1 hy' hf hsz hsz2) ?_
   have e:Txt.split x y=Builtin.Str.partsBetween x (Builtin.Str.occurrences x y 0 x.length (x.length+1)) y.length:=
    (if_neg (ne_true_of_eq_false h1)).trans (if_neg (ne_true_of_eq_false hf))
   refine k _ (strsFrom s.toks (Builtin.Str.partsBetween x (Builtin.Str.occurrences x y 0 x.length (x.length+1)) y.length)).toArray _ rfl ⟨_,aJ _ rfl⟩ ?_
   rw[e,strsFrom_eq]
   have q:=ip (Z:=Z) (numbered s.toks (Builtin.Str.partsBetween x (Builtin.Str.occurrences x y 0 x.length (x.length+1)) y.length))
   rw[numbered_texts]at q
   exact q
  ·exact call_meets F.slot_str_split (typeIs_str _ _ _) F.entry_str_split (F.args_str_split_2 _ _) (meets_str_split_not_found x y t u h1 hy' hf)
    (one ((if_neg (ne_true_of_eq_false h1)).trans (if_pos hf)))
 ·exact call_meets F.slot_str_split (typeIs_str _ _ _) F.entry_str_split (F.args_str_split_2 _ _) (meets_str_split_cannot_occur x y t u h1) (one (if_pos h1))
theorem sF{x:Str}{ss:List Str}(h:(ss.map (·.length)).sum+ss.length*x.length≤few):JoinOk x ss=true:=by
 unfold JoinOk
 rw[fc]
 unfold Builtin.Str.tooLong
 have key:∀(ss:List Str) (a:Nat),ss.foldl (·+·.length+x.length) a=a+(ss.map (·.length)).sum+ss.length*x.length:=by
  intro ss
  induction ss with
  | nil=>intro a; simp
  | cons b r ih=>intro a; rw[bH,ih]; simp only[aB,dG,ah,Nat.succ_mul]; exact aq50
 rw[List.foldl_toArray,key]
 rw[few_eq]at h
 simp only[sizeLine_eq,decide_eq_false_iff_not]; exact aq51 h
theorem jw{k:Nat}{i:Int}(h:0≤i):fromIndex k i=i.toNat:=by
 unfold fromIndex
 rw[if_neg (by exact Fu h)]
 congr 1; exact aq52 h
theorem t8(a:Int):Builtin.Int.intBits a=bitLen a:=by
 unfold Builtin.Int.intBits bitLen
 by_cases h:a=0<;>simp[h]
noncomputable def uw(P:Pm)(A:Around)(m:Mt)(x:D)(ds:List D)(d:D):Prop:=
  ∃T id,PlainAttrs T∧Slot T (aa (mz m)) id∧typeOf (.builtin id)=pure (.type "method_descriptor")∧
   ∀Z s v,Ok P Z s→gp P Z s.heap v x→s.TypeIs v T∧(∀a,v= .ref a→∃ob,s.heap.get? a=some ob∧ob.dict=none)∧
    ∀vs,Al (gp P Z s.heap) vs ds→Gv P A Z s (call (.builtin id) (v::vs)) d
section
variable {m:Mt}{x d:D}{ds:List D}
theorem uw.str{id:String}{x:Str}(sl:Slot "str" (aa (mz m)) id)(ty:typeOf (.builtin id)=pure (.type "method_descriptor"))(h:∀Z s t vs,Ok P Z s→Al (gp P Z s.heap) vs ds→Gv P A Z s (call (.builtin id) (.str x t::vs)) d):uw P A m (.str x) ds d:=
 ⟨"str",id,F.plainAttrs_str,sl,ty,fun Z s v ok r=>by obtain⟨t,rfl⟩:=r.str; exact⟨typeIs_str _ _ _,(fun a q=>by cases q),fun vs r2=>h Z s t vs ok r2⟩⟩
theorem uw.str1{id:String}{x y:Str}(sl:Slot "str" (aa (mz m)) id)(ty:typeOf (.builtin id)=pure (.type "method_descriptor"))(h:∀Z s t u,Ok P Z s→Gv P A Z s (call (.builtin id) [.str x t,.str y u]) d):uw P A m (.str x) [.str y] d:=
 .str sl ty fun Z s t vs ok r=>by obtain⟨_,rfl,q⟩:=r.one1; obtain⟨u,rfl⟩:=q.str; exact h Z s t u ok
theorem oO(h:mtD m x ds=some d)(e:(fun x=>mtD m x ds)=FV fun x=>mtD m (.str x) ds)(h0:∀a y z r,mtD m (.str a) (y::z::r)=none)(h1:∀a,mtD m (.str a) []=none)(e2:∀a,(fun y=>mtD m (.str a) [y])=FV fun y=>mtD m (.str a) [.str y]):
  ∃a b,x= .str a∧ds=[.str b]∧mtD m (.str a) [.str b]=some d:=by
 refine bq (isS (g:=fun x=>mtD m x ds) h e) fun a e79_1 h=>?_; subst e79_1
 refine bq (iH h (h0 a) (h1 a)) fun y e80_1 h=>?_; subst e80_1
 refine bq (isS (g:=fun y=>mtD m (.str a) [y]) h (e2 a)) fun b e81_1 h=>?_; subst e81_1
 exact uo a b rfl rfl h
theorem zK(h:mtD .bitLength x ds=some d):uw P A .bitLength x ds d:=by
 refine bq (isI (g:=fun x=>mtD .bitLength x ds) h (by funext y; cases y<;>rfl)) fun a e84_1 h=>?_; subst e84_1
 rcases ds with _ | ⟨_,_⟩<;>cases h
 refine Hg ("int") ("int.bit_length") F.plainAttrs_int slot_int_bit_length type_int_bit_length (fun Z s v ok r=>?_)
 refine dh r.int fun t e87_1=>?_; subst e87_1
 refine ur (typeIs_int _ _ _) ((fun a q=>by cases q)) (fun vs rr=>?_)
 cases rr
 exact Gv.int ok fun Q E k=>call_int_bit_length (by rw[t8]; exact k)
theorem vC(h:mtD .count x ds=some d):uw P A .count x ds d:=by
 refine bq (iH h (fun υ υ υ=>rfl) rfl) fun y e92_1 h=>?_; subst e92_1
 cases x with
 | list xs=>
  refine bq (isI (g:=fun y=>mtD .count (.list xs) [y]) h (by funext y; cases y<;>rfl)) fun a e95_1 h=>?_; subst e95_1
  refine ov1 h fun is hi h=>?_
  refine fu (oif h) fun υ e0_1=>?_; subst e0_1
  refine Hg ("list") ("list.count") F.plainAttrs_list F.slot_list_count F.type_list_count (fun Z s v ok r=>?_)
  refine gw (r.list ok) fun a xs e2_1 l rr=>?_; subst e2_1
  refine ur l.isList.typeIs (fun b q=>?_) (fun vs r2=>?_)
  ·cases q; obtain⟨c,e⟩:=l; exact⟨_,e,rfl⟩
  ·refine bq r2.one1 fun υ e5_1 r1=>?_; subst e5_1
   refine dh r1.int fun t e6_1=>?_; subst e6_1
   exact Gv.int ok fun Q E k=>count_list_ints (vs:=xs.toList) (by simpa using l.isList) (gW rr hi) k
 | str x=>
  refine bq (isS (g:=fun y=>mtD .count (.str x) [y]) h (by funext y; cases y<;>rfl)) fun b e9_1 h=>?_; subst e9_1
  refine fu (oif h) fun υ e10_1=>?_; subst e10_1
  exact .str1 F.slot_str_count F.type_str_count fun Z s t u ok=>Gv.int ok fun Q E k=>SC.count k
 | _=>cases h
theorem rW(h:mtD .startswith x ds=some d):uw P A .startswith x ds d:=by
 refine gw (oO h (by funext y; cases y<;>rfl) (fun υ υ υ υ=>rfl) (fun υ=>rfl) (fun υ=>by funext y; cases y<;>rfl)) fun a b e14_1 e14_2 h=>?_; subst e14_1; subst e14_2
 cases h
 exact .str1 F.slot_str_startswith F.type_str_startswith fun Z s t u ok=>Gv.bool ok fun Q E k=>SC.startswith (k _)
theorem zJ(h:mtD .endswith x ds=some d):uw P A .endswith x ds d:=by
 refine gw (oO h (by funext y; cases y<;>rfl) (fun υ υ υ υ=>rfl) (fun υ=>rfl) (fun υ=>by funext y; cases y<;>rfl)) fun a b e18_1 e18_2 h=>?_; subst e18_1; subst e18_2
 cases h
 exact .str1 F.slot_str_endswith F.type_str_endswith fun Z s t u ok=>Gv.bool ok fun Q E k=>SC.endswith (k _)
theorem vA(h:mtD .split x ds=some d):uw P A .split x ds d:=by
 refine gw (oO h (by funext y; cases y<;>rfl) (fun υ υ υ υ=>rfl) (fun υ=>rfl) (fun υ=>by funext y; cases y<;>rfl)) fun a b e22_1 e22_2 h=>?_; subst e22_1; subst e22_2
 refine fu (oif h) fun hh e23_1=>?_; subst e23_1
 exact .str1 F.slot_str_split F.type_str_split fun Z s t u ok=>nh ok hh.1 hh.2
theorem zI(h:mtD .find3 x ds=some d):uw P A .find3 x ds d:=by
 refine bq (isS (g:=fun x=>mtD .find3 x ds) h (by funext y; cases y<;>rfl)) fun a e26_1 h=>?_; subst e26_1
 rcases ds with _ | ⟨y,_ | ⟨z,_ | ⟨w,_ | ⟨_,_⟩⟩⟩⟩<;>try cases h
 refine bq (isS (g:=fun y=>mtD .find3 (.str a) [y,z,w]) h (by funext y; cases y<;>rfl)) fun b e28_1 h=>?_; subst e28_1
 refine bq (isI (g:=fun z=>mtD .find3 (.str a) [.str b,z,w]) h (by funext y; cases y<;>rfl)) fun i e29_1 h=>?_; subst e29_1
 refine bq (isI (g:=fun w=>mtD .find3 (.str a) [.str b,.int i,w]) h (by funext y; cases y<;>rfl)) fun j e30_1 h=>?_; subst e30_1
 refine fu (oif h) fun hh e31_1=>?_; subst e31_1
 refine .str F.slot_str_find F.type_str_find fun Z s t vs ok r=>?_
 cases r with | cons r1 r3=>
 refine gw r3.two2 fun υ υ e34_1 r4 r6=>?_; subst e34_1
 refine dh r1.str fun u e35_1=>?_; subst e35_1
 refine dh r4.int fun u2 e36_1=>?_; subst e36_1
 refine dh r6.int fun u3 e37_1=>?_; subst e37_1
 refine Gv.int ok fun Q E k=>call_gives F.slot_str_find (typeIs_str _ _ _) F.entry_str_find (F.args_str_find_4 _ _ _ _) (nR _ _ _ _ _ _ _ _) ?_
 rw[jw hh.1,jw hh.2.1]
 exact k
theorem zH(h:mtD .join x ds=some d):uw P A .join x ds d:=by
 refine bq (isS (g:=fun x=>mtD .join x ds) h (by funext y; cases y<;>rfl)) fun a e42_1 h=>?_; subst e42_1
 refine bq (iH h (fun υ υ υ=>rfl) rfl) fun y e43_1 h=>?_; subst e43_1
 refine bq (isL (g:=fun y=>mtD .join (.str a) [y]) h (by funext y; cases y<;>rfl)) fun ys e44_1 h=>?_; subst e44_1
 refine ov1 h fun ss hs h=>?_
 refine fu (oif h) fun hh e46_1=>?_; subst e46_1
 refine .str F.slot_str_join F.type_str_join fun Z s t vs ok r=>?_
 refine bq r.one1 fun υ e48_1 r1=>?_; subst e48_1
 refine gw (r1.list ok) fun a xs e49_1 l rr=>?_; subst e49_1
 refine bq (pN rr hs) fun ll e1 e2=>?_
 have l':s.heap.IsList a (strValues ll).toArray:=by rw[←e1]; simpa using l.isList
 exact Gv.str ok fun Q E k=>SC.join l' e2 (sF hh.1) k
theorem vB(hm:m≠ .replace)(hm':m≠ .flagName)(h:mtD m x ds=some d):uw P A m x ds d:=by
 cases m with
 | bitLength=>exact zK h
 | count=>exact vC h
 | startswith=>exact rW h
 | endswith=>exact zJ h
 | find3=>exact zI h
 | split=>exact vA h
 | replace=>exact absurd rfl hm
 | join=>exact zH h
 | flagName=>exact absurd rfl hm'
end
theorem lE(ok:Ok P Z s){x y z:Str}{t u v:Tok}(hu:u≠0)(hv:v≠0)(huv:u≠v){d:D}(h:mtD .replace (.str x) [.str y,.str z]=some d):
  Gv P A Z s (call (.builtin "str.replace") [.str x t,.str y u,.str z v]) d:=by
 refine fu (oif h) fun hh e69_1=>?_; subst e69_1
 refine Gv.str ok fun Q E k=>SC.replace hu hv huv (by simp[hh.2.2]) ?_ k
 have:(x.length+1)*z.length≤1001*1000:=fk (aw hh.1) hh.2.1
 lia -abstractProof
end
end Pw
end
section
open PySem PySem.W PyProof.Rows PySem.Calls
set_option maxRecDepth 4000
namespace Pw
noncomputable def fY:Expr→Bool
 | .Starred .. =>false
 | _=>true
theorem fE{n ns sc ie e}(h:ckE n ns sc ie e=true):fY e=true:=
 jl h (by intros; rfl) (by intros; rfl) (by intros; rfl) (by intros; rfl) (by intros; rfl) (by intros; rfl) (by intros; rfl) (by intros; rfl) (by intros; rfl) (by intros; rfl) (by intros; rfl) (by intros; rfl) (by intros; rfl)
theorem kF(env:Env):∀xs:List Expr,(∀x∈xs,fY x=true)→starEach xs env=xs.map fun e=>(false,eval e env):=by
 intro xs
 induction xs with
 | nil=>
  exact fun υ=>rfl
 | cons x r ih=>
  intro h
  have ih:=ih fun y hy=>h y (.tail _ hy)
  have hx:=h x (.head _)
  cases x<;>first | (cases hx; done) | (rw[aB,←ih]; rfl)
theorem iU{α β:Type}{f:α→β→Bool}{M:List α→List β→Prop}(n:M [] [])(c:∀a b as bs,f a b=true→gO f as bs=true→M as bs→M (a::as) (b::bs)):∀as bs,gO f as bs=true→M as bs:=by
 intro as
 induction as with
 | nil=>
  intro bs h
  cases bs with
  | nil=>exact n
  | cons b bs=>exact kno h
 | cons a as ih=>
  intro bs h
  cases bs with
  | nil=>exact kno h
  | cons b bs=>exact c a b as bs (B3 h).1 (B3 h).2 (ih bs (B3 h).2)
theorem xx{α β:Type}{f:α→β→Bool}{as:List α}{bs:List β}(h:gO f as bs=true):∀b∈bs,∃a∈as,f a b=true:=by
 refine iU (M:=fun as bs=>∀b∈bs,∃a∈as,f a b=true) (fun b hb=>by cases hb) (fun a b as bs h υ e c hc=>?_) as bs h
 rcases aP.mp hc with q | hc
 ·exact gX a (.head _) (q▸h)
 ·refine bq (e c hc) fun a' h1 h2=>?_
  exact gX a' (.tail _ h1) h2
theorem iu{α β:Type}{f:α→β→Bool}{as:List α}{bs:List β}(h:gO f as bs=true):as.length=bs.length:=
 iU (M:=fun(as:List α) (bs:List β)=>as.length=bs.length) rfl (fun υ υ υ υ υ υ e=>congrArg Nat.succ e) as bs h
section
variable {M:Model}{A:Around}{E:Value→Shared→Prop}{s:Shared}{env:Env}
theorem bF{pos:Pos}{xs:List Expr}(h:∀x∈xs,fY x=true):backTo pos (starEach xs env)=xs.map fun e=>(false,eval e env):=by
 rw[kF env xs h]
 unfold backTo
 rw[bw]
 rfl
theorem gN{f:Value}{ts:List (Sem Value)}{Q:Args→Shared→Prop}(h:wpAny M A (spliced (ts.map fun t=>(false,t))) (fun vs s'=>Q ⟨vs,[]⟩ s') E s):
  wpAny M A (evalArgs f true (ts.map fun t=>(false,t)) []) Q E s:=by
 cases ts with
 | nil=>
  rw[List.map_nil]at h⊢
  unfold evalArgs
  refine(?_:wpAny M A (spliced []>>=_) Q E s)
  refine wpAny_bind (wpAny_mono h (fun vs s' h'=>?_) fun υ υ x=>x)
  refine wpAny_holding ?_
  exact wpAny_bind (aD (wpAny_bind (aD (aD h'))))
 | cons t r=>exact evalArgs_plain h
theorem mQ(ts:List (Sem Value)):(ts.map fun t=>((false,t):Bool×Sem Value)).any (·.1)=false:=by
 induction ts with
 | nil=>rfl
 | cons t r ih=>simpa using ih
theorem cZ{pos:Pos}{id:String}{first:List Value}{ts:List (Sem Value)}{Q:Value→Shared→Prop}
  (h:wpAny M A (spliced (ts.map fun t=>(false,t))) (fun vs s₁=>wpAny M A (call (.builtin id) (first++vs)) Q E s₁) E s):
  wpAny M A (callWith pos (.builtin id) first (ts.map fun t=>(false,t)) []) Q E s:=callWith_builtin (mQ ts) (gN h)
theorem k8{pos:Pos}{T:String}{first:List Value}{ts:List (Sem Value)}{Q:Value→Shared→Prop}
  (h:wpAny M A (spliced (ts.map fun t=>(false,t))) (fun vs s₁=>wpAny M A (call (.type T) (first++vs)) Q E s₁) E s):
  wpAny M A (callWith pos (.type T) first (ts.map fun t=>(false,t)) []) Q E s:=PyProof.Rows.callWith_type (mQ ts) (gN h)
theorem gY{pos:Pos}{f:Addr}{o:Obj}{fd:FuncData}{first:List Value}{ts:List (Sem Value)}{Q:Value→Shared→Prop}(hd:o.data= .func fd)
  (h:wpAny M A (spliced (ts.map fun t=>(false,t))) (fun vs s₁=>s₁.heap.get? f=some o∧wpAny M A (call (.ref f) (first++vs)) Q E s₁) E s):
  wpAny M A (callWith pos (.ref f) first (ts.map fun t=>(false,t)) []) Q E s:=callWith_function (o:=o) (fd:=fd) (gN (wpAny_mono h (fun υ υ x=>⟨⟨x.1,hd⟩,x.2⟩) fun υ υ x=>x))
theorem lX{o:Expr}{nm:Str}{env:Env}{w:Sem Value}(h:nD o=true):attributeBase o nm env w=w:=by
 cases o<;>first | rfl | exact kno h
theorem wz{pos:Pos}{ts:List (Sem Value)}{env:Env}(h:ts.length<20):
  ((ts.map fun t=>((false,t):Bool×Sem Value)).all (fun x=> !x.1)&&(backToKw pos (keywordEach [] env)).all (fun x=>x.1.isSome)&&decide (ts.length+([]:List Keyword).length+(if([]:List Keyword).isEmpty then 0 else 1)<30))=true:=by
 have e:(ts.map fun t=>((false,t):Bool×Sem Value)).all (fun x=> !x.1)=true:=by simp
 rw[e]
 exact decide_eq_true (aq12 h)
end
structure Facts(P:Pm)(wc:Addr):Prop where
 ell:∃t,P.mg (aa "ELLIPSIS_MARKER")=some (.str (aa "...") t)
 lim:∃t,P.mg (aa "_DIV_LIMIT")=some (.int 4000 t)
 cls:P.mg (aa "Whitespace")=some (.ref wc)
 clsS:∀{A:Around} {s:Shared} {Q:Value→Shared→Prop} {E:Value→Shared→Prop} {n:Nat},Room A n→Le P.g0 s.heap→(∀t k,Q (.str (aa " ") t) {s with toks:=k})→wpAny P.M A (getAttr (.ref wc) (aa "S") true) Q E s
 clsT:∀{A:Around} {s:Shared} {Q:Value→Shared→Prop} {E:Value→Shared→Prop} {n:Nat},Room A n→Le P.g0 s.heap→(∀t k,Q (.str (aa "\t") t) {s with toks:=k})→wpAny P.M A (getAttr (.ref wc) (aa "T") true) Q E s
 bi:∀nm∈(["len","list","tuple","max","sum","abs","divmod","range","reversed","set","hex","iter","next"]:List String),P.mg (aa nm)=none
 flg:∃fa,P.mg (aa "COMPILER_FLAG_NAMES")=some (.ref fa)∧(∃o,P.g0.get? fa=some o∧o.cls= .type "dict"∧o.dict=none)∧
  ∀{A:Around} {s:Shared} {Q:Value→Shared→Prop} {E:Value→Shared→Prop} {n:Nat} {i:Int} {t:Tok} {w:String},Room A n→Le P.g0 s.heap→gk i=some w→
   ∀v u,(v= .str (baseText "0x" 16 i) u)→(∀t k,Q (.str (aa w) t) {s with toks:=k})→wpAny P.M A (call (.builtin "dict.get") [.ref fa,.int i t,v]) Q E s
 get:∀{A:Around} {Z:Heap} {s:Shared} {x dx:Addr} {fs:List (String×D)} {nm:String} {d:D} {Q:Value→Shared→Prop} {E:Value→Shared→Prop} {n:Nat},Room A n→Le P.g0 s.heap→jA wc Z s.heap x dx fs→fs.lookup nm=some d→nm∈wNames→
  (∀v k,Rep Z v d→Q v {s with toks:=k})→wpAny P.M A (getAttr (.ref x) (aa nm) true) Q E s
structure FnOk(P:Pm)(wc:Addr)(ft:FT):Prop where
 fn:∀f c F nm,ft f=some (c,F)→j3 f=some nm→0<c∧∃a,P.mg (aa nm)=some (.ref a)∧(∃o fd,P.g0.get? a=some o∧o.data= .func fd)∧
  ∀{A:Around} {Z:Heap} {s:Shared} {vs:List Value} {ds:List D} {d:D},Room A c→Ok P Z s→RepAll Z vs ds→F ds=some d→Gv P A Z s (call (.ref a) vs) d
 run:∀c F,ft 21=some (c,F)→0<c∧∃f,(∃o fd,P.g0.get? f=some o∧o.data= .func fd)∧
  (∀{A:Around} {Z:Heap} {s:Shared} {x dx:Addr} {fs:List (String×D)} {Q:Value×List Value→Shared→Prop} {E:Value→Shared→Prop} {n:Nat} {pl:Sem Bool},Room A n→Le P.g0 s.heap→jA wc Z s.heap x dx fs→fs.map (·.1)=wNames→
   Q (.ref f,[.ref x]) s→wpAny P.M A (getMethod (.ref x) (aa "longest_run_of_spaces") pl) Q E s)∧
  ∀{A:Around} {Z:Heap} {s:Shared} {x dx:Addr} {fs:List (String×D)} {d:D},Room A c→Ok P Z s→jA wc Z Z x dx fs→fs.map (·.1)=wNames→F [.tuple (fs.map (·.2))]=some d→
   Gv P A Z s (call (.ref f) [.ref x]) d
noncomputable def eU(P:Pm)(wc:Addr)(ft:FT)(n:Nat):Prop:=
 ∀{A:Around} {env:Env} {ns:Nms} {sc:Scope} {own:Nat} {b:Bs} {σ:St} {ad:Nat→Addr} {Z:Heap} {s:Shared} {k:Nat} {ie:IE} {e:Expr} {d:D},Room A n→ckE k ns sc ie e=true→evE ft n σ ie=some d→SR P wc sc env ns own b Z σ ad s→
  ∀{Q E},(∀v s' Z',Go P Z s Z' s'→gp P Z' s'.heap v d→(isBor ie=false→Rep Z' v d)→Q v s')→wpAny P.M A (eval e env) Q E s
noncomputable def jN(P:Pm)(wc:Addr)(ft:FT)(n:Nat):Prop:=
 ∀{A:Around} {env:Env} {ns:Nms} {sc:Scope} {own:Nat} {b:Bs} {σ:St} {ad:Nat→Addr} {Z:Heap} {s:Shared} {k:Nat} {ie:IE} {e:Expr} {t:Bool},Room A n→ckE k ns sc ie e=true→fN ft n σ ie=some t→SR P wc sc env ns own b Z σ ad s→
  ∀{Q E},(∀s' Z',Go P Z s Z' s'→Q t s')→wpAny P.M A (isTrue e env (eval e env)) Q E s
section
variable {P:Pm}{wc:Addr}{sc:Scope}{env:Env}{ns:Nms}{own:Nat}{b:Bs}{Z Z':Heap}{σ:St}{ad:Nat→Addr}{s s':Shared}{A:Around}{ft:FT}{n:Nat}
theorem zF(n:Nat):((n:Int) !=0)=(n !=0):=by
 rw[bne,bne]; congr 1
 rw[bJ,beq_iff_eq,beq_iff_eq]; exact aq13
theorem fy(ok:Ok P Z s){x:D}{t:Bool}{v:Value}(h:fv x=some t)(r:gp P Z s.heap v x){Q:Bool→Shared→Prop}{E}(k:∀s' Z',Go P Z s Z' s'→Q t s'):wpAny P.M A (truthy v) Q E s:=by
 cases x with
 | none=>cases r.none; cases h; exact truthy_none (k _ _ (Go.refl ok))
 | bool _=>cases r.bool; cases h; exact wpAny_truthy_bool (k _ _ (Go.refl ok))
 | int _=>obtain⟨υ,rfl⟩:=r.int; cases h; exact PySem.P.truthy_int (k _ _ (Go.refl ok))
 | str x=>
  obtain⟨t,rfl⟩:=r.str
  obtain⟨hz,rfl⟩:=oif h
  exact PySem.P.truthy_str (by have:=iY hz; exact aq8 this) (zF x.length▸k _ _ (Go.toks ok _ (br _)))
 | list xs=>
  obtain⟨a,vs,rfl,l,rr⟩:=r.list ok
  obtain⟨hz,rfl⟩:=oif h
  have hs:=dk rr
  refine wpAny_truthy_list l.isList (by rw[hs]; exact iY hz) ?_
  have e:(!vs.isEmpty)= !(List.isEmpty xs):=by
   congr 1
   rw[bJ,Array.isEmpty_iff_size_eq_zero,hs,fo,bX]
  rw[e]; exact k _ _ (Go.toks ok _ (br _))
 | _=>cases h
theorem SR.readG(S:SR P wc sc env ns own b Z σ ad s){x:Str}{nm:String}(hx:hK sc x nm=true){v:Value}(hv:P.mg (aa nm)=some v){pos:Pos}{Q:Value→Shared→Prop}{E}(h:Q v s)
  (hd:(aa nm==("__debug__":Str))=false:=by decide+kernel):wpAny P.M A (eval (.Name x pos) env) Q E s:=by
 unfold hK at hx
 refine fu (ee.mp hx) fun h1 h2=>?_
 have e:=beq_iff_eq.mp h1
 subst e
 refine Name_function_global S.kind (S.gl _ (beq_iff_eq.mp h2)) (loadGlobal_global (mg:=P.mg) ?_ hv h) hd
 rw[S.glob]; exact P.hg.keeps (fun b o e=>S.ok.g0 b o e)
theorem SR.readB(S:SR P wc sc env ns own b Z σ ad s){x:Str}{nm:String}(hx:hK sc x nm=true)(hn:P.mg (aa nm)=none){v:Value}(hv:bootBuiltins (aa nm)=some v){pos:Pos}{Q:Value→Shared→Prop}{E}(h:Q v s)
  (hd:(aa nm==("__debug__":Str))=false:=by decide+kernel) (hm:aa nm≠"__name__":=by decide+kernel):wpAny P.M A (eval (.Name x pos) env) Q E s:=by
 unfold hK at hx
 refine fu (ee.mp hx) fun h1 h2=>?_
 have e:=beq_iff_eq.mp h1
 subst e
 refine Name_function_global S.kind (S.gl _ (beq_iff_eq.mp h2)) (loadGlobal_builtin (mg:=P.mg) (mb:=P.mb) ?_ hn ?_ ((P.hbi _ hm).trans hv) h) hd
 ·rw[S.glob]; exact P.hg.keeps (fun b o e=>S.ok.g0 b o e)
 ·rw[S.blt]; exact P.hb.keeps (fun b o e=>S.ok.g0 b o e)
theorem du(H:eU P wc ft n)(R:Room A n){k:Nat}{es:List IE}{xs:List Expr}{ds:List D}{Z:Heap}{s:Shared}(hc:gO (ckE k ns sc) es xs=true)(hd:es.mapM (evE ft n σ)=some ds)(S:SR P wc sc env ns own b Z σ ad s)
  {Q:List Value→Shared→Prop} {E} (h:∀vs s' Z',Go P Z s Z' s'→Al (gp P Z' s'.heap) vs ds→((es.all fun e=> !isBor e)=true→RepAll Z' vs ds)→Q vs s'):wpAny P.M A (spliced ((xs.map fun x=>eval x env).map fun t=>(false,t))) Q E s:=by
 refine iU (M:=fun es xs=>∀ds Z s,es.mapM (evE ft n σ)=some ds→SR P wc sc env ns own b Z σ ad s→∀Q:List Value→Shared→Prop,(∀vs s' Z',Go P Z s Z' s'→Al (gp P Z' s'.heap) vs ds→((es.all fun e=> !isBor e)=true→RepAll Z' vs ds)→Q vs s')→wpAny P.M A (spliced ((xs.map fun x=>eval x env).map fun t=>(false,t))) Q E s) ?_ ?_ es xs hc ds Z s hd S Q h
 ·intro ds Z s hd S Q h
  exact spliced_nil (h _ _ _ (Go.refl S.ok) (ax.inj hd▸ .nil) fun υ=>ax.inj hd▸ .nil)
 ·intro e x es xs hc υ ih ds Z s hd S Q h
  rw[List.mapM_cons]at hd
  refine bq (ao.mp hd) fun d h1 hd=>?_
  refine bq (ao.mp hd) fun dr h2 hd=>?_
  have hd:d::dr=ds:=ax.inj hd
  refine spliced_cons (H R hc h1 S fun v s1 Z1 g1 r1 f1=>?_)
  refine ih dr Z1 s1 h2 (S.go g1) _ fun vs s2 Z2 g2 r2 f2=>?_
  refine h _ _ _ (g1.trans g2) (hd▸ .cons (r1.go g1.ok g2) r2) fun hb=>?_
  have hb:=B3 (List.all_cons.symm.trans hb)
  exact hd▸ .cons ((f1 (by have:=hb.1; rwa[fc]at this)).le g2.le) (f2 hb.2)
end
noncomputable def eQ(o:Obj):Prop:=(∃nm,o.cls= .type nm)∧((∃ps,o.data= .fields ps)∨∃vs n,o.data= .seq vs n)
structure Loose(ns:Nms)(b:Bs)(Z:Heap)(σ:St)(ad:Nat→Addr)(h:Heap)(X:Addr):Prop where
 ob:∃o,h.get? X=some o∧eQ o
 bn:b.B.get? X=none
 zn:Z.get? X=none
 na:∀(i:Nat) (x:Str) (ds:List D),ns[i]? =some (some x)→σ[i]? =some (.mut ds)→ad i≠X
noncomputable def Bs.add(b:Bs)(X:Addr)(o:Obj):Bs:=⟨hput b.B X o,b.Z0⟩
noncomputable def iv(X:Addr)(h h':Heap):Prop:=∀c o,c≠X→h.get? c=some o→h'.get? c=some o
section
variable {P:Pm}{wc:Addr}{sc:Scope}{env:Env}{ns:Nms}{own:Nat}{b:Bs}{Z Z':Heap}{σ:St}{ad:Nat→Addr}{s s':Shared}{A:Around}
theorem eQ.notInst{o:Obj}{wc dx:Addr}(p:eQ o)(e:o=instObj wc dx):False:=by
 subst e; obtain⟨⟨nm,h⟩,_⟩:=p; cases h
theorem eQ.notDict{o:Obj}{es ep}(p:eQ o)(e:o.data= .dict es ep):False:=by
 obtain⟨υ,⟨ps,h⟩ | ⟨vs,n,h⟩⟩:=p<;>(rw[h]at e; cases e)
theorem eQ.notCell{o:Obj}{v}(p:eQ o)(e:o.data= .cell v):False:=by
 obtain⟨υ,⟨ps,h⟩ | ⟨vs,n,h⟩⟩:=p<;>(rw[h]at e; cases e)
theorem eQ.notNone{o:Obj}(p:eQ o):o.cls≠ .none:=by
 obtain⟨⟨nm,h⟩,υ⟩:=p; rw[h]; nofun
theorem VR.loose{L X:Addr}{B h h':Heap}{a:Addr}{w:Option Var}{ov:Option Value}{o:Obj}(r:VR P wc L B Z h a w ov)(hk:iv X h h')(hX:h.get? X=some o)(p:eQ o)
  (na:∀ds,w=some (.mut ds)→a≠X):VR P wc L B Z h' a w ov:=by
 exact r.imp (.refl _) (fun ds vs e l z q=>⟨l.elim fun n l=>⟨n,hk _ _ (na ds e) l⟩,z,q⟩) (fun υ x dx υ e=>hk _ _ (fun q=>by rw[q,hX]at e; exact p.notInst (ax.inj e)) e)
  fun υ dx es n υ e z b υ=>⟨hk _ _ (fun q=>by rw[q,hX]at e; exact p.notDict (congrArg Obj.data (ax.inj e))) e,z,b⟩
theorem SR.looseChange(S:SR P wc sc env ns own b Z σ ad s){X:Addr}(L:Loose ns b Z σ ad s.heap X){h':Heap}{tk:Nat}(hk:iv X s.heap h')(htk:0<tk):
  SR P wc sc env ns own b Z σ ad {s with heap:=h',toks:=tk}:=by
 refine bq L.ob fun o hX p=>?_
 have hT:X∉P.T:=S.ok.notT hX (.inl p.notNone)
 refine bq S.nss fun m hm hv=>?_
 have hm':h'.Ns env.locals m:=by
  refine pF hm fun o' es ep e hd r=>?_
  exact FY o' es ep (hk _ _ (fun q=>by rw[q,hX]at e; cases e; exact p.notDict hd) e) hd r
 have zk:Le Z h':=fun c o' e=>hk c o' (fun q=>by rw[q,L.zn]at e; cases e) (S.ok.z c o' e)
 refine⟨⟨zk,S.ok.g,S.ok.zT,P.to1 S.ok.tab (.refl _) (fun t ht=>?_),S.ok.gens,S.ok.os,htk⟩,S.kind,S.glob,S.blt,S.gl,fun c o' hc e=>hk c o' (fun q=>by rw[q,L.bn]at e; cases e) (S.base c o' hc e),S.zle,S.zb,S.lz,S.lb,
  ⟨m,hm',fun i x hi hx=>(hv i x hi hx).loose hk hX p (L.na i x · hi)⟩,fun i x hi=>?_,S.ownk,S.nd,S.cd,S.ai,S.dd,S.len,S.cf,S.lc⟩
 ·refine bq (P.to2 S.ok.tab t ht) fun o' e υ=>?_
  exact(hk _ _ (fun q=>hT (by rw[←q]; exact ht)) e).trans e.symm
 ·rcases S.cel i x hi with q | ⟨k,c,ov,h1,⟨oc,h2,hd⟩,h3,h4,h5⟩
  ·exact .inl q
  ·exact .inr ⟨k,c,ov,h1,⟨oc,hk _ _ (fun q=>by rw[q,hX]at h2; cases h2; exact p.notCell hd) h2,hd⟩,h3.loose hk hX p (L.na i x · hi),h4,h5⟩
theorem VR.base{L:Addr}{B B' h:Heap}{a:Addr}{w:Option Var}{ov:Option Value}(r:VR P wc L B Z h a w ov)
  (h1:∀ds,w=some (.mut ds)→B.get? a=none→B'.get? a=none) (h2:∀dx es n,h.get? dx=some (dictOf es n)→B.get? dx=none→B'.get? dx=none):VR P wc L B' Z h a w ov:=by
 exact r.imp (.refl _) (fun ds vs e l z q=>⟨l,z,h1 ds e q⟩) (fun υ υ υ υ e=>e) fun υ dx es n υ e z b υ=>⟨e,z,h2 dx es n e b⟩
theorem SR.addBase(S:SR P wc sc env ns own b Z σ ad s){X:Addr}(L:Loose ns b Z σ ad s.heap X){o:Obj}(ho:s.heap.get? X=some o):SR P wc sc env ns own (b.add X o) Z σ ad s:=by
 refine bq L.ob fun o' hX p=>?_
 rw[ho]at hX; cases hX
 have hf:o.isFreed=false:=(ba.mp ho).2
 refine bq S.nss fun m hm hv=>?_
 have hL:env.locals≠X:=fun q=>by
  refine pF hm fun o' es ep e hd r=>?_
  rw[q,ho]at e; cases e; exact p.notDict hd
 have kv:∀i x ov,ns[i]? =some (some x)→VR P wc env.locals b.B Z s.heap (ad i) σ[i]? ov→VR P wc env.locals (b.add X o).B Z s.heap (ad i) σ[i]? ov:=fun i x ov hi r=>
  r.base (fun ds e hb=>by unfold Bs.add; rw[cD (L.na i x ds hi e)]; exact hb) (fun dx es n e hb=>by
   unfold Bs.add; dsimp only
   rw[cD (fun q=>by rw[q,ho]at e; exact p.notDict (congrArg Obj.data (ax.inj e)))]; exact hb)
 refine⟨S.ok,S.kind,S.glob,S.blt,S.gl,fun c o' hc e=>?_,S.zle,fun a o' e=>?_,S.lz,?_,⟨m,hm,fun i x hi hx=>kv i x _ hi (hv i x hi hx)⟩,fun i x hi=>?_,S.ownk,S.nd,S.cd,S.ai,S.dd,S.len,S.cf,S.lc⟩
 ·by_cases q:c=X
  ·subst q
   unfold Bs.add at e; dsimp only at e
   rw[cM hf]at e; rw[ho]; exact e
  ·unfold Bs.add at e; dsimp only at e
   rw[cD q]at e; exact S.base c o' hc e
 ·by_cases q:a=X
  ·rw[q,L.zn]at e; cases e
  ·rcases S.zb a o' e with h | h
   ·exact .inl h
   ·refine .inr ?_
    unfold Bs.add; rw[cD q]; exact h
 ·unfold Bs.add; dsimp only; rw[cD hL]; exact S.lb
 ·rcases S.cel i x hi with q | ⟨k,c,ov,h1,⟨oc,h2,hd⟩,h3,h4,h5⟩
  ·exact .inl q
  ·have hc:c≠X:=fun q=>by rw[q,ho]at h2; cases h2; exact p.notCell hd
   refine .inr ⟨k,c,ov,h1,⟨oc,h2,hd⟩,kv i x _ hi h3,fun hh=>⟨(h4 hh).1,?_⟩,fun hh=>?_⟩
   ·unfold Bs.add; dsimp only; rw[cD hc]; exact(h4 hh).2
   ·unfold Bs.add; dsimp only; rw[cD hc]; exact h5 hh
theorem SR.dropBase{Z1:Heap}{σ1:St}{ad1:Nat→Addr}{s1:Shared}(S0:SR P wc sc env ns own b Z1 σ1 ad1 s1){X:Addr}{o:Obj}(hX:s1.heap.get? X=some o)(hB:b.B.get? X=none)(hZ:b.Z0.get? X=none)(p:eQ o)
  (S:SR P wc sc env ns own (b.add X o) Z σ ad s):SR P wc sc env ns own b Z σ ad s∧Loose ns b Z σ ad s.heap X∧s.heap.get? X=some o:=by
 have hf:o.isFreed=false:=(ba.mp hX).2
 have hT:X∉P.T:=S0.ok.notT hX (.inl p.notNone)
 have hb:(b.add X o).B.get? X=some o:=cM hf
 have hne:∀c,c≠X→(b.add X o).B.get? c=b.B.get? c:=fun c hc=>cD hc
 have hn:∀c,(b.add X o).B.get? c=none→b.B.get? c=none:=fun c hc=>by
  by_cases q:c=X
  ·rw[q]; exact hB
  ·rw[←hne c q]; exact hc
 have hXs:s.heap.get? X=some o:=S.base X o hT hb
 refine bq S.nss fun m hm hv=>?_
 have hz:Z.get? X=none:=by
  cases e:Z.get? X with
  | none=>rfl
  | some o'=>
   rcases S.zb X o' e with h | h
   ·have h9:b.Z0.get? X=some o':=h
    rw[hZ]at h9; cases h9
   ·rw[hb]at h; cases h
 have hslot:∀(i:Nat) (ds:List D),σ[i]? =some (.mut ds)→∀a ov,VR P wc env.locals (b.add X o).B Z s.heap a σ[i]? ov→a≠X:=fun i ds e a ov r q=>by
  rw[e]at r
  obtain⟨vs,υ,υ,υ,υ,h⟩:=r
  rw[q,hb]at h; cases h
 have kv:∀i ov,VR P wc env.locals (b.add X o).B Z s.heap (ad i) σ[i]? ov→VR P wc env.locals b.B Z s.heap (ad i) σ[i]? ov:=fun i ov r=>
  r.base (fun υ υ h=>hn _ h) (fun υ υ υ υ h=>hn _ h)
 refine ur (⟨S.ok,S.kind,S.glob,S.blt,S.gl,fun c o' hc e=>S.base c o' hc ?_,S.zle,fun a o' e=>?_,S.lz,hn _ S.lb,⟨m,hm,fun i x hi hx=>kv i _ (hv i x hi hx)⟩,fun i x hi=>?_,S.ownk,S.nd,S.cd,S.ai,S.dd,S.len,S.cf,S.lc⟩) (⟨⟨o,hXs,p⟩,hB,hz,fun i x ds e hq=>?_⟩) hXs
 ·rw[hne c (fun q=>by rw[q,hB]at e; cases e)]; exact e
 ·rcases S.zb a o' e with h | h
  ·exact .inl h
  ·exact .inr (hn _ h)
 ·rcases S.cel i x hi with q | ⟨k,c,ov,h1,h2,h3,h4,h5⟩
  ·exact .inl q
  ·refine .inr ⟨k,c,ov,h1,h2,kv i _ h3,fun hh=>⟨(h4 hh).1,hn _ (h4 hh).2⟩,fun hh=>?_⟩
   rcases S0.cel i x hi with q | ⟨k',c',ov',g1,g2,g3,g4,g5⟩
   ·rcases k with k | k<;>(rw[q]at k; cases k)
   ·rw[h1]at g1; cases g1; exact g5 hh
 ·refine bq (S.slot (A:={}) e) fun ov r υ=>?_
  exact hslot i _ hq _ _ r
noncomputable def sH:List String:=["list_iterator","tuple_iterator","range_iterator","str_ascii_iterator","list_reverseiterator"]
noncomputable def xB(o:Obj):Prop:=(∃nm,nm∈sH∧o.cls= .type nm)∧∃ps,o.data= .fields ps
theorem xB.plainish{o:Obj}(h:xB o):eQ o:=by obtain⟨⟨nm,_,h1⟩,h2⟩:=h; exact⟨⟨nm,h1⟩,.inl h2⟩
noncomputable def lp(P:Pm)(Z:Heap)(I:Addr)(h:Heap)(ds:List D):Prop:=
 ∃(fp:List Addr) (n i:Nat) (Pw:Nat→Value→Prop) (St:Nat→Heap→Prop),
  (∀A:Around,A.handled=none→Walks P.prog P.w A I fp [I] n Pw St)∧(∀j h,St j h→∃o,h.get? I=some o∧xB o)∧St i h∧i+ds.length=n∧
  (∀(j:Nat) d v,ds[j]? =some d→Pw (i+j) v→Rep Z v d)∧∀b∈fp,b≠I→∃o,Z.get? b=some o
theorem lp.obj{I:Addr}{h:Heap}{ds:List D}(it:lp P Z I h ds):∃o,h.get? I=some o∧xB o:=by
 refine B6 it fun fp n i Pw St W ho st hl hr hz=>?_
 exact ho _ _ st
theorem lp.frame{I:Addr}{h h':Heap}{ds:List D}(it:lp P Z I h ds)(k:Le Z h)(k':Le Z' h')(kz:Le Z Z')(hI:∀o,h.get? I=some o→h'.get? I=some o):lp P Z' I h' ds:=by
 refine B6 it fun fp n i Pw St W ho st hl hr hz=>?_
 refine i5_6 fp n i Pw St W ho ((W {} rfl).frame _ _ _ st fun b hb o e=>?_) hl (fun j d v hd hp=>(hr j d v hd hp).le kz) (fun b hb hne=>?_)
 ·by_cases q:b=I
  ·subst q; exact hI o e
  ·refine dh (hz b hb q) fun o' e'=>?_
   rw[k _ _ e']at e; cases e
   exact k' _ _ (kz _ _ e')
 ·refine dh (hz b hb hne) fun o e=>?_
  exact⟨o,kz _ _ e⟩
theorem lp.next{I:Addr}{d:D}{r:List D}(it:lp P Z I s.heap (d::r))(ok:Ok P Z s)(hh:A.handled=none){Q:Option Value→Shared→Prop}{E}
  (h:∀v h' tk,Rep Z v d→lp P Z I h' r→iv I s.heap h'→0<tk→Q (some v) {s with heap:=h',toks:=tk}):wpAny P.M A (pyNext (.ref I)) Q E s:=by
 refine B6 it fun fp n i Pw St W ho st hl hr hz=>?_
 refine wpAny_with_toks (n:=1) ok.tk ((W A hh).item i s _ _ (by simp only[ah]at hl; exact aq34 hl) st fun v h' tk hp st' hk ht=>?_)
 refine h v h' tk (hr 0 d v rfl hp) ⟨fp,n,i+1,Pw,St,W,ho,st',by simp only[ah]at hl; exact aq35 hl,fun j d' v' hd hp'=>hr (j+1) d' v' (by simpa using hd) (by rw[show i+(j+1)=i+1+j by exact F3]; exact hp'),hz⟩ (fun c o hc e=>hk c o (by simpa using hc) e) ht
theorem lp.done{I:Addr}(it:lp P Z I s.heap [])(ok:Ok P Z s)(hh:A.handled=none){Q:Option Value→Shared→Prop}{E}
  (h:∀h' tk,iv I s.heap h'→0<tk→Q none {s with heap:=h',toks:=tk}):wpAny P.M A (pyNext (.ref I)) Q E s:=by
 refine B6 it fun fp n i Pw St W ho st hl hr hz=>?_
 have e:i=n:=by simpa using hl
 subst e
 exact wpAny_with_toks (n:=1) ok.tk ((W A hh).done s _ _ st fun h' tk hk ht=>h h' tk (fun c o hc e=>hk c o (by simpa using hc) e) ht)
theorem lp.self{I:Addr}{ds:List D}(it:lp P Z I s.heap ds)(hh:A.handled=none){Q:Value→Shared→Prop}{E}(h:Q (.ref I) s):wpAny P.M A (pyIter (.ref I)) Q E s:=by
 refine B6 it fun fp n i Pw St W ho st hl hr hz=>?_
 exact(W A hh).self i s _ _ st h
noncomputable def Its(P:Pm)(A:Around)(Z:Heap)(s:Shared)(v:Value)(ds:List D):Prop:=
 ∀(Q:Value→Shared→Prop) (E:Value→Shared→Prop),(∀o,xB o→lp P Z s.heap.objs.size (s.heap.push o) ds→Q (.ref s.heap.objs.size) {s with heap:=s.heap.push o})→wpAny P.M A (pyIter v) Q E s
theorem Its.list{a:Addr}{vs:Array Value}{ds:List D}(l:Z.PlainList a vs)(r:RepAll Z vs.toList ds)(ok:Ok P Z s):Its P A Z s (.ref a) ds:=by
 intro Q E h
 have ls:=(eP ok.z l).isList
 have hlt:a<s.heap.objs.size:=by obtain⟨o,ho,_⟩:=id ls; exact cQ ho
 refine wpAny_pyIter_list ls (h _ ⟨⟨_,by decide,rfl⟩,_,rfl⟩ ⟨_,vs.size,0,_,_,fun A hh=>Walks.list hh _ a (Nat.ne_of_lt hlt) vs,fun j h st=>?_,⟨⟨_,aJ _ rfl,rfl,rfl⟩,?_⟩,?_,fun j d v hd hp=>?_,fun b hb hne=>?_⟩)
 ·refine fu st fun w4_1 υ=>?_; obtain⟨o,h1,h2,h3⟩:=w4_1
  exact⟨o,h1,⟨_,by decide,h2⟩,_,h3⟩
 ·obtain⟨o,ho,hc⟩:=ls; exact⟨o,aU _ ho,hc⟩
 ·have:=dk r; exact Ko this
 ·refine bq (r.get j hd) fun v' hv rv=>?_
  have:vs[0+j]? =some v':=by rw[cR,←bV]; exact hv
  rw[this]at hp; cases hp; exact rv
 ·rcases aP.mp hb with e | hb
  ·exact absurd e hne
  ·rw[ay.mp hb]; obtain⟨n,e⟩:=l; exact⟨_,e⟩
theorem Its.tuple{a:Addr}{vs:Array Value}{ds:List D}(l:IsTup Z a vs)(r:RepAll Z vs.toList ds)(ok:Ok P Z s):Its P A Z s (.ref a) ds:=by
 intro Q E h
 have ls:s.heap.IsTuple a vs:=lM ok.z l
 have hlt:a<s.heap.objs.size:=by obtain⟨o,ho,_⟩:=id ls; exact cQ ho
 refine wpAny_pyIter_tuple ls (h _ ⟨⟨_,by decide,rfl⟩,_,rfl⟩ ⟨_,vs.size,0,_,_,fun A hh=>Walks.tuple hh _ a (Nat.ne_of_lt hlt) vs,fun j h st=>?_,⟨⟨_,aJ _ rfl,rfl,rfl⟩,?_⟩,?_,fun j d v hd hp=>?_,fun b hb hne=>?_⟩)
 ·refine fu st fun w19_1 υ=>?_; obtain⟨o,h1,h2,h3⟩:=w19_1
  exact⟨o,h1,⟨_,by decide,h2⟩,_,h3⟩
 ·obtain⟨o,ho,hc⟩:=ls; exact⟨o,aU _ ho,hc⟩
 ·have:=dk r; exact Ko this
 ·refine bq (r.get j hd) fun v' hv rv=>?_
  have:vs[0+j]? =some v':=by rw[cR,←bV]; exact hv
  rw[this]at hp; cases hp; exact rv
 ·rcases aP.mp hb with e | hb
  ·exact absurd e hne
  ·rw[ay.mp hb]; obtain⟨o,e,_⟩:=l; exact⟨_,e⟩
theorem Its.str{x:Str}{t:Tok}(ha:x.cps.all (·<128)=true):Its P A Z s (.str x t) (x.cps.toList.map fun c=> .str ⟨#[c]⟩):=by
 intro Q E h
 refine wpAny_pyIter_ascii ha (h _ ⟨⟨_,by decide,rfl⟩,_,rfl⟩ ⟨_,x.cps.size,0,_,_,fun A hh=>Walks.strAscii hh _ x t,fun j h st=>?_,⟨_,aJ _ rfl,rfl,rfl⟩,by simp,fun j d v hd hp=>?_,fun b hb hne=>?_⟩)
 ·refine mX st fun o h1 h2 h3=>?_
  exact⟨o,h1,⟨_,by decide,h2⟩,_,h3⟩
 ·refine x2_2 hp fun c u hc e34_1=>?_; subst e34_1
  rw[cR]at hc
  rw[aW,bV,hc]at hd
  cases hd; exact Rep.str _ _
 ·exact absurd (ay.mp hb) hne
theorem Its.range{r:Addr}{a b c:Int}{t u v:Tok}{n:Nat}(hr:IsRange s.heap r a b c t u v)(hs:Builtin.Range.small a b c=true)(hn:Builtin.Range.rangeSize a b c=(n:Int)):
  Its P A Z s (.ref r) ((rangeInts a c n).map .int):=by
 intro Q E h
 refine wpAny_pyIter_range hr hs (h _ ⟨⟨_,by decide,rfl⟩,_,rfl⟩ ⟨_,n,0,_,_,fun A hh=>Walks.range hh _ a c n,fun j h st=>⟨_,st,⟨_,by decide,rfl⟩,_,rfl⟩,?_,by rw[ag,rangeInts_length]; exact aq38,fun j d v hd hp=>?_,fun b hb hne=>?_⟩)
 ·refine(?_:IsRangeIter _ _ _ _ _)
  rw[hn]; simpa using aJ _ rfl
 ·refine dh hp fun tk e45_1=>?_; subst e45_1
  rw[cR]
  rw[aW]at hd
  have hj:j<n:=by
   rcases bS j n with q | q
   ·exact q
   ·rw[bj (by rw[rangeInts_length]; exact q)]at hd; cases hd
  rw[rangeInts_get hj]at hd
  cases hd; exact Rep.int _ _
 ·exact absurd (ay.mp hb) hne
end
section
variable {P:Pm}{wc:Addr}{sc:Scope}{env:Env}{ns:Nms}{own:Nat}{b:Bs}{Z Z':Heap}{σ:St}{ad:Nat→Addr}{s s':Shared}{A:Around}{ft:FT}{n:Nat}
theorem Br:∀b:Bi,bootBuiltins (aa (pB b))=some (biVal b)
 | .len=>by decide+kernel
 | .lst=>by decide+kernel
 | .tup=>by decide+kernel
 | .max1=>by decide+kernel
 | .max2=>by decide+kernel
 | .sum=>by decide+kernel
 | .abs=>by decide+kernel
 | .divmod=>by decide+kernel
 | .lenset=>by decide+kernel
 | .range=>by decide+kernel
 | .reversed=>by decide+kernel
theorem kw_nil{pos:Pos}:backToKw pos (keywordEach [] env)=[]:=rfl
theorem Ej{k:Nat}{bi:Bi}{es:List IE}{e:Expr}(h:ckE (k+1) ns sc (.bi bi es) e=true)(hb:bi≠ .lenset):
  ∃x np xs pos,e= .Call (.Name x np) xs [] pos∧hK sc x (pB bi)=true∧gO (ckE k ns sc) es xs=true∧es.length<20:=
 kIte h (fun q υ=>absurd (by cases bi<;>first | rfl | exact Bool.noConfusion q) hb) fun υ h=>kCall' (show ckBi (ckE k ns sc) sc bi es e=true from h) fun υ υ υ υ h=>dC h fun υ υ h=>k0' h fun h=>bA3 h fun h1 h2 h3=>i4_4 _ _ _ _ rfl h1 h2 (of_decide_eq_true h3)
theorem ou(F:Facts P wc)(S:SR P wc sc env ns own b Z σ ad s){bi:Bi}{x:Str}(hx:hK sc x (pB bi)=true){np pos:Pos}{xs:List Expr}(hs:∀e∈xs,fY e=true){Q:Value→Shared→Prop}{E}
  (h:wpAny P.M A (spliced ((xs.map fun x=>eval x env).map fun t=>(false,t))) (fun vs s1=>wpAny P.M A (call (biVal bi) vs) Q E s1) E s):wpAny P.M A (eval (.Call (.Name x np) xs [] pos) env) Q E s:=by
 refine wpAny_Call_ofName (S.readB hx (F.bi _ ?_) (Br bi) ?_ ?_ ?_)
 ·cases bi<;>decide
 ·rw[bF hs]
  have e:(xs.map fun e=>((false,eval e env):Bool×Sem Value))=(xs.map fun x=>eval x env).map fun t=>(false,t):=by rw[bw]; rfl
  rw[e,kw_nil]
  generalize((xs.map fun x=>eval x env))=ts at h⊢
  have h1:∀id,biVal bi= .builtin id→wpAny P.M A (callWith pos (biVal bi) [] (ts.map fun t=>(false,t)) []) Q E s:=fun id q=>by
   rw[q]at h⊢; exact cZ (first:=[]) h
  have h2:∀id,biVal bi= .type id→wpAny P.M A (callWith pos (biVal bi) [] (ts.map fun t=>(false,t)) []) Q E s:=fun id q=>by
   rw[q]at h⊢; exact k8 (first:=[]) h
  generalize hbv:biVal bi=bv at h1 h2⊢
  cases bi<;>first | exact h1 _ hbv.symm | exact h2 _ hbv.symm
 ·cases bi<;>decide+kernel
 ·cases bi<;>decide+kernel
theorem eH{k:Nat}{es:List IE}{xs:List Expr}(h:gO (ckE k ns sc) es xs=true):∀e∈xs,fY e=true:=fun e he=>by
 obtain⟨ie,υ,h2⟩:=xx h e he
 exact fE h2
theorem qP{a b:Int}(ha: -(2^62)≤a)(ha':a<2^62)(hb: -(2^62)≤b)(hb':b<2^62):Builtin.Range.rangeSize a b (-1)=((a-b).toNat:Int)∧Builtin.Range.small a b (-1)=true:=by
 have e:Builtin.Range.rangeSize a b (-1)=((a-b).toNat:Int):=by
  unfold Builtin.Range.rangeSize
  simp only[show ¬((-1:Int)>0) by decide,if_false,show -(-1:Int)=1 by decide,Int.ediv_one]
  split<;>(first | exact Jt (by assumption) | exact Js (by assumption))
 refine⟨e,?_⟩
 unfold Builtin.Range.small
 rw[e]
 simp only[Builtin.Range.rangeFitsLong,aV,Bool.or_eq_true,decide_eq_true_eq,beq_iff_eq,show ¬((-1:Int)>0) by decide,if_false]
 exact Jr ha hb ha' hb'
theorem kR(lo hi:Int):fH lo hi 1=rangeInts lo 1 (hi-lo).toNat:=by
 unfold fH rangeInts
 rw[if_pos rfl]
 simp
theorem pU(lo hi:Int):fH lo hi (-1)=rangeInts lo (-1) (lo-hi).toNat:=by
 unfold fH rangeInts
 rw[if_neg (by decide)]
 refine bQ fun k υ=>by exact Jq
theorem Its.ofRep{v:Value}{d:D}{ds:List D}(r:Rep Z v d)(ok:Ok P Z s)(h:zh d=some ds):Its P A Z s v ds:=by
 cases d with
 | list xs=>
  obtain⟨υ,rfl⟩:=oif h
  obtain⟨a,vs,rfl,l,rr⟩:=r.list_inv
  exact Its.list l rr ok
 | tuple xs=>
  obtain⟨υ,rfl⟩:=oif h
  obtain⟨a,vs,rfl,l,rr⟩:=r.tuple_inv
  exact Its.tuple l rr ok
 | str x=>
  obtain⟨hm,rfl⟩:=oif h
  obtain⟨t,rfl⟩:=r.str_inv
  exact Its.str hm.2
 | _=>cases h
noncomputable def F4(P:Pm)(A:Around)(Z:Heap)(s:Shared)(t:Sem Value)(ds:List D):Prop:=
 ∀(Q:Value→Shared→Prop) (E:Value→Shared→Prop),(∀I s' Z',Go P Z s Z' s'→lp P Z' I s'.heap ds→s.heap.get? I=none→Z'.get? I=none→Q (.ref I) s')→
  wpAny P.M A t (fun x s₁=>wpAny P.M A (pyIter x) Q E s₁) E s
theorem Its.src{s1:Shared}{v:Value}{ds:List D}(it:Its P A Z' s1 v ds)(g:Go P Z s Z' s1){Q:Value→Shared→Prop}{E:Value→Shared→Prop}
  (h:∀I s' Z',Go P Z s Z' s'→lp P Z' I s'.heap ds→s.heap.get? I=none→Z'.get? I=none→Q (.ref I) s'):wpAny P.M A (pyIter v) Q E s1:=by
 refine it _ _ fun o ho ita=>?_
 have g':Go P Z' s1 Z' {s1 with heap:=s1.heap.push o}:=Go.push' g.ok o
 refine h _ _ Z' (g.trans g') ita ?_ (g.ok.znone (get?_size _))
 cases e:s.heap.get? s1.heap.objs.size with
 | none=>rfl
 | some o'=>
  exfalso
  obtain⟨o2,h2,h3⟩:=ita.obj
  by_cases hT:s1.heap.objs.size∈P.T
  ·obtain⟨o3,h4,υ⟩:=P.to2 g.ok.tab _ hT
   rw[get?_size]at h4; cases h4
  ·have:=g.keep _ _ hT e
   rw[get?_size]at this; cases this
theorem IC{x:IE}(h:(!isBor x)=true):([x].all fun e=> !isBor e)=true:=by
 rw[List.all_cons,h]; rfl
theorem tw{a:Int}(h: -few≤a∧a<few): -(2^62)≤a∧a<2^62:=by
 have e:((few:Nat):Int)=1048576:=rfl
 have k:(2:Int)^62=4611686018427387904:=by decide
 exact Jp h e
section
variable {k:Nat}{es:List IE}{e:Expr}{items ds:List D}{vs:List Value}
theorem q9(h:mo ds=some items):(∃a,ds=[.int a]∧(-few≤a∧a<few)∧items=(fH 0 a 1).map .int)∨(∃a b,ds=[.int a,.int b]∧(-few≤a∧a<few)∧(-few≤b∧b<few)∧items=(fH a b 1).map .int)∨
  (∃a b,ds=[.int a,.int b,.int (-1)]∧(-few≤a∧a<few)∧(-few≤b∧b<few)∧items=(fH a b (-1)).map .int):=by
 cases ds with
 | nil=>cases h
 | cons x t=>
  cases x with
  | int a=>
   cases t with
   | nil=>obtain⟨hh,rfl⟩:=oif h; exact .inl ⟨a,rfl,hh,rfl⟩
   | cons y t=>
    cases y with
    | int b=>
     cases t with
     | nil=>obtain⟨hh,rfl⟩:=oif h; exact .inr (.inl ⟨a,b,rfl,⟨hh.1,hh.2.1⟩,hh.2.2,rfl⟩)
     | cons z t=>
      cases z with
      | int c=>
       cases t with
       | nil=>
        obtain⟨hh,rfl⟩:=oif h
        obtain⟨rfl,h1,h2,h3⟩:=hh
        exact .inr (.inr ⟨a,b,rfl,⟨h1,h2⟩,h3,rfl⟩)
       | cons _ _=>cases h
      | _=>cases h
    | _=>cases h
  | _=>cases h
theorem uQ(ok:Ok P Z s)(r:Al (gp P Z s.heap) vs ds)(h:mo ds=some items):F4 P A Z s (call (.type "range") vs) items:=by
 intro Q E k
 rcases q9 h with⟨a,rfl,ha,rfl⟩ | ⟨a,b,rfl,ha,hb,rfl⟩ | ⟨a,b,rfl,ha,hb,rfl⟩
 ·obtain⟨υ,rfl,q⟩:=r.one1
  obtain⟨t,rfl⟩:=q.int
  have g:=Go.push ok {cls:= .type "range",data:= .fields #[.int 0 s.toks,.int a t,.int 1 (s.toks+1)]} (s.toks+1+1) (br _)
  have ha:=tw ha
  refine call_range_1 ?_
  rw[kR]at k
  exact(Its.range (IsRange.new ..) (small_one (by decide) (by decide) ha.1 ha.2) (rangeSize_nat _ _)).src g k
 ·obtain⟨υ,υ,rfl,r1,r2⟩:=r.two2
  obtain⟨t,rfl⟩:=r1.int
  obtain⟨u,rfl⟩:=r2.int
  have g:=Go.push ok {cls:= .type "range",data:= .fields #[.int a t,.int b u,.int 1 s.toks]} (s.toks+1) (br _)
  have ha:=tw ha
  have hb:=tw hb
  refine call_range_2 ?_
  rw[kR]at k
  exact(Its.range (IsRange.new ..) (small_one ha.1 ha.2 hb.1 hb.2) (rangeSize_nat _ _)).src g k
 ·cases r with | cons r0 r=>
  obtain⟨υ,υ,rfl,r1,r2⟩:=r.two2
  obtain⟨t,rfl⟩:=r0.int
  obtain⟨u,rfl⟩:=r1.int
  obtain⟨w,rfl⟩:=r2.int
  have g:=Go.push ok {cls:= .type "range",data:= .fields #[.int a t,.int b u,.int (-1) w]} s.toks ok.tk
  have ha:=tw ha
  have hb:=tw hb
  have sm:=qP ha.1 ha.2 hb.1 hb.2
  refine call_range_3 (by decide) ?_ (Or.inl (PyProof.noPylong_of_log2 (by decide+kernel)))
  rw[pU]at k
  exact(Its.range (IsRange.new ..) sm.2 sm.1).src g k
theorem ng(ok:Ok P Z s){v:Value}{xs:List D}(r:Rep Z v (.list xs))(hz:xs.length≤few):F4 P A Z s (call (.type "reversed") [v]) xs.reverse:=by
 intro Q E h
 obtain⟨a,us,rfl,l,rr⟩:=r.list_inv
 have ls:=(eP ok.z l).isList
 have hs:=dk rr
 have hlt:a<s.heap.objs.size:=by obtain⟨o,ho,_⟩:=ls; exact cQ ho
 refine call_reversed_list ls ?_
 have hit:Heap.IsRevIter (s.heap.push (revObj a ((us.size:Int)-1))) s.heap.objs.size a ((us.size:Int)-1):=⟨_,aJ _ rfl,rfl,rfl⟩
 refine wpAny_pyIter_revIter hit ?_
 refine h _ _ Z (Go.push' ok _) ⟨_,us.size,0,_,_,fun A hh=>Walks.listRev hh _ a (Nat.ne_of_lt hlt) us,fun j h st=>?_,⟨bK _,by simpa using hit,?_⟩,?_,fun j d v hd hp=>?_,fun b hb hne=>?_⟩ (get?_size _) (ok.znone (get?_size _))
 ·obtain⟨υ,⟨o,h1,h2,h3⟩,υ⟩:=st
  exact⟨o,h1,⟨_,by decide,h2⟩,_,h3⟩
 ·obtain⟨o,ho,hc⟩:=ls; exact⟨o,aU _ ho,hc⟩
 ·rw[List.length_reverse]; exact Ko hs
 ·have hj:j<xs.length:=by
   rcases bS j xs.length with q | q
   ·exact q
   ·rw[bj (by simpa using q)]at hd; cases hd
  rw[List.getElem?_reverse hj]at hd
  obtain⟨v',hv,rv⟩:=rr.get _ hd
  rw[show us.size-1-(0+j)=xs.length-1-j by exact Jo hs,←bV,hv]at hp
  cases hp; exact rv
 ·rcases aP.mp hb with e | hb
  ·exact absurd e hne
  ·rw[ay.mp hb]; obtain⟨n,e⟩:=l; exact⟨_,e⟩
theorem Go.older(g:Go P Z s Z' s'){a:Addr}(h:s'.heap.get? a=none):s.heap.get? a=none:=by
 cases e:s.heap.get? a with
 | none=>rfl
 | some o=>
  by_cases hT:a∈P.T
  ·obtain⟨o3,h4,υ⟩:=P.to2 g.ok.tab _ hT
   rw[h]at h4; cases h4
  ·rw[g.keep _ _ hT e]at h; cases h
theorem F4.after{t:Sem Value}{Z1:Heap}{s1:Shared}(x:F4 P A Z1 s1 t items)(g:Go P Z s Z1 s1){Q:Value→Shared→Prop}{E:Value→Shared→Prop}(h:∀I s' Z',Go P Z s Z' s'→lp P Z' I s'.heap items→s.heap.get? I=none→Z'.get? I=none→Q (.ref I) s'):
  wpAny P.M A t (fun x s₁=>wpAny P.M A (pyIter x) Q E s₁) E s1:=x Q E fun I s' Z' g' it h1 h2=>h I s' Z' (g.trans g') it (g.older h1) h2
theorem asRange_eq{ie:IE}(h:asRange ie=some es):ie= .bi .range es:=by
 cases ie with
 | bi b xs=>
  have h:(if b= .range then some xs else none)=some es:=h
  by_cases e:b= .range
  ·rw[e,ax.inj ((if_pos e).symm.trans h)]
  ·cases(if_neg e).symm.trans h
 | _=>cases h
theorem asRev_eq{ie x:IE}(h:asRev ie=some x):ie= .bi .reversed [x]:=by
 cases ie with
 | bi b xs=>
  by_cases e:b= .reversed
  ·subst e
   cases xs with
   | nil=>cases h
   | cons y t=>
    cases t with
    | nil=>rw[ax.inj (show some y=some x from h)]
    | cons _ _=>cases h
  ·cases(if_neg e).symm.trans h
 | _=>cases h
theorem yY{d:D}(h:Gu d=some items):∃xs,d= .list xs∧xs.length≤few∧items=xs.reverse:=by
 cases d with
 | list xs=>obtain⟨hz,rfl⟩:=oif h; exact⟨xs,rfl,hz,rfl⟩
 | _=>cases h
theorem xI(F:Facts P wc)(H:eU P wc ft n)(R:Room A n){b':Bi}(hb:b'≠ .lenset)(hc:ckE k ns sc (.bi b' es) e=true)(hm:es.mapM (evE ft n σ)=some ds)(S:SR P wc sc env ns own b Z σ ad s){Q:Value→Shared→Prop}{E:Value→Shared→Prop}
  (h:∀vs s1 Z1,Go P Z s Z1 s1→Al (gp P Z1 s1.heap) vs ds→((es.all fun e=> !isBor e)=true→RepAll Z1 vs ds)→wpAny P.M A (call (biVal b') vs) Q E s1):wpAny P.M A (eval e env) Q E s:=by
 cases k with
 | zero=>exact kno hc
 | succ k=>
  obtain⟨x,np,xs,pos,rfl,hx,ha,υ⟩:=Ej hc hb
  exact ou F S hx (eH ha) (du H R ha hm S h)
theorem iD(F:Facts P wc)(H:eU P wc ft n)(R:Room A n){ie:IE}(hc:ckE k ns sc ie e=true)(hok:jR ie=true)(hv:jF (evE ft n) σ ie=some items)(S:SR P wc sc env ns own b Z σ ad s):
  F4 P A Z s (eval e env) items:=by
 intro Q E h
 unfold jF at hv
 unfold jR at hok
 cases h1:asRange ie with
 | some es=>
  rw[h1]at hv
  cases asRange_eq h1
  exact ov1 hv fun ds hm hv=>xI F H R (b':= .range) nofun hc hm S fun vs s1 Z1 g1 al υ=>(uQ g1.ok al hv).after g1 h
 | none=>
  rw[h1]at hv
  cases h2:asRev ie with
  | some x=>
   rw[h2]at hv hok
   cases asRev_eq h2
   refine ov1 hv fun d hm hv=>?_
   obtain⟨xs,rfl,hz,rfl⟩:=yY hv
   refine xI F H R (b':= .reversed) nofun hc (ds:=[.list xs]) (Pl.aS hm rfl) S fun vs s1 Z1 g1 υ f1=>?_
   have r:=f1 (IC hok)
   cases r with | cons r1 r2=>cases r2 with | nil=>
   exact(ng g1.ok r1 hz).after g1 h
  | none=>
   rw[h2]at hv hok
   exact ov1 hv fun d hd hv=>H R hc hd S fun v s1 Z1 g1 υ r1=>(Its.ofRep (r1 (kL hok)) g1.ok hv).src g1 h
end
theorem SR.looseIt(S:SR P wc sc env ns own b Z σ ad s)(S':SR P wc sc env ns own b Z' σ ad s'){I:Addr}{ds:List D}(it:lp P Z' I s'.heap ds)(h1:s.heap.get? I=none)(h2:Z'.get? I=none):Loose ns b Z' σ ad s'.heap I:=by
 obtain⟨o,ho,hi⟩:=it.obj
 have hT:I∉P.T:=S'.ok.notT ho (.inl hi.plainish.notNone)
 refine⟨⟨o,ho,hi.plainish⟩,?_,h2,fun i x ds hx hq e=>?_⟩
 ·cases e:b.B.get? I with
  | none=>rfl
  | some o'=>have:=S.base _ _ hT e; rw[h1]at this; cases this
 ·obtain⟨ov,r,υ⟩:=S.slot (A:={}) hx
  rw[hq]at r
  obtain⟨vs,υ,⟨k,l⟩,υ⟩:=r
  rw[e,h1]at l; cases l
end
noncomputable def rlk(env:Env)(x:Str)(k:NameKind):NameKind:=if(k== .free&&env.scope.kind== .function&&env.kindOf x==some .cell) then .cell else k
theorem kJ(env:Env)(l:List (Str×NameKind))(x:Str):
  (l.map fun(n,k)=>if(k==NameKind.free&&env.scope.kind== .function&&env.kindOf n==some .cell) then(n,NameKind.cell) else(n,k)).lookup x=(l.lookup x).map (rlk env x):=by
 have key:∀g:Str×NameKind→Str×NameKind,(∀p,g p=(p.1,rlk env p.1 p.2))→(l.map g).lookup x=(l.lookup x).map (rlk env x):=fun g hg=>by
  induction l with
  | nil=>rfl
  | cons p r ih=>
   rw[aB,hg p]
   exact if e:x=p.1 then(lkY (p:=(p.1,rlk env p.1 p.2)) e).trans ((congrArg (Option.map _) (lkY e)).trans (e▸rfl)).symm else(lkN (p:=(p.1,rlk env p.1 p.2)) e).trans (ih.trans (congrArg (Option.map _) (lkN e)).symm)
 exact key _ fun p=>by
  cases p; unfold rlk; dsimp only; split<;>rfl
theorem so(scope:Scope)(env cenv:Env)(h:cenv.scope=relabel scope env)(x:Str):cenv.kindOf x=(scope.names.lookup x).map (rlk env x):=by
 unfold Env.kindOf
 rw[h]
 exact kJ env scope.names x
theorem q6{env:Env}{x:Str}{k:NameKind}(h:k≠ .free):rlk env x k=k:=by
 unfold rlk
 cases k<;>first | rfl | exact absurd rfl h
theorem uW(env:Env)(x:Str):rlk env x .free= .cell∨rlk env x .free= .free:=by
 unfold rlk; split
 ·exact .inl rfl
 ·exact .inr rfl
theorem fS(names:List (Str×NameKind)):∀(n:Nat) (acc:List (Str×Addr)),cellsFrom n names acc=cellsFrom n names []++acc:=by
 induction names with
 | nil=>exact fun υ υ=>rfl
 | cons p r ih=>
  intro n acc
  unfold cellsFrom
  split
  ·rw[ih (n+1) ((p.1,n)::acc),ih (n+1) [(p.1,n)],bo]; rfl
  ·exact ih n acc
theorem iS(names:List (Str×NameKind)):∀(n:Nat) (x:Str),(x,NameKind.cell)∈names→∃c,(x,c)∈cellsFrom n names []:=by
 induction names with
 | nil=>exact fun υ υ h=>by cases h
 | cons p r ih=>
  intro n x h
  unfold cellsFrom
  rcases aP.mp h with e | h
  ·rw[←e,if_pos (show(NameKind.cell==NameKind.cell)=true from rfl),fS]
   exact⟨n,dQ _ (ay.mpr rfl)⟩
  ·split
   ·rw[fS]
    exact(ih (n+1) x h).elim fun c hc=>⟨c,cV _ hc⟩
   ·exact ih n x h
theorem ig(names:List (Str×NameKind)):∀(n:Nat) (x:Str) (c:Addr),(x,c)∈cellsFrom n names []→(x,NameKind.cell)∈names:=by
 induction names with
 | nil=>exact fun _ _ _ h=>by cases h
 | cons p r ih=>
  intro n x c h
  unfold cellsFrom at h
  split at h
  ·rename_i hk
   rw[fS]at h
   refine(dm.mp h).elim (fun h=> .tail _ (ih _ x c h)) fun h=>?_
   exact(Prod.ext (congrArg Prod.fst (ay.mp h):x=p.1) (eq_of_beq hk).symm:(x,NameKind.cell)=p)▸ .head _
  ·exact .tail _ (ih _ x c h)
theorem gJ{α:Type}{l:List (Str×α)}{x:Str}{c:α}(h:(x,c)∈l):∃c',l.lookup x=some c':=by
 induction l with
 | nil=>cases h
 | cons p r ih=>exact if e:x=p.1 then⟨_,lkY e⟩ else(ih ((aP.mp h).resolve_left fun q=>e (congrArg Prod.fst q))).elim fun c' q=>⟨c',(lkN e).trans q⟩
theorem jZ{α:Type}{l m:List (Str×α)}{x:Str}{c:α}(h:l.lookup x=some c):(l++m).lookup x=some c:=by
 induction l with
 | nil=>cases h
 | cons p r ih=>exact lkE h (fun e q=>(lkY e).trans q.symm) fun q e=>(lkN e).trans (ih q)
theorem jY{α:Type}{l m:List (Str×α)}{x:Str}(h:l.lookup x=none):(l++m).lookup x=m.lookup x:=by
 induction l with
 | nil=>rfl
 | cons p r ih=>exact lkE h (fun e q=>by cases q) fun q e=>(lkN e).trans (ih q)
theorem ju{α:Type}{l:List (Str×α)}{x:Str}{c:α}(hn:(l.map (·.1)).Nodup)(h:(x,c)∈l):l.lookup x=some c:=by
 induction l with
 | nil=>cases h
 | cons p r ih=>
  have hn:=ej.mp hn
  exact(aP.mp h).elim (fun e=>e▸lkY rfl) fun h=>(lkN fun e=>hn.1 (bg.mpr ⟨_,h,e⟩)).trans (ih hn.2 h)
noncomputable def ke(env:Env)(p:Str×NameKind)(cs:List (Str×Addr)):Sem (ForInStep (List (Str×Addr))):=
 if(p.2==NameKind.free)=true then(do let c ←cellOf env p.1; pure (ForInStep.yield ((p.1,c)::cs))) else pure (ForInStep.yield cs)
theorem mN(env:Env)(names:List (Str×NameKind)):∀(acc:List (Str×Addr)),(∀x,(x,NameKind.free)∈names→∃c,env.cells.lookup x=some c)→
  ∃cl,forIn names acc (ke env)=pure cl∧((∀p∈acc,env.cells.lookup p.1=some p.2)→∀p∈cl,env.cells.lookup p.1=some p.2)∧(∀p∈acc,p∈cl)∧(∀x,(x,NameKind.free)∈names→∃c,(x,c)∈cl):=by
 induction names with
 | nil=>exact fun acc υ=>⟨acc,List.forIn_nil,fun h=>h,fun υ h=>h,fun υ h=>by cases h⟩
 | cons q r ih=>
  intro acc h
  rw[eX]
  by_cases hk:(q.2==NameKind.free)=true
  ·have eq:(q.1,NameKind.free)=q:=Prod.ext rfl (eq_of_beq hk).symm
   refine dh (h q.1 (eq▸ .head _)) fun c hc=>?_
   refine B9 (ih ((q.1,c)::acc) fun x hx=>h x (.tail _ hx)) fun cl e h1 h2 h3=>?_
   refine FZ cl ?_ (fun ha=>h1 fun p hp=>(aP.mp hp).elim (fun e=>e▸hc) (ha p)) (fun p hp=>h2 p (.tail _ hp)) (fun x hx=>(aP.mp hx).elim (fun e=>⟨c,h2 _ ((congrArg Prod.fst e:x=q.1)▸ .head _)⟩) (h3 x))
   have e1:ke env q acc=pure (ForInStep.yield ((q.1,c)::acc)):=by
    have e2:cellOf env q.1=pure c:=by unfold cellOf; rw[hc]
    unfold ke; rw[if_pos hk]; rw[e2]; rfl
   rw[e1]; exact e
  ·refine B9 (ih acc fun x hx=>h x (.tail _ hx)) fun cl e h1 h2 h3=>?_
   refine FZ cl ?_ h1 h2 (fun x hx=>(aP.mp hx).elim (fun e=>absurd (show(q.2==NameKind.free)=true from e▸rfl) hk) (h3 x))
   have e1:ke env q acc=pure (ForInStep.yield acc):=by unfold ke; rw[if_neg hk]
   rw[e1]; exact e
theorem j9{scope:Scope}{env:Env}(h:∀x,(x,NameKind.free)∈scope.names→∃c,env.cells.lookup x=some c):
  ∃cl,closureFor scope env=pure cl∧(∀p∈cl,env.cells.lookup p.1=some p.2)∧(∀x,(x,NameKind.free)∈scope.names→cl.lookup x=env.cells.lookup x):=by
 refine B9 (mN env scope.names [] h) fun cl e h1 υ h3=>?_
 have hp:=h1 fun υ h=>nomatch h
 refine Ae cl ?_ hp (fun x hx=>?_)
 ·have e0:closureFor scope env=(forIn scope.names [] (ke env)>>=fun cs=>pure cs):=by
   unfold closureFor
   refine congrArg (fun f=>forIn scope.names [] f>>=fun cs=>pure cs) ?_
   funext p cs
   obtain⟨n,k⟩:=p
   unfold ke
   rfl
  rw[e0,e]; rfl
 ·refine dh (h3 x hx) fun c hc=>?_
  refine dh (gJ hc) fun c' hc'=>?_
  rw[hc',hp _ (mem_of_lookup hc')]
section
variable {M:Model}{A:Around}{E:Value→Shared→Prop}{s:Shared}
theorem iy{scope:Scope}{globals:Addr}{cl:List (Str×Addr)}{qual:Str}{env:Env}{Q:Env→Shared→Prop}
  (h:∀cenv,cenv={scope:=scope,locals:=s.heap.objs.size,globals:=globals,cells:=cellsFrom (s.heap.objs.size+1) scope.names []++cl,qual:=qual,func:=none,code:=env.code,frame:=env.frame,builtins:=env.builtins}→
   Q cenv {s with heap:=pushCells (s.heap.push {cls:= .type "dict",data:= .dict #[]}) scope.names}):
  wpAny M A (newFunctionEnv scope globals cl [] qual none .none (some env)) Q E s:=by
 simp only[newFunctionEnv,Option.isSome_some,if_true]
 refine wpAny_bind (wpAny_alloc ?_)
 refine wpAny_bind (wpAny_layCells _ (fun name kind cells=>by cases hkc:kind==NameKind.cell<;>simp[hkc]) _ _ _ _ ?_)
 rw[show({s with heap:=s.heap.push {cls:= .type "dict",data:= .dict #[]}}:Shared).heap.objs.size=s.heap.objs.size+1 from df ..]
 rw[fS]
 exact wpAny_bind (aD (aD (h _ rfl)))
end
theorem jr(free:List Nat)(ns:Nms)(own:List String):(fB free ns own).length=ns.length+own.length:=by simp[fB]
theorem nF(free:List Nat)(σ:St)(m:Nat):(mask free σ m).length=σ.length+m:=by simp[mask]
theorem gU{free:List Nat}{ns:Nms}{own:List String}{i:Nat}{x:Str}(h:(fB free ns own)[i]? =some (some x)):
  (i<ns.length∧i∈free∧ns[i]? =some (some x))∨(ns.length≤i∧∃y∈own,x=aa y):=by
 unfold fB at h
 rcases bS i ns.length with hi | hi
 ·rw[cn (by simpa using hi),aW,List.getElem?_range hi]at h
  simp only[Option.map_some,ax.injEq]at h
  split at h
  ·rename_i hf
   refine .inl ⟨hi,by simpa using hf,?_⟩
   split at h
   ·rename_i y e; rw[e,h]
   ·cases h
  ·cases h
 ·rw[bM (by simpa using hi),aW]at h
  refine .inr ⟨hi,?_⟩
  refine bq (aQ.mp h) fun y e hy=>?_
  cases hy; exact⟨y,bD e,rfl⟩
theorem iL{free:List Nat}{σ:St}{m i:Nat}{w:Var}(h:(mask free σ m)[i]? =some w):w= .u0∨∃d,w= .fro d∧i∈free∧σ[i]? =some (.fro d):=by
 unfold mask at h
 rcases bS i σ.length with hi | hi
 ·rw[cn (by simpa using hi),aW,List.getElem?_range hi]at h
  simp only[Option.map_some,ax.injEq]at h
  split at h
  ·rename_i hf
   split at h
   ·rename_i d e; exact .inr ⟨d,h.symm,by simpa using hf,e⟩
   ·exact .inl h.symm
  ·exact .inl h.symm
 ·rw[bM (by simpa using hi)]at h
  have:=bD h
  exact .inl (List.eq_of_mem_replicate this)
theorem vG{free:List Nat}{σ:St}{m i:Nat}(h1:σ.length≤i)(h2:i<σ.length+m):(mask free σ m)[i]? =some .u0:=by
 unfold mask
 rw[bM (by simpa using h1),List.getElem?_replicate,if_pos (by simp; exact aq29 h2 h1)]
theorem gT{l:Nms}(h:(l.filterMap id).Nodup):∀(i j:Nat) (x:Str),l[i]? =some (some x)→l[j]? =some (some x)→i=j:=by
 induction l with
 | nil=>intro i j x hi; cases hi
 | cons a r ih=>
  intro i j x hi hj
  have hr:(r.filterMap id).Nodup:=by
   cases a with
   | none=>simpa using h
   | some y=>exact(ej.mp (by simpa using h)).2
  have mem:∀k:Nat,r[k]? =some (some x)→x∈r.filterMap id:=fun k hk=>List.mem_filterMap.mpr ⟨some x,bD hk,rfl⟩
  cases i with
  | zero=>
   cases j with
   | zero=>rfl
   | succ j=>
    have e:a=some x:=by simpa using hi
    subst e
    exact absurd (mem j (by simpa using hj)) (ej.mp (by simpa using h)).1
  | succ i=>
   cases j with
   | zero=>
    have e:a=some x:=by simpa using hj
    subst e
    exact absurd (mem i (by simpa using hi)) (ej.mp (by simpa using h)).1
   | succ j=>exact congrArg Nat.succ (ih hr i j x (by simpa using hi) (by simpa using hj))
structure ScopeOk(sc sc':Scope)(ns:Nms)(own:List String)(free:List Nat):Prop where
 kind:sc'.kind= .function
 nd:∀(i j:Nat) (x:Str),(fB free ns own)[i]? =some (some x)→(fB free ns own)[j]? =some (some x)→i=j
 owns:∀x∈own,sc'.names.lookup (aa x)=some .local∨sc'.names.lookup (aa x)=some .cell
 dd:∀x∈own,(aa x==("__debug__":Str))=false∧(aa x==("__classdict__":Str))=false
 caps:∀i∈free,∃x,ns[i]? =some (some x)∧sc'.names.lookup x=some .free∧(sc.names.lookup x=some .cell∨sc.names.lookup x=some .free)
 frees:∀x,(x,NameKind.free)∈sc'.names→∃i∈free,ns[i]? =some (some x)
 locs:∀p∈sc'.names,p.2= .local→sc'.names.lookup p.1=some .local
 names:(sc'.names.map (·.1)).Nodup
theorem k5{sc sc':Scope}{ns:Nms}{own:List String}{free:List Nat}(h:lU sc sc' ns own free=true):ScopeOk sc sc' ns own free:=by
 unfold lU at h
 simp only[aV,decide_eq_true_eq,bh]at h
 refine fu h fun w85_1 h9=>?_; obtain⟨⟨⟨⟨⟨⟨⟨h1,h2⟩,h3⟩,h4⟩,h5⟩,h6⟩,h7⟩,h8⟩:=w85_1
 refine⟨h1,gT h2,fun x hx=>?_,fun x hx=>?_,fun i hi=>?_,fun x hx=>?_,fun p hp hk=>?_,h8⟩
 ·have:=h3 x hx
  rw[Bool.or_eq_true,beq_iff_eq,beq_iff_eq]at this; exact this
 ·have:=h4 x hx
  simpa using this
 ·have:=h5 i hi
  split at this
  ·rename_i x e
   simp only[aV,Bool.or_eq_true,beq_iff_eq]at this
   exact Ae x e this.1 this.2
  ·cases this
 ·have:=h6 _ hx
  simp only[bne_self_eq_false,Bool.false_or,List.any_eq_true,beq_iff_eq]at this
  exact this
 ·have:=h7 p hp
  rw[hk]at this
  simpa using this
section
variable {P:Pm}{wc:Addr}{sc sc':Scope}{env:Env}{ns:Nms}{own:Nat}{b:Bs}{Z Z1:Heap}{σ:St}{ad:Nat→Addr}{s s3:Shared}{A:Around}
variable {own':List String}{free:List Nat}
theorem SR.closure(S:SR P wc sc env ns own b Z σ ad s)(K:ScopeOk sc sc' ns own' free):
  ∃cl,closureFor sc' env=pure cl∧(∀x,(x,NameKind.free)∈sc'.names→cl.lookup x=env.cells.lookup x):=by
 obtain⟨cl,h1,υ,h3⟩:=j9 (scope:=sc') (env:=env) fun x hx=>by
  refine bq (K.frees x hx) fun i hi hn=>?_
  refine mX (K.caps i hi) fun x' e υ hk=>?_
  rw[hn]at e; cases e
  rcases S.cel i x hn with q | ⟨_,c,_,hc,_⟩
  ·rcases S.cf x hk with q' | q'<;>(rw[q]at q'; cases q')
  ·exact⟨c,hc⟩
 exact gX cl h1 h3
theorem SR.comp(S:SR P wc sc env ns own b Z σ ad s)(K:ScopeOk sc sc' ns own' free)(g:Go P Z s Z1 s3){cl:List (Str×Addr)}(hcl:∀x,(x,NameKind.free)∈sc'.names→cl.lookup x=env.cells.lookup x)
  {cenv:Env} (he:cenv={scope:=relabel sc' env,locals:=s3.heap.objs.size,globals:=env.globals,cells:=cellsFrom (s3.heap.objs.size+1) sc'.names []++cl,qual:=env.qual,func:=none,code:=env.code,frame:=env.frame,builtins:=env.builtins})
  {s4:Shared} (h4:s4={s3 with heap:=pushCells (s3.heap.push {cls:= .type "dict",data:= .dict #[]}) sc'.names}):
  SR P wc sc' cenv (fB free ns own') ns.length ⟨s.heap,Z⟩ Z1 (mask free σ own'.length) ad s4∧Go P Z1 s3 Z1 s4∧(s4.heap.Ns cenv.locals fun υ=>none)∧s3.heap.get? cenv.locals=none∧s.heap.get? cenv.locals=none∧Z1.get? cenv.locals=none∧
   (∃o,s4.heap.get? cenv.locals=some o∧(∃nm,o.cls= .type nm)∧∀v,o.data≠ .cell v):=by
 have hC:cenv.locals=s3.heap.objs.size:=by rw[he]
 have hko:∀x,cenv.kindOf x=(sc'.names.lookup x).map (rlk env x):=so sc' env cenv (by rw[he])
 have kl:∀x,sc'.names.lookup x=some .local→cenv.kindOf x=some .local:=fun x h=>by rw[hko,h]; exact congrArg some (q6 (by decide))
 have kc:∀x,sc'.names.lookup x=some .cell→cenv.kindOf x=some .cell:=fun x h=>by rw[hko,h]; exact congrArg some (q6 (by decide))
 have kf:∀x,sc'.names.lookup x=some .free→cenv.kindOf x=some .cell∨cenv.kindOf x=some .free:=fun x h=>by
  rw[hko,h]
  rcases uW env x with q | q
  ·exact .inl (congrArg some q)
  ·exact .inr (congrArg some q)
 have hle:Le s3.heap s4.heap:=fun c o e=>by rw[h4]; exact pushCells_keeps _ _ c o (aU _ e)
 have g4:Go P Z1 s3 Z1 s4:=by
  have:=Go.of_le (s':=s4) g.ok hle (by rw[h4]; exact g.ok.tk) (by rw[h4]) (by rw[h4])
  exact this
 have notT:∀a,s3.heap.get? a=none→a∉P.T:=fun a e ht=>by
  refine bq (P.to2 g.ok.tab a ht) fun o h υ=>?_
  rw[e]at h; cases h
 have olds:∀a,s3.heap.get? a=none→s.heap.get? a=none:=fun a e=>by
  cases q:s.heap.get? a with
  | none=>rfl
  | some o=>have:=g.keep a o (notT a e) q; rw[e]at this; cases this
 have beyond:∀a,s3.heap.objs.size≤a→s3.heap.get? a=none:=fun a h=>by
  cases q:s3.heap.get? a with
  | none=>rfl
  | some o=>exact absurd (cQ q) (eM.mpr h)
 have hfC:s3.heap.get? cenv.locals=none:=by rw[hC]; exact get?_size _
 have hns:s4.heap.Ns cenv.locals fun υ=>none:=by
  rw[hC,h4]
  exact(Heap.Ns.new s3.heap (.type "dict")).keeps (pushCells_keeps _ _)
 have ck:=cellsFrom_ok sc'.names (s3.heap.push {cls:= .type "dict",data:= .dict #[]}) (s3.heap.objs.size+1) [] ⟨fun υ υ hm=>(nomatch hm),List.Pairwise.nil⟩ (by rw[df]; exact bL _)
 rw[df]at ck
 have cells:cenv.cells=cellsFrom (s3.heap.objs.size+1) sc'.names []++cl:=by rw[he]
 have ownCell:∀x,sc'.names.lookup x=some .cell→∃c,cenv.cells.lookup x=some c∧(x,c)∈cellsFrom (s3.heap.objs.size+1) sc'.names []:=fun x h=>by
  refine dh (iS sc'.names (s3.heap.objs.size+1) x (mem_of_lookup h)) fun c hc=>?_
  refine dh (gJ hc) fun c' hc'=>?_
  exact gX c' (by rw[cells]; exact jZ hc') (mem_of_lookup hc')
 have freeCell:∀x,sc'.names.lookup x=some .free→cenv.cells.lookup x=env.cells.lookup x:=fun x h=>by
  rw[cells,jY,hcl x (mem_of_lookup h)]
  cases q:(cellsFrom (s3.heap.objs.size+1) sc'.names []).lookup x with
  | none=>rfl
  | some c=>
   have:=ig _ _ _ _ (mem_of_lookup q)
   rw[ju K.names this]at h; cases h
 have S4:=(S.go g).go g4
 have vr:∀(i:Nat) (x:Str) ov,i∈free→ns[i]? =some (some x)→VR P wc env.locals b.B Z1 s4.heap (ad i) σ[i]? ov→VR P wc cenv.locals s.heap Z1 s4.heap (ad i) (mask free σ own'.length)[i]? ov:=fun i x ov hi hn r=>by
  cases e:(mask free σ own'.length)[i]? with
  | none=>trivial
  | some w=>
   rcases iL e with q | ⟨d,q,_,h⟩
   ·subst q; trivial
   ·subst q
    rw[h]at r
    exact r
 have u0:∀(i:Nat) ov,ns.length≤i→VR P wc cenv.locals s.heap Z1 s4.heap (ad i) (mask free σ own'.length)[i]? ov:=fun i ov hi=>by
  cases e:(mask free σ own'.length)[i]? with
  | none=>trivial
  | some w=>
   rcases iL e with q | ⟨d,q,_,h⟩
   ·subst q; trivial
   ·rw[bj (by rw[S.len]; exact hi)]at h; cases h
 refine i0_7 (⟨g4.ok,?_,?_,?_,fun x h=>?_,fun c o hc e=>g4.keep c o hc (g.keep c o hc e),g.le,fun a o e=>?_,?_,olds _ hfC,⟨fun υ=>none,hns,fun i x hi hk=>?_⟩,fun i x hi=>?_,fun i x hi ho=>?_,K.nd,?_,fun i j ds es h1 h2=>?_,fun i x hi=>?_,?_,fun x h=>?_,kl⟩) g4 hns hfC (olds _ hfC) (g.ok.znone hfC) ?_
 ·rw[he]; exact K.kind
 ·rw[he]; exact S.glob
 ·rw[he]; exact S.blt
 ·rw[hko,h]; exact congrArg some (q6 (by decide))
 ·rcases g.fresh a o e with q | q
  ·exact .inl q
  ·exact .inr q
 ·exact g.ok.znone hfC
 ·rcases gU hi with⟨h1,h2,h3⟩ | ⟨h1,_⟩
  ·refine mX (K.caps i h2) fun x' e hf υ=>?_
   rw[h3]at e; cases e
   rcases kf x hf with q | q<;>(rw[hk]at q; cases q)
  ·exact u0 i _ h1
 ·rcases gU hi with⟨h1,h2,h3⟩ | ⟨h1,y,hy,rfl⟩
  ·refine mX (K.caps i h2) fun x' e hf hk=>?_
   rw[h3]at e; cases e
   rcases S4.cel i x h3 with q | ⟨_,c,ov,q1,q2,q3,q4,q5⟩
   ·rcases S.cf x hk with q' | q'<;>(rw[q]at q'; cases q')
   ·refine .inr ⟨kf x hf,c,ov,by rw[freeCell x hf]; exact q1,q2,vr i x ov h2 h3 q3,fun hh=>absurd h1 (eM.mpr hh),fun υ=>?_⟩
    rcases S.cel i x h3 with q | ⟨_,c',ov',p1,⟨oc,p2,_⟩,_⟩
    ·rcases S.cf x hk with q' | q'<;>(rw[q]at q'; cases q')
    ·rw[q1]at p1; cases p1
     rw[p2]; nofun
  ·rcases K.owns y hy with q | q
   ·exact .inl (kl _ q)
   ·refine bq (ownCell _ q) fun c hc hm=>?_
    refine fu (ck.empty _ _ hm) fun e1 e2=>?_
    have hf3:s3.heap.get? c=none:=beyond c (by exact bz (by assumption))
    refine .inr ⟨.inl (kc _ q),c,none,hc,by rw[h4]; exact e1,u0 i _ h1,fun υ=>⟨g.ok.znone hf3,olds c hf3⟩,fun hh=>absurd hh (eM.mpr h1)⟩
 ·rcases gU hi with⟨h1,h2,h3⟩ | ⟨h1,y,hy,rfl⟩
  ·exact absurd h1 (eM.mpr ho)
  ·rcases K.owns y hy with q | q
   ·exact .inl (kl _ q)
   ·exact .inr (kc _ q)
 ·intro i j x y c hi hj hoi hoj kx ky cx cy
  have own1:∀(i:Nat) (x:Str),(fB free ns own')[i]? =some (some x)→ns.length≤i→cenv.kindOf x=some .cell→cenv.cells.lookup x=some c→(x,c)∈cellsFrom (s3.heap.objs.size+1) sc'.names []:=fun i x hi ho k e=>by
   rcases gU hi with⟨h1,_⟩ | ⟨h1,z,hz,rfl⟩
   ·exact absurd h1 (eM.mpr ho)
   ·rcases K.owns z hz with q | q
    ·rw[kl _ q]at k; cases k
    ·refine bq (ownCell _ q) fun c' hc hm=>?_
     rw[e]at hc; cases hc; exact hm
  have:=name_of_addr ck.apart (own1 i x hi hoi kx cx) (own1 j y hj hoj ky cy)
  subst this
  exact K.nd i j x hi hj
 ·rcases iL h1 with q | ⟨d,q,_⟩<;>cases q
 ·rcases gU hi with⟨h1,h2,h3⟩ | ⟨h1,y,hy,rfl⟩
  ·exact S.dd i x h3
  ·exact K.dd y hy
 ·rw[nF,jr,S.len]
 ·rcases h with h | h
  ·exact .inl (kc x h)
  ·exact kf x h
 ·refine Ae ({cls:= .type "dict",data:= .dict #[]}) ?_ (⟨_,rfl⟩) nofun
  rw[hC,h4]
  exact pushCells_keeps _ _ _ _ (aJ _ rfl)
end
section
variable {P:Pm}{wc:Addr}{sc:Scope}{env:Env}{ns:Nms}{own:Nat}{b:Bs}{Z Z' Z1:Heap}{σ σ':St}{ad:Nat→Addr}{s s':Shared}{A:Around}{ft:FT}{n:Nat}
theorem fJ{i:Nat}{x:Str}(h:nmIs ns i x=true):ns[i]? =some (some x):=by unfold nmIs at h; exact beq_iff_eq.mp h
theorem SR.lt(S:SR P wc sc env ns own b Z σ ad s){i:Nat}{x:Str}(h:ns[i]? =some (some x)):i<σ.length:=by
 rw[S.len]
 rcases bS i ns.length with q | q
 ·exact q
 ·rw[bj q]at h; cases h
theorem SR.bindFro(S:SR P wc sc env ns own b Z σ ad s){i:Nat}{x:Str}(hi:ns[i]? =some (some x))(ho:own≤i){v:Value}{d:D}(r:Rep Z v d){Q:Unit→Shared→Prop}{E}
  (h:∀s' ad',SR P wc sc env ns own b Z (σ.set i (.fro d)) ad' s'→Q () s'):wpAny P.M A (bindName env x v) Q E s:=
 S.bind hi ho (S.lt hi) (w:= .fro d) (a:=ad i) ⟨v,rfl,r⟩ (fun υ q=>nomatch q) fun s' S'=>h s' _ S'
theorem uH{β:Type}{x:D}{g:D→D→Option β}{d:β}(h:(match x with | .tuple [a,b]=>g a b | _=>none)=some d):∃a b,x= .tuple [a,b]∧g a b=some d:=by
 cases x with
 | tuple l=>rcases l with _ | ⟨a,_ | ⟨b,_ | ⟨_,_⟩⟩⟩<;>first | exact⟨_,_,rfl,h⟩ | cases h
 | _=>cases h
theorem Ci{vs:Array Value}{d1 d2:D}(rr:RepAll Z vs.toList [d1,d2]):∃v1 v2,vs= #[v1,v2]∧Rep Z v1 d1∧Rep Z v2 d2:=by
 obtain⟨l⟩:=vs
 cases rr with
 | cons r1 r=>
  cases r with
  | cons r2 r=>cases r; exact⟨_,_,rfl,r1,r2⟩
theorem ko{x:Str}{p:Pos}{v:Value}{Q:Unit→Shared→Prop}{E}(h:wpAny P.M A (bindName env x v) Q E s):wpAny P.M A (assign (.Name x p) env v) Q E s:=(wpAny_bind (wpAny_standAt h):wpAny P.M A (do standAt p; bindName env x v) Q E s)
theorem SR.tg(S:SR P wc sc env ns own b Z σ ad s)(hh:A.handled=none){t:Tg}{tg:Expr}{d:D}{v:Value}(hc:mV ns t tg=true)(hb:gE t d σ=some σ')(hs:∀i∈slots t,own≤i)(r:Rep Z v d)
  {Q:Unit→Shared→Prop} {E} (h:∀s' ad',SR P wc sc env ns own b Z σ' ad' s'→Q () s'):wpAny P.M A (assign tg env v) Q E s:=by
 cases t with
 | one i=>
  cases hb
  exact dC hc fun x p hc=>ko (S.bindFro (fJ hc) (hs i (.head _)) r h)
 | two i j=>
  obtain⟨d1,d2,rfl,hb⟩:=uH hb
  cases hb
  obtain⟨a,vs,rfl,⟨o,ho,ht⟩,rr⟩:=r.tuple_inv
  obtain⟨v1,v2,rfl,r1,r2⟩:=Ci rr
  obtain⟨x,p,y,q,υ,υ,rfl,h1,h2⟩:=lT hc
  refine wpAny_assign_Tuple hh ⟨o,S.ok.z _ _ ho,ht⟩ rfl rfl fun h' he=>?_
  have g:Go P Z s Z {s with heap:=h'}:=Go.of_le S.ok (fun c o e=>he c o (fun q=>by rw[q,get?_size]at e; cases e) e) S.ok.tk
  refine(?_:wpAny _ _ (assignInOrder [assign (.Name x p) env,assign (.Name y q) env] [v1,v2]) _ _ _)
  exact wpAny_assignInOrder_more (ko ((S.go g).bindFro (fJ h1) (hs i (.head _)) r1 fun s2 ad2 S2=>wpAny_assignInOrder_more (ko (S2.bindFro (fJ h2) (hs j (.tail _ (.head _))) r2 fun s3 ad3 S3=>wpAny_assignInOrder_none (h _ _ S3)))))
theorem Gk{I:Addr}{t:Tg}{tg:Expr}{v:Value}(hc:mV ns t tg=true){ds:List D}(it:lp P Z I s.heap ds){Q:Unit→Shared→Prop}{E}(h:Q () s):wpAny P.M A (letOwnedTupleGo tg (.ref I) v) Q E s:=by
 obtain⟨o,ho,⟨nm,hn,hcl⟩,ps,hd⟩:=it.obj
 cases t with
 | one i=>
  refine x2_2 (px hc) fun x p e64_1 hc=>?_; subst e64_1
  exact aD h
 | two i j=>
  refine x6_3 (lT hc) fun x p y q υ υ e67_1 h1 h2=>?_; subst e67_1
  unfold letOwnedTupleGo
  dsimp only
  have hnot:¬["enumerate","zip","dict_itemiterator","dict_reverseitemiterator","odict_iterator","itertools.zip_longest","itertools.pairwise"].contains nm=true:=by
   have key:∀nm∈sH,["enumerate","zip","dict_itemiterator","dict_reverseitemiterator","odict_iterator","itertools.zip_longest","itertools.pairwise"].contains nm=false:=by decide
   rw[key nm hn]; exact Bool.noConfusion
  cases v<;>first
   | exact aD h
   | (refine wpAny_bind (wpAny_load ho ?_); rw[hcl,hd]; dsimp only; rw[if_neg fun q=>hnot (ee.mp q).1]; exact aD h)
theorem SR.dropChange{σ1:St}{ad1:Nat→Addr}{s1:Shared}(S0:SR P wc sc env ns own b Z1 σ1 ad1 s1){X:Addr}{o:Obj}(hX:s1.heap.get? X=some o)(hT:X∉P.T)(hB:b.B.get? X=none)(hZ:b.Z0.get? X=none)
  (p1:∀dx,o≠instObj wc dx) (p2:∀v,o.data≠ .cell v)
  (S:SR P wc sc env ns own (b.add X o) Z σ ad s) {h':Heap} {tk:Nat} (hk:iv X s.heap h') (htk:0<tk):SR P wc sc env ns own b Z σ ad {s with heap:=h',toks:=tk}:=by
 have hf:o.isFreed=false:=(ba.mp hX).2
 have hb:(b.add X o).B.get? X=some o:=cM hf
 have hne:∀c,c≠X→(b.add X o).B.get? c=b.B.get? c:=fun c hc=>cD hc
 have hn:∀c,(b.add X o).B.get? c=none→c≠X∧b.B.get? c=none:=fun c hc=>by
  by_cases q:c=X
  ·rw[q,hb]at hc; cases hc
  ·exact⟨q,by rw[←hne c q]; exact hc⟩
 have hXs:s.heap.get? X=some o:=S.base X o hT hb
 have hz:Z.get? X=none:=by
  cases e:Z.get? X with
  | none=>rfl
  | some o'=>
   rcases S.zb X o' e with h | h
   ·have h9:b.Z0.get? X=some o':=h
    rw[hZ]at h9; cases h9
   ·rw[hb]at h; cases h
 refine bq S.nss fun m hm hv=>?_
 have hL:=(hn _ S.lb).1
 have hm':h'.Ns env.locals m:=by
  refine uz hm fun o' es ep e r=>?_
  exact DA o' es ep (hk _ _ hL e) r
 have kv:∀i ov,VR P wc env.locals (b.add X o).B Z s.heap (ad i) σ[i]? ov→VR P wc env.locals b.B Z h' (ad i) σ[i]? ov:=fun i ov r=>by
  exact r.imp (.refl _) (fun ds vs υ l z q=>⟨l.elim fun k l=>⟨k,hk _ _ (hn _ q).1 l⟩,z,(hn _ q).2⟩) (fun υ x dx υ e=>hk _ _ (fun q=>by rw[q,hXs]at e; exact p1 _ (ax.inj e)) e) fun υ dx es n υ e z q υ=>⟨hk _ _ (hn _ q).1 e,z,(hn _ q).2⟩
 have zk:Le Z h':=fun c o' e=>hk c o' (fun q=>by rw[q,hz]at e; cases e) (S.ok.z c o' e)
 refine⟨⟨zk,S.ok.g,S.ok.zT,P.to1 S.ok.tab (.refl _) (fun t ht=>?_),S.ok.gens,S.ok.os,htk⟩,S.kind,S.glob,S.blt,S.gl,fun c o' hc e=>?_,S.zle,fun a o' e=>?_,S.lz,(hn _ S.lb).2,
  ⟨m,hm',fun i x hi hx=>kv i _ (hv i x hi hx)⟩,fun i x hi=>?_,S.ownk,S.nd,S.cd,S.ai,S.dd,S.len,S.cf,S.lc⟩
 ·refine bq (P.to2 S.ok.tab t ht) fun o' e υ=>?_
  exact(hk _ _ (fun q=>hT (by rw[←q]; exact ht)) e).trans e.symm
 ·have hcX:c≠X:=fun q=>by rw[q,hB]at e; cases e
  exact hk _ _ hcX (S.base c o' hc (by rw[hne c hcX]; exact e))
 ·rcases S.zb a o' e with h | h
  ·exact .inl h
  ·exact .inr (hn _ h).2
 ·rcases S.cel i x hi with q | ⟨k,c,ov,h1,⟨oc,h2,hd⟩,h3,h4,h5⟩
  ·exact .inl q
  ·refine .inr ⟨k,c,ov,h1,⟨oc,hk _ _ (fun q=>?_) h2,hd⟩,kv i _ h3,fun hh=>⟨(h4 hh).1,(hn _ (h4 hh).2).2⟩,fun hh=>?_⟩
   ·rw[q,hXs]at h2; cases h2; exact p2 _ hd
   ·rcases S0.cel i x hi with q | ⟨k',c',ov',g1,g2,g3,g4,g5⟩
    ·rcases k with k | k<;>(rw[q]at k; cases k)
    ·rw[h1]at g1; cases g1; exact g5 hh
theorem SR.goBase(S:SR P wc sc env ns own b Z σ ad s)(g:Go P Z s Z' s'){X:Addr}{o:Obj}(hT:X∉P.T)(h0:s.heap.get? X=none)(h1:s'.heap.get? X=some o)(h2:Z'.get? X=none)(p2:∀v,o.data≠ .cell v):
  SR P wc sc env ns own (b.add X o) Z' σ ad s':=by
 have hf:o.isFreed=false:=(ba.mp h1).2
 have hb:(b.add X o).B.get? X=some o:=cM hf
 have hne:∀c,c≠X→(b.add X o).B.get? c=b.B.get? c:=fun c hc=>cD hc
 have old:∀c oc,s.heap.get? c=some oc→c≠X:=fun c oc e q=>by rw[q,h0]at e; cases e
 have S':=S.go g
 refine bq S.nss fun m hm hv=>?_
 have kv:∀i ov,VR P wc env.locals b.B Z s.heap (ad i) σ[i]? ov→VR P wc env.locals (b.add X o).B Z' s'.heap (ad i) σ[i]? ov:=fun i ov r=>by
  have r2:VR P wc env.locals (b.add X o).B Z s.heap (ad i) σ[i]? ov:=by
   exact r.imp (.refl _) (fun ds vs υ l z q=>⟨l,z,l.elim fun k l=>by rw[hne _ (old _ _ l)]; exact q⟩) (fun υ υ υ υ e=>e) fun υ dx es n υ e z q υ=>⟨e,z,by rw[hne _ (old _ _ e)]; exact q⟩
  exact r2.go S.ok g
 have hLs:env.locals≠X:=by obtain⟨_,_,_,e,_⟩:=hm; exact old _ _ e
 refine bq S'.nss fun m' hm' υ=>?_
 have hm2:s'.heap.Ns env.locals m:=by
  refine uz hm fun o' es ep e r=>?_
  exact DA o' es ep (g.keep _ _ (S.ok.nsT ⟨o',es,ep,e,r⟩) e) r
 refine⟨S'.ok,S.kind,S.glob,S.blt,S.gl,fun c o' hc e=>?_,S'.zle,fun a o' e=>?_,S'.lz,by rw[hne _ hLs]; exact S.lb,⟨m,hm2,fun i x hi hx=>kv i _ (hv i x hi hx)⟩,fun i x hi=>?_,S.ownk,S.nd,S.cd,S.ai,S.dd,S.len,S.cf,S.lc⟩
 ·by_cases q:c=X
  ·rw[q,hb]at e; cases e; rw[q]; exact h1
  ·rw[hne c q]at e; exact S'.base c o' hc e
 ·by_cases q:a=X
  ·rw[q,h2]at e; cases e
  ·rcases S'.zb a o' e with h | h
   ·exact .inl h
   ·exact .inr (by rw[hne a q]; exact h)
 ·rcases S.cel i x hi with q | ⟨k,c,ov,q1,q2,q3,q4,q5⟩
  ·exact .inl q
  ·refine bq (id q2) fun oc e hd=>?_
   have hcX:=old _ _ e
   refine .inr ⟨k,c,ov,q1,⟨oc,g.keep _ _ (S.ok.cellT q2) e,hd⟩,kv i _ q3,fun hh=>⟨?_,by rw[hne c hcX]; exact(q4 hh).2⟩,fun hh=>by rw[hne c hcX]; exact q5 hh⟩
   cases q:Z'.get? c with
   | none=>rfl
   | some o'=>
    rcases g.fresh _ o' q with q' | q'
    ·rw[(q4 hh).1]at q'; cases q'
    ·rw[e]at q'; cases q'
end
section
variable {prog:Program}{w:World}{A:Around}{s:Shared}{R:Result→Shared→Prop}
theorem dM{elt:Expr}{gens:List Comprehension}{scope:Scope}{pos:Pos}{k:Nat}{it acc:Value}{env:Env}{g:Comprehension}(hg:gens[k]? =some g)(ha:g.is_async=0)
  (ha':∀g',gens[k+1]? =some g'→g'.is_async=0)
  (h:wpAny (model prog w) A (pyNext it) (fun r s1=>match r with
   | none=>R (.ok .next) s1
   | some v=>wpAny (model prog w) A (letOwnedTupleGo g.target it v) (fun υ s2=>wpAny (model prog w) A (assign g.target env v) (fun υ s3=>
     wpAny (model prog w) A (forIn g.ifs true fun c r=>if r=true then do let ok ←isTrue c env (eval c env); pure (ForInStep.yield ok) else pure (ForInStep.yield r)) (fun ok s4=>
      if ok=true then(match gens[k+1]? with
       | some g'=>wpAny (model prog w) A (eval g'.iter env) (fun x s5=>wpAny (model prog w) A (foldedSetIterable g'.iter env x) (fun x s6=>wpAny (model prog w) A (pyIter x) (fun it' s7=>
         codeAny (model prog w) A (.compStart (.ListComp elt gens scope pos) (k+1) it' acc env) (fun r s8=>match r with
          | .ok _=>codeAny (model prog w) A (.compLoop (.ListComp elt gens scope pos) k it acc env) R s8
          | .error _=>False) s7) (notedBy (model prog w) A env fun e s'=>R (.error e) s') s6) (notedBy (model prog w) A env fun e s'=>R (.error e) s') s5) (notedBy (model prog w) A env fun e s'=>R (.error e) s') s4
       | none=>wpAny (model prog w) A (eval elt env) (fun x s5=>wpAny (model prog w) A (call (.builtin "list.append") [acc,x]) (fun υ s6=>
         codeAny (model prog w) A (.compLoop (.ListComp elt gens scope pos) k it acc env) R s6) (notedBy (model prog w) A env fun e s'=>R (.error e) s') s5) (notedBy (model prog w) A env fun e s'=>R (.error e) s') s4)
      else codeAny (model prog w) A (.compLoop (.ListComp elt gens scope pos) k it acc env) R s4) (notedBy (model prog w) A env fun e s'=>R (.error e) s') s3)
     (notedBy (model prog w) A env fun e s'=>R (.error e) s') s2) (notedBy (model prog w) A env fun e s'=>R (.error e) s') s1) (notedBy (model prog w) A env fun e s'=>R (.error e) s') s):
  codeAny (model prog w) A (.compLoop (.ListComp elt gens scope pos) k it acc env) R s:=by
 refine codeAny_of_tree ?_
 show wpAny _ A ((compTurn (.ListComp elt gens scope pos) k it acc env).onRaise (fun x=>do noteFrame x env; theTreesLotGoes x)) _ _ s
 refine wpAny_noted ?_
 unfold compTurn
 dsimp only
 rw[hg]
 dsimp only
 have e0:(g.is_async !=0)=false:=by rw[ha]; rfl
 rw[e0]
 simp only[Bool.false_eq_true,if_false]
 refine wpAny_bind (wpAny_standAt (wpAny_bind (wpAny_mono h (fun r s₁ h₁=>?_) fun υ υ h'=>h')))
 cases r with
 | none=>exact aD h₁
 | some v=>
  refine wpAny_bind (wpAny_mono h₁ (fun υ s₂ h₂=>?_) fun υ υ h'=>h')
  refine wpAny_bind (wpAny_mono h₂ (fun υ s₃ h₃=>?_) fun υ υ h'=>h')
  refine wpAny_bind (wpAny_mono h₃ (fun ok s₄ h₄=>?_) fun υ υ h'=>h')
  cases ok with
  | false=>exact aD ⟨rfl,h₄⟩
  | true=>
   simp only[if_true]at h₄⊢
   cases hg':gens[k+1]? with
   | none=>
    rw[hg']at h₄
    dsimp only at h₄⊢
    exact wpAny_bind (wpAny_bind (wpAny_mono h₄ (fun x s₅ h₅=>wpAny_bind (wpAny_mono h₅ (fun υ s₆ h₆=>aD (aD ⟨rfl,h₆⟩)) fun υ υ h'=>h')) fun υ υ h'=>h'))
   | some g'=>
    rw[hg']at h₄
    have e1:(g'.is_async !=0)=false:=by rw[ha' g' hg']; rfl
    dsimp only at h₄⊢
    rw[e1]
    simp only[Bool.false_eq_true,if_false]
    refine wpAny_bind (wpAny_mono h₄ (fun x s₅ h₅=>?_) fun υ υ h'=>h')
    refine wpAny_bind (wpAny_standAt (wpAny_bind (wpAny_mono h₅ (fun x s₆ h₆=>?_) fun υ υ h'=>h')))
    refine wpAny_bind (wpAny_holding (wpAny_mono h₆ (fun it' s₇ h₇=>?_) fun υ υ h'=>h'))
    refine wpAny_bind (wpAny_runOwn (codeAny_mono h₇ fun r s₈ h₈=>?_))
    cases r with
    | ok f=>exact aD ⟨rfl,h₈⟩
    | error e=>exact h₈.elim
theorem eG{elt:Expr}{gens:List Comprehension}{scope:Scope}{pos:Pos}{k:Nat}{it acc:Value}{env:Env}{g:Comprehension}(hg:gens[k]? =some g)(ha:g.is_async=0)
  (h0:codeAny (model prog w) A (.compLoop (.ListComp elt gens scope pos) k it acc env) R s)
  (h:wpAny (model prog w) A (pyIter it) (fun it' s'=>codeAny (model prog w) A (.compLoop (.ListComp elt gens scope pos) k it' acc env) R s')
   (notedBy (model prog w) A env fun x s'=>R (.error x) s') s):
  codeAny (model prog w) A (.compStart (.ListComp elt gens scope pos) k it acc env) R s:=by
 refine codeAny_of_tree ?_
 show wpAny _ A ((compStart (.ListComp elt gens scope pos) k it acc env).onRaise (fun x=>do noteFrame x env; standAt theWindowsPlace)) _ _ s
 refine wpAny_notedAt ?_
 unfold compStart
 have e:(clausesOf (.ListComp elt gens scope pos))[k]? =some g:=hg
 rw[e]
 have e0:(Option.elim (some g) false fun x=>x.is_async !=0)=false:=by show(g.is_async !=0)=false; rw[ha]; rfl
 rw[e0]
 simp only[Bool.false_eq_true,if_false]
 refine(?_:wpAny _ _ (ask>>=_) _ _ s)
 refine wpAny_bind (wpAny_askSetting (wpAny_ite ?_))
 split
 ·first
   | exact wpAny_bind (aD (aD (And.intro rfl h0)))
   | exact aD (And.intro rfl h0)
 ·first
   | exact wpAny_bind (wpAny_rule (wpAny_bind (wpAny_standAt (wpAny_bind (wpAny_mono h (fun it' s' h'=>aD (And.intro rfl h')) fun υ υ x=>x)))))
   | (refine wpAny_bind (wpAny_rule ?_); show wpAny _ _ (standAt g.iter.pos>>=_) _ _ s; exact wpAny_bind (wpAny_standAt (wpAny_bind (wpAny_mono h (fun it' s' h'=>aD (And.intro rfl h')) fun υ υ x=>x))))
end
section
variable {P:Pm}{wc:Addr}{sc:Scope}{env:Env}{ns:Nms}{own:Nat}{b:Bs}{Z Z' Z1:Heap}{σ σ':St}{ad:Nat→Addr}{s s':Shared}{A:Around}{ft:FT}{n:Nat}
theorem m6{ifs:List Expr}{Q:Bool→Shared→Prop}{E}(h:Q false s):
  wpAny P.M A (forIn ifs false fun c r=>if r=true then do let ok ←isTrue c env (eval c env); pure (ForInStep.yield ok) else pure (ForInStep.yield r)) Q E s:=by
 induction ifs with
 | nil=>exact aD h
 | cons c r ih=>
  rw[eX]
  simp only[Bool.false_eq_true,if_false]
  exact wpAny_bind (aD ih)
theorem jO(HT:jN P wc ft n)(R:Room A n){k:Nat}{ies:List IE}{ifs:List Expr}{t:Bool}{Z:Heap}{s:Shared}(hc:gO (ckE k ns sc) ies ifs=true)(ht:jP (evE ft n) σ ies=some t)(S:SR P wc sc env ns own b Z σ ad s)
  {Q:Bool→Shared→Prop} {E} (h:∀s' Z',Go P Z s Z' s'→Q t s'):
   wpAny P.M A (forIn ifs true fun c r=>if r=true then do let ok ←isTrue c env (eval c env); pure (ForInStep.yield ok) else pure (ForInStep.yield r)) Q E s:=by
 refine iU (M:=fun ies ifs=>∀Z s,jP (evE ft n) σ ies=some t→SR P wc sc env ns own b Z σ ad s→(∀s' Z',Go P Z s Z' s'→Q t s')→
  wpAny P.M A (forIn ifs true fun c r=>if r=true then do let ok ←isTrue c env (eval c env); pure (ForInStep.yield ok) else pure (ForInStep.yield r)) Q E s) ?_ ?_ ies ifs hc Z s ht S h
 ·exact fun Z s ht S h=>aD (ax.inj ht▸h _ _ (Go.refl S.ok))
 ·intro ie e ies ifs hc υ ih Z s ht S h
  refine bq (ao.mp ht) fun d h1 ht=>?_
  refine bq (ao.mp ht) fun t1 h2 ht=>?_
  have hd:fN ft n σ ie=some t1:=Pl.fF h1 h2
  rw[eX,if_pos rfl]
  refine wpAny_bind (wpAny_bind (HT R hc hd S fun s1 Z1 g1=>aD ?_))
  dsimp only
  cases t1 with
  | false=>exact m6 (ax.inj ht▸h _ _ g1)
  | true=>exact ih Z1 s1 ht (S.go g1) fun s2 Z2 g2=>h _ _ (g1.trans g2)
theorem qn{t:Tg}{d:D}(h:gE t d σ=some σ'):σ'.length=σ.length:=by
 cases t with
 | one i=>cases h; exact dn
 | two i j=>
  obtain⟨υ,υ,rfl,h⟩:=uH h
  cases h; rw[dn,dn]
theorem lh{t:Tg}{d:D}(h:gE t d σ=some σ'){i:Nat}(hi:i∉slots t):σ'[i]? =σ[i]? :=by
 cases t with
 | one j=>cases h; exact List.getElem?_set_ne fun(e:j=i)=>hi (e▸List.Mem.head _)
 | two j k=>
  obtain⟨υ,υ,rfl,h⟩:=uH h
  cases h
  rw[List.getElem?_set_ne fun(e:k=i)=>hi (e▸List.Mem.tail _ (.head _)),List.getElem?_set_ne fun(e:j=i)=>hi (e▸List.Mem.head _)]
theorem Loose.drop{X Y:Addr}{o:Obj}{h:Heap}(hX:o.isFreed=false)(L:Loose ns (b.add X o) Z σ ad h Y):Loose ns b Z σ ad h Y:=by
 refine⟨L.ob,?_,L.zn,L.na⟩
 have h1:=L.bn
 unfold Bs.add at h1
 dsimp only at h1
 by_cases q:Y=X
 ·rw[q,cM hX]at h1; cases h1
 ·rw[cD q]at h1; exact h1
theorem Loose.add{X Y:Addr}{o:Obj}{h:Heap}(L:Loose ns b Z σ ad h Y)(hne:Y≠X):Loose ns (b.add X o) Z σ ad h Y:=
 ⟨L.ob,by unfold Bs.add; dsimp only; rw[cD hne]; exact L.bn,L.zn,L.na⟩
theorem Loose.keep{X Y:Addr}{h h':Heap}(L:Loose ns b Z σ ad h Y)(hk:iv X h h')(hne:Y≠X):Loose ns b Z σ ad h' Y:=
 by obtain⟨o,ho,p⟩:=L.ob; exact⟨⟨o,hk _ _ hne ho,p⟩,L.bn,L.zn,L.na⟩
theorem fC{k:Nat}{ie:IE}{e:Expr}(hc:ckE k ns sc ie e=true)(x:Value):foldedSetIterable e env x=pure x:=
 jl hc (by intros; rfl) (by intros; rfl) (by intros; rfl) (by intros; rfl) (by intros; rfl) (by intros; rfl) (by intros; rfl) (by intros; rfl) (by intros; rfl) (by intros; rfl) (by intros; rfl) (by intros; rfl) (by intros; rfl)
noncomputable def xa(k:Nat)(ns:Nms)(sc:Scope)(q:Tg×IE×List IE)(g:Comprehension):Prop:=
 g.is_async=0∧mV ns q.1 g.target=true∧jR q.2.1=true∧gO (ckE k ns sc) q.2.2 g.ifs=true
theorem kG{f:D→Option (List D)}{d:D}{r outs:List D}(h:eZ f (d::r)=some outs):∃o1 o2,f d=some o1∧eZ f r=some o2∧outs=o1++o2:=by
 skip
 refine bq (ao.mp h) fun o1 h1 h=>?_
 refine bq (aQ.mp h) fun o2 h2 h=>?_
 exact uo o1 o2 h1 h2 h.symm
noncomputable def Dw(ft:FT)(n:Nat)(ie:IE)(r:List (Tg×IE×List IE))(q:Tg×IE×List IE)(σ:St)(d:D):Option (List D):=
 (gE q.1 d σ).bind fun σ'=>(jP (evE ft n) σ' q.2.2).bind fun t=>if t then nS (evE ft n) ie r σ' else some []
noncomputable def dE(l:List (Tg×IE×List IE)):List Nat:=l.flatMap fun q=>slots q.1
noncomputable def uj(P:Pm)(wc:Addr)(sc:Scope)(env:Env)(ns:Nms)(own:Nat)(A:Around)(ft:FT)(n:Nat)(ie:IE)(elt:Expr)(gs:List Comprehension)(scope:Scope)(pos:Pos)(r:List (Tg×IE×List IE))(k:Nat):Prop:=
 ∀(b:Bs) (Z:Heap) (σ:St) (ad:Nat→Addr) (s:Shared) (D:Addr) (ws:Array Value) (acc o1:List PyData) (Rs:Shared→Prop) (E:Value→Shared→Prop),
  nS (evE ft n) ie r σ=some o1→(∀i∈dE r,σ[i]? =some .u0)→SR P wc sc env ns own b Z σ ad s→Loose ns b Z σ ad s.heap D→s.heap.PlainList D ws→RepAll Z ws.toList acc→acc.length+o1.length≤few→
  (∀s' Z' σ2 ad' ws',SR P wc sc env ns own b Z' σ2 ad' s'→Le Z Z'→(∀i,i∉dE r→σ2[i]? =σ[i]?)→σ2.length=σ.length→Loose ns b Z' σ2 ad' s'.heap D→s'.heap.PlainList D ws'→RepAll Z' ws'.toList (acc++o1)→Rs s')→
  (match gs[k+1]? with
   | some g'=>wpAny P.M A (eval g'.iter env) (fun x s5=>wpAny P.M A (foldedSetIterable g'.iter env x) (fun x s6=>wpAny P.M A (pyIter x) (fun it' s7=>
     codeAny P.M A (.compStart (.ListComp elt gs scope pos) (k+1) it' (.ref D) env) (fun r s8=>match r with | .ok _=>Rs s8 | .error _=>False) s7) E s6) E s5) E s
   | none=>wpAny P.M A (eval elt env) (fun x s5=>wpAny P.M A (call (.builtin "list.append") [.ref D,x]) (fun υ s6=>Rs s6) E s5) E s)
noncomputable def ui(P:Pm)(wc:Addr)(sc:Scope)(env:Env)(ns:Nms)(own:Nat)(A:Around)(ft:FT)(n:Nat)(ie:IE)(elt:Expr)(gs:List Comprehension)(scope:Scope)(pos:Pos)(q:Tg×IE×List IE)(r:List (Tg×IE×List IE))(k:Nat):Prop:=
 ∀(ds outs:List D) (σ σ1:St) (ad:Nat→Addr) (b:Bs) (Z:Heap) (s:Shared) (I D:Addr) (ws:Array Value) (acc:List PyData) (Rs:Result→Shared→Prop),
  eZ (Dw ft n ie r q σ) ds=some outs→(∀i∈dE (q::r),σ[i]? =some .u0)→(∀i,i∉dE (q::r)→σ1[i]? =σ[i]?)→σ1.length=σ.length→
  SR P wc sc env ns own b Z σ1 ad s→lp P Z I s.heap ds→Loose ns b Z σ1 ad s.heap I→Loose ns b Z σ1 ad s.heap D→s.heap.PlainList D ws→RepAll Z ws.toList acc→D≠I→acc.length+outs.length≤few→
  (∀s' Z' σ2 ad' ws',SR P wc sc env ns own b Z' σ2 ad' s'→Le Z Z'→(∀i,i∉dE (q::r)→σ2[i]? =σ[i]?)→σ2.length=σ.length→Loose ns b Z' σ2 ad' s'.heap D→s'.heap.PlainList D ws'→RepAll Z' ws'.toList (acc++outs)→Rs (.ok .next) s')→
  codeAny P.M A (.compLoop (.ListComp elt gs scope pos) k (.ref I) (.ref D) env) Rs s
theorem cG{o:Obj}{a:Addr}{h:Heap}{vs:Array Value}(l:h.PlainList a vs)(e:h.get? a=some o):eQ o:=by
 refine dh l fun n e'=>?_
 rw[e]at e'; cases e'
 exact⟨⟨_,rfl⟩,.inr ⟨_,_,rfl⟩⟩
theorem emit_nil(H:eU P wc ft n)(R:Room A n){elt:Expr}{ie:IE}{gs:List Comprehension}{scope:Scope}{pos:Pos}{kE k:Nat}(hce:ckE kE ns sc ie elt=true)(heb:isBor ie=false)(hlen:gs[k+1]? =none):
  uj P wc sc env ns own A ft n ie elt gs scope pos [] k:=by
 intro b Z σ ad s D ws acc o1 Rs E ho hun S LD hl hr hsz h
 rw[hlen]
 dsimp only
 skip
 refine bq (aQ.mp ho) fun d hd e=>?_
 cases e
 obtain⟨oD,hoD⟩:∃o,s.heap.get? D=some o:=by obtain⟨n,e⟩:=hl; exact⟨_,e⟩
 have p:=cG hl hoD
 have hzD:b.Z0.get? D=none:=by
  cases e:b.Z0.get? D with
  | none=>rfl
  | some o=>have:=S.zle _ _ e; rw[LD.zn]at this; cases this
 refine H R hce hd (S.addBase LD hoD) fun v s6 Z6 g6 υ r6=>?_
 refine lq (S.dropBase hoD LD.bn hzD p ((S.addBase LD hoD).go g6)) fun S6 L6 h6=>?_
 have hl6:s6.heap.PlainList D ws:=by obtain⟨n,e⟩:=hl; rw[hoD]at e; exact⟨n,by rw[h6]; exact e⟩
 have hs:=dk hr
 refine wpAny_list_append_plain hl6 (fun h' hl' hsb=>?_) (by rw[sizeLine_eq,hs]; rw[few_eq]at hsz; simp only[ah]at hsz; lia -abstractProof)
 have S7:=S6.looseChange L6 (h':=h') (tk:=s6.toks) (fun c o hc e=>(hsb.2 c hc).trans e) S6.ok.tk
 refine h _ Z6 σ ad _ S7 g6.le (fun υ υ=>rfl) rfl ⟨?_,L6.bn,L6.zn,L6.na⟩ hl' ?_
 ·obtain⟨n,e⟩:=hl'; exact⟨_,e,⟨_,rfl⟩,.inr ⟨_,_,rfl⟩⟩
 ·have:=(hr.le g6.le).append (RepAll.cons (r6 heb) RepAll.nil)
  simpa using this
theorem tJ(F:Facts P wc)(H:eU P wc ft n)(R:Room A n){elt:Expr}{ie:IE}{gs:List Comprehension}{scope:Scope}{pos:Pos}{kE k:Nat}{q:Tg×IE×List IE}{r:List (Tg×IE×List IE)}{g':Comprehension}
  (hg:gs[k+1]? =some g') (hcg:xa kE ns sc q g') (hsrc:ckE kE ns sc q.2.1 g'.iter=true)
  (L:ui P wc sc env ns own A ft n ie elt gs scope pos q r (k+1)):uj P wc sc env ns own A ft n ie elt gs scope pos (q::r) k:=by
 intro b Z σ ad s D ws acc o1 Rs E ho hun S LD hl hr hsz h
 rw[hg]
 dsimp only
 obtain⟨t,src,ifs⟩:=q
 skip
 refine bq (ao.mp ho) fun items hi ho=>?_
 obtain⟨oD,hoD⟩:∃o,s.heap.get? D=some o:=by obtain⟨n,e⟩:=hl; exact⟨_,e⟩
 have p:=cG hl hoD
 have hzD:b.Z0.get? D=none:=by
  cases e:b.Z0.get? D with
  | none=>rfl
  | some o=>have:=S.zle _ _ e; rw[LD.zn]at this; cases this
 have S':=S.addBase LD hoD
 refine wpAny_mono (iD F H R hsrc hcg.2.2.1 hi S' _ E fun I s6 Z6 g6 it hf hz=>?_) (fun x s5 hx=>wpAny_of_eq (fC hsrc x) hx) fun υ υ e=>e
 have S6':=S'.go g6
 have LI':=S'.looseIt S6' it hf hz
 refine lq (S.dropBase hoD LD.bn hzD p S6') fun S6 L6 h6=>?_
 have hfr:oD.isFreed=false:=(ba.mp hoD).2
 have LI:=LI'.drop hfr
 have hne:D≠I:=fun e=>by rw[e,hf]at hoD; cases hoD
 have hl6:s6.heap.PlainList D ws:=by obtain⟨n,e⟩:=hl; rw[hoD]at e; exact⟨n,by rw[h6]; exact e⟩
 have loop:codeAny P.M A (.compLoop (.ListComp elt gs scope pos) (k+1) (.ref I) (.ref D) env) (fun r s8=>match r with | .ok _=>Rs s8 | .error _=>False) s6:=
  L items o1 σ σ ad b Z6 s6 I D ws acc _ ho hun (fun υ υ=>rfl) rfl S6 it LI L6 hl6 (hr.le g6.le) hne hsz fun s' Z' σ2 ad' ws' S2 hle ha hln LD2 hl2 hr2=>h s' Z' σ2 ad' ws' S2 (g6.le.trans hle) ha hln LD2 hl2 hr2
 exact eG hg hcg.1 loop (it.self R.hd loop)
theorem jt(HT:jN P wc ft n)(R:Room A n){elt:Expr}{ie:IE}{gs:List Comprehension}{scope:Scope}{pos:Pos}{kE k:Nat}{q:Tg×IE×List IE}{r:List (Tg×IE×List IE)}{g:Comprehension}
  (hg:gs[k]? =some g) (hcg:xa kE ns sc q g) (hg1:∀g',gs[k+1]? =some g'→g'.is_async=0) (hnd:(dE (q::r)).Nodup) (hown:∀i∈dE (q::r),own≤i)
  (Em:uj P wc sc env ns own A ft n ie elt gs scope pos r k):ui P wc sc env ns own A ft n ie elt gs scope pos q r k:=by
 intro ds
 have hsl:dE (q::r)=slots q.1++dE r:=by simp[dE]
 have hdis:∀i∈slots q.1,i∉dE r:=fun i h1 h2=>by
  rw[hsl]at hnd
  exact(List.nodup_append.mp hnd).2.2 i h1 i h2 rfl
 induction ds with
 | nil=>
  intro outs σ σ1 ad b Z s I D ws acc Rs ho hun hag hln S it LI LD hl hr hne hsz h
  cases ho
  refine dM hg hcg.1 hg1 (it.done S.ok R.hd fun h' tk hk htk=>?_)
  have S1:=S.looseChange LI hk htk
  refine h _ Z σ1 ad ws S1 (.refl _) hag hln (LD.keep hk hne) ?_ (by simpa using hr)
  obtain⟨m,e⟩:=hl; exact⟨m,hk _ _ hne e⟩
 | cons d ds ih=>
  intro outs σ σ1 ad b Z s I D ws acc Rs ho hun hag hln S it LI LD hl hr hne hsz h
  refine gw (kG ho) fun o1 o2 h1 h2 e88_1=>?_; subst e88_1
  refine dM hg hcg.1 hg1 (it.next S.ok R.hd fun v h' tk rv it1 hk htk=>?_)
  dsimp only
  have S1:=S.looseChange LI hk htk
  have hl1:h'.PlainList D ws:=by obtain⟨m,e⟩:=hl; exact⟨m,hk _ _ hne e⟩
  have LD1:=LD.keep hk hne
  have S1':=S1.weaken σ hln.symm (fun i=>by
   by_cases hi:i∈dE (q::r)
   ·exact .inr (.inl (hun i hi))
   ·exact .inl (hag i hi).symm)
  have nas:∀(i:Nat) (x:Str) (ds:List PyData),σ[i]? =some (.mut ds)→σ1[i]? =some (.mut ds):=fun i x ds e=>by
   by_cases hi:i∈dE (q::r)
   ·rw[hun i hi]at e; cases e
   ·rw[hag i hi]; exact e
  refine bq it1.obj fun oI hoI pI=>?_
  have LI1:Loose ns b Z σ ad h' I:=⟨⟨oI,hoI,pI.plainish⟩,LI.bn,LI.zn,fun i x ds hx e=>LI.na i x ds hx (nas i x ds e)⟩
  have LD1':Loose ns b Z σ ad h' D:=⟨LD1.ob,LD1.bn,LD1.zn,fun i x ds hx e=>LD1.na i x ds hx (nas i x ds e)⟩
  obtain⟨oD,hoD⟩:∃o,h'.get? D=some o:=by obtain⟨n,e⟩:=hl1; exact⟨_,e⟩
  have pD:=cG hl1 hoD
  have hfI:oI.isFreed=false:=(ba.mp hoI).2
  have hfD:oD.isFreed=false:=(ba.mp hoD).2
  have z0:∀a,Z.get? a=none→b.Z0.get? a=none:=fun a ha=>by
   cases e:b.Z0.get? a with
   | none=>rfl
   | some o=>have:=S.zle _ _ e; rw[ha]at this; cases this
  have S2:=S1'.addBase LI1 hoI
  have LD2:=LD1'.add (o:=oI) hne
  have S3:=S2.addBase LD2 hoD
  refine Gk hcg.2.1 it1 ?_
  unfold Dw at h1
  refine bq (ao.mp h1) fun σ' hb h1=>?_
  refine bq (ao.mp h1) fun t ht h1=>?_
  refine S3.tg R.hd hcg.2.1 hb (fun i hi=>hown i (by rw[hsl]; exact cV _ hi)) rv fun s4 ad4 S4=>?_
  refine jO HT R hcg.2.2.2 ht S4 fun s5 Z5 g5=>?_
  have S5':=S4.go g5
  refine lq (S2.dropBase hoD LD2.bn (z0 _ LD1.zn) pD S5') fun S5 L5 h5=>?_
  have hl5:s5.heap.PlainList D ws:=by obtain⟨n,e⟩:=hl1; rw[hoD]at e; exact⟨n,by rw[h5]; exact e⟩
  have hun':∀i∈dE r,σ'[i]? =some .u0:=fun i hi=>by
   rw[lh hb (fun q'=>hdis i q' hi)]
   exact hun i (by rw[hsl]; exact dQ _ hi)
  have hoff:∀i,i∉dE (q::r)→σ'[i]? =σ[i]? :=fun i hi=>lh hb (fun q'=>hi (by rw[hsl]; exact cV _ q'))
  have fin:∀(s6:Shared) (Z6:Heap) (σ2:St) (ad6:Nat→Addr) (ws6:Array Value),SR P wc sc env ns own (b.add I oI) Z6 σ2 ad6 s6→Le Z5 Z6→(∀i,i∉dE r→σ2[i]? =σ'[i]?)→σ2.length=σ'.length→
    Loose ns (b.add I oI) Z6 σ2 ad6 s6.heap D→s6.heap.PlainList D ws6→RepAll Z6 ws6.toList (acc++o1)→
    codeAny P.M A (.compLoop (.ListComp elt gs scope pos) k (.ref I) (.ref D) env) Rs s6:=fun s6 Z6 σ2 ad6 ws6 S6 hle ha hln6 LD6 hl6 hr6=>by
   refine lq (S1'.dropBase hoI LI.bn (z0 _ LI.zn) pI.plainish S6) fun S7 LI7 hI7=>?_
   have hle':Le Z Z6:=g5.le.trans hle
   have it7:lp P Z6 I s6.heap ds:=it1.frame S1.ok.z S7.ok.z hle' fun o e=>by rw[hoI]at e; cases e; exact hI7
   refine ih o2 σ σ2 ad6 b Z6 s6 I D ws6 (acc++o1) Rs h2 hun (fun i hi=>?_) (hln6.trans (qn hb)) S7 it7 LI7 (LD6.drop hfI) hl6 hr6 hne (by simp only[ak]at hsz⊢; lia -abstractProof) fun s' Z' σ3 ad' ws' S' hle3 ha3 hln3 LD3 hl3 hr3=>
    h s' Z' σ3 ad' ws' S' (hle'.trans hle3) ha3 hln3 LD3 hl3 (by rw[←bo]; exact hr3)
   rw[ha i (fun q'=>hi (by rw[hsl]; exact dQ _ q'))]
   exact hoff i hi
  cases t with
  | false=>
   skip
   cases h1
   exact fin s5 Z5 σ' ad4 ws S5 (.refl _) (fun υ υ=>rfl) rfl L5 hl5 (by rw[List.append_nil]; exact hr.le g5.le)
  | true=>
   skip
   exact Em (b.add I oI) Z5 σ' ad4 s5 D ws acc o1 _ _ h1 hun' S5 L5 hl5 (hr.le g5.le) (by simp only[ak]at hsz; lia -abstractProof) fin
theorem nK(F:Facts P wc)(H:eU P wc ft n)(HT:jN P wc ft n)(R:Room A n){elt:Expr}{ie:IE}{gs:List Comprehension}{scope:Scope}{pos:Pos}{kE:Nat}(hce:ckE kE ns sc ie elt=true)(heb:isBor ie=false):
  ∀(r:List (Tg×IE×List IE)) (k:Nat) (q:Tg×IE×List IE),
   (∀(j:Nat) q',(q::r)[j]? =some q'→∃g,gs[k+j]? =some g∧xa kE ns sc q' g)→(∀(j:Nat) q',r[j]? =some q'→∀g,gs[k+1+j]? =some g→ckE kE ns sc q'.2.1 g.iter=true)→
   gs.length=k+1+r.length→(dE (q::r)).Nodup→(∀i∈dE (q::r),own≤i)→ui P wc sc env ns own A ft n ie elt gs scope pos q r k:=by
 intro r
 induction r with
 | nil=>
  intro k q hg hg2 hlen hnd hown
  refine bq (hg 0 q rfl) fun g h1 h2=>?_
  have e:gs[k+1]? =none:=bj (by rw[hlen]; exact bL _)
  exact jt HT R h1 h2 (fun g' e'=>by rw[e]at e'; cases e') hnd hown (emit_nil H R hce heb e)
 | cons q' r ih=>
  intro k q hg hg2 hlen hnd hown
  refine bq (hg 0 q rfl) fun g h1 h2=>?_
  refine bq (hg 1 q' rfl) fun g' h1' h2'=>?_
  have hsl:dE (q::q'::r)=slots q.1++dE (q'::r):=by simp[dE]
  refine jt HT R h1 h2 (fun g2 e'=>by rw[h1']at e'; cases e'; exact h2'.1) hnd hown (tJ F H R h1' h2' (hg2 0 q' rfl g' h1') ?_)
  refine ih (k+1) q' (fun j p hp=>?_) (fun j p hp g2 e=>?_) (by rw[hlen]; simp only[ah]; exact F3) ?_ fun i hi=>hown i (by rw[hsl]; exact dQ _ hi)
  ·refine bq (hg (j+1) p (by simpa using hp)) fun g2 e1 e2=>?_
   exact gX g2 (by rw[←e1]; congr 1; exact ET) e2
  ·exact hg2 (j+1) p (by simpa using hp) g2 (by rw[←e]; congr 1; exact F3)
  ·rw[hsl]at hnd; exact(List.nodup_append.mp hnd).2.1
end
section
variable {P:Pm}{wc:Addr}{sc:Scope}{env:Env}{ns:Nms}{own:Nat}{b:Bs}{Z Z' Z1:Heap}{σ σ':St}{ad:Nat→Addr}{s s':Shared}{A:Around}{ft:FT}{n:Nat}
theorem Go.changeFresh(g:Go P Z s Z' s'){C:Addr}(hC:s.heap.get? C=none)(hz:Z'.get? C=none)(hT:C∉P.T){h':Heap}(hs:Heap.SameBut C s'.heap h'):Go P Z s Z' {s' with heap:=h'}:=by
 refine⟨⟨fun c o e=>(hs.2 c (fun q=>by rw[q,hz]at e; cases e)).trans (g.ok.z c o e),g.ok.g,g.ok.zT,P.to1 g.ok.tab (.refl _) (fun t ht=>hs.2 t fun q=>hT (by rw[←q]; exact ht)),g.ok.gens,g.ok.os,g.ok.tk⟩,g.le,fun c o hc e=>?_,g.fresh⟩
 exact(hs.2 c (fun q=>by rw[q,hC]at e; cases e)).trans (g.keep c o hc e)
inductive CompEx(k:Nat)(ns:Nms)(sc:Scope)(own:List String)(free:List Nat)(sc':Scope):List (Tg×IE×List IE)→List Comprehension→Prop
 | mk (t src ifs r tg it cs r') (h1:ckE k ns sc src it=true) (h2:jR src=true) (h3:mV (fB free ns own) t tg=true) (h4:gO (ckE k (fB free ns own) sc') ifs cs=true) (h5:(dE ((t,src,ifs)::r)).Nodup) (h6:∀i∈dE ((t,src,ifs)::r),ns.length≤i)
  (h7:gO (fun(q:Tg×IE×List IE) (g:Comprehension)=>decide (g.is_async=0)&&mV (fB free ns own) q.1 g.target&&jR q.2.1&&ckE k (fB free ns own) sc' q.2.1 g.iter&&gO (ckE k (fB free ns own) sc') q.2.2 g.ifs) r r'=true):CompEx k ns sc own free sc' ((t,src,ifs)::r) (⟨tg,it,cs,0⟩::r')
structure CompCk(k:Nat)(ns:Nms)(sc:Scope)(elt:IE)(gens:List (Tg×IE×List IE))(own:List String)(free:List Nat)(el:Expr)(gs:List Comprehension)(sc':Scope):Prop where
 scope:ScopeOk sc sc' ns own free
 ex:CompEx k ns sc own free sc' gens gs
 eltc:ckE k (fB free ns own) sc' elt el=true
 bor:isBor elt=false
theorem CompCk.hd{k:Nat}{elt:IE}{gens:List (Tg×IE×List IE)}{ow:List String}{free:List Nat}{el:Expr}{gs:List Comprehension}{sc':Scope}(C:CompCk k ns sc elt gens ow free el gs sc'):∃tg it cs r' src,gs=⟨tg,it,cs,0⟩::r'∧ckE k ns sc src it=true:=by
 obtain⟨υ,h,υ,υ⟩:=C
 cases h with | mk t src ifs r tg it cs r' h1=>exact⟨tg,it,cs,r',src,rfl,h1⟩
theorem oo{k:Nat}{elt:IE}{gens:List (Tg×IE×List IE)}{ow:List String}{free:List Nat}{e:Expr}(h:ckE (k+1) ns sc (.comp elt gens ow free) e=true):
  ∃el gs sc' pos,e= .ListComp el gs sc' pos∧CompCk k ns sc elt gens ow free el gs sc':=
 kLC' h fun υ υ υ υ h=>bA4 h fun h1 h2 h3 h4=>i4_2 _ _ _ _ rfl ⟨k5 h1,kc' h2 fun υ1q0 r h=>by obtain⟨t,src,ifs⟩:=υ1q0; exact kc' h fun υ2q0 r' h=>by obtain⟨tg,it,cs,z⟩:=υ2q0; exact bA8 h fun a0 a1 a2 a3 a4 a5 a6 a7=>kD' (a:=z) a0 (.mk t src ifs r tg it cs r' a2 a1 a5 a6 (of_decide_eq_true a3) (fun i hi=>of_decide_eq_true (bh.mp a4 i hi)) a7),h3,kL h4⟩
theorem pC{α β:Type}{f:α→β→Bool}{as:List α}{bs:List β}(h:gO f as bs=true):∀(j:Nat) a,as[j]? =some a→∃b,bs[j]? =some b∧f a b=true:=by
 refine iU (M:=fun as bs=>∀(j:Nat) a,as[j]? =some a→∃b,bs[j]? =some b∧f a b=true) (fun j a h=>by cases h) (fun a b as bs h υ e j=>?_) as bs h
 cases j with
 | zero=>exact fun c hc=>⟨b,rfl,ax.inj hc▸h⟩
 | succ j=>exact e j
theorem Ao{k:Nat}{ns:Nms}{sc:Scope}{t:Tg}{src:IE}{ifs:List IE}{r:List (Tg×IE×List IE)}{tg itx:Expr}{cs:List Expr}{r':List Comprehension}(h3:mV ns t tg=true)(h2:jR src=true)(h4:gO (ckE k ns sc) ifs cs=true)
  (h:gO (fun(q:Tg×IE×List IE) (g:Comprehension)=>decide (g.is_async=0)&&mV ns q.1 g.target&&jR q.2.1&&ckE k ns sc q.2.1 g.iter&&gO (ckE k ns sc) q.2.2 g.ifs) r r'=true):
  ∀(j:Nat) q',((t,src,ifs)::r)[j]? =some q'→∃g,((⟨tg,itx,cs,0⟩:Comprehension)::r')[0+j]? =some g∧xa k ns sc q' g:=fun j q' hq=>by
 rw[cR]
 cases j with
 | zero=>cases hq; exact⟨_,rfl,rfl,h3,h2,h4⟩
 | succ j=>
  obtain⟨g',e,hgq⟩:=pC h j q' hq
  exact bA5 hgq fun h1 h2 h3 υ h5=>⟨g',e,of_decide_eq_true h1,h2,h3,h5⟩
theorem vY{k:Nat}{ns:Nms}{sc:Scope}{g0:Comprehension}{r:List (Tg×IE×List IE)}{r':List Comprehension}
  (h:gO (fun(q:Tg×IE×List IE) (g:Comprehension)=>decide (g.is_async=0)&&mV ns q.1 g.target&&jR q.2.1&&ckE k ns sc q.2.1 g.iter&&gO (ckE k ns sc) q.2.2 g.ifs) r r'=true):
  ∀(j:Nat) q',r[j]? =some q'→∀g,(g0::r')[0+1+j]? =some g→ckE k ns sc q'.2.1 g.iter=true:=fun j q' hq g' e=>by
 obtain⟨g2,e2,hgq⟩:=pC h j q' hq
 rw[show 0+1+j=j+1 by exact aq44,List.getElem?_cons_succ,e2]at e
 cases e
 exact bA5 hgq fun υ υ υ h4 υ=>h4
theorem zz{ns:Nms}{j:Nat}{x:Str}(h:nmIs ns j x=true):j<ns.length:=by
 rcases bS j ns.length with q | q
 ·exact q
 ·have:=fJ h
  rw[bj q]at this; cases this
theorem Gj{ns:Nms}{t:Tg}{e:Expr}{i:Nat}(hc:mV ns t e=true)(hi:i∈slots t):i<ns.length:=by
 cases t with
 | one a=>
  obtain⟨υ,υ,υ,c1⟩:=px hc
  cases ay.mp hi
  exact zz c1
 | two a b=>
  obtain⟨υ,υ,υ,υ,υ,υ,υ,c1,c2⟩:=lT hc
  rcases aP.mp hi with e | hi
  ·cases e; exact zz c1
  ·cases ay.mp hi; exact zz c2
theorem jj(F:Facts P wc)(H:eU P wc ft n)(HT:jN P wc ft n)(R:Room A n){k:Nat}{elt:IE}{gens:List (Tg×IE×List IE)}{ow:List String}{free:List Nat}{el:Expr}{gs:List Comprehension}{sc':Scope}{pos:Pos}
  (C:CompCk k ns sc elt gens ow free el gs sc') {d:PyData} (hd:j8 (evE ft n) σ elt gens ow free=some d) (S:SR P wc sc env ns own b Z σ ad s) {cl:List (Str×Addr)} (hcl:∀x,(x,NameKind.free)∈sc'.names→cl.lookup x=env.cells.lookup x)
  {RR:Value→Addr→Result→Shared→Prop} {E:Value→Shared→Prop}
  (h:∀D C s5 Z5 m ws outs,Go P Z s Z5 s5→d= .list outs→s5.heap.PlainList D ws→RepAll Z5 ws.toList outs→s.heap.get? D=none→Z5.get? D=none→s5.heap.Ns C m→s.heap.get? C=none→Z5.get? C=none→C∉P.T→C≠D→RR (.ref D) C (.ok .next) s5):
  wpAny P.M A (firstIter gs env) (fun x s₁=>wpAny P.M A (pyIter x) (fun it s₂=>wpAny P.M A (newList []) (fun acc s₃=>
   wpAny P.M A (newFunctionEnv sc' env.globals cl [] env.qual none .none (some env)) (fun cenv s₄=>
    codeAny P.M A (.compStart (.ListComp el gs sc' pos) 0 it acc {cenv with scope:=relabel sc' env}) (RR acc cenv.locals) s₄) E s₃) E s₂) E s₁) E s:=by
 cases C.ex with | mk t src ifs r tg itx cs r' hs1 hs2 hs3 hs4 hnd hown hall=>
 refine ov1 hd fun items hi hd=>ov1 hd fun outs ho hd=>?_
 obtain⟨hsz,rfl⟩:=oif hd
 ·skip
  refine(?_:wpAny P.M A (eval itx env) _ _ _)
  refine iD F H R hs1 hs2 hi S _ _ fun I s2 Z2 g2 it hf hz=>?_
  refine wpAny_newObj_type ?_
  have g3:Go P Z2 s2 Z2 {s2 with heap:=s2.heap.push {cls:= .type "list",dict:=none,data:= .seq ([]:List Value).toArray}}:=Go.push' g2.ok _
  have g:=g2.trans g3
  refine iy fun cenv0 hc0=>?_
  generalize h3:({s2 with heap:=s2.heap.push {cls:= .type "list",dict:=none,data:= .seq ([]:List Value).toArray}}:Shared)=s3 at g3 g hc0⊢
  generalize hce:({cenv0 with scope:=relabel sc' env}:Env)=cenv
  generalize h4:({s3 with heap:=pushCells (s3.heap.push {cls:= .type "dict",data:= .dict #[]}) sc'.names}:Shared)=s4
  refine x0_7 (S.comp C.scope g hcl (cenv:=cenv) (by rw[←hce,hc0]) h4.symm) fun SC g4 hns hfC hsC hzC hoC=>?_
  have hloc:cenv0.locals=cenv.locals:=by rw[←hce]
  rw[hloc]
  refine bq it.obj fun oI hoI pI=>?_
  have k3:Le s2.heap s3.heap:=by rw[←h3]; exact Le.push _ _
  have k4:Le s3.heap s4.heap:=fun c o e=>by rw[←h4]; exact pushCells_keeps _ _ c o (aU _ e)
  have it4:lp P Z2 I s4.heap items:=it.frame g2.ok.z SC.ok.z (.refl _) fun o e=>k4 _ _ (k3 _ _ e)
  have nomut:∀(i:Nat) (ds:List PyData),(mask free σ ow.length)[i]? ≠some (.mut ds):=fun i ds e=>by
   rcases iL e with q | ⟨d,q,_⟩<;>cases q
  have hfD:s.heap.get? s2.heap.objs.size=none:=g2.older (get?_size _)
  have hlD:s4.heap.PlainList s2.heap.objs.size #[]:=⟨_,k4 _ _ (by rw[←h3]; exact aJ _ rfl)⟩
  have LI:Loose (fB free ns ow) ⟨s.heap,Z⟩ Z2 (mask free σ ow.length) ad s4.heap I:=⟨⟨oI,k4 _ _ (k3 _ _ hoI),pI.plainish⟩,hf,hz,fun i x ds υ e=>absurd e (nomut i ds)⟩
  have LD:Loose (fB free ns ow) ⟨s.heap,Z⟩ Z2 (mask free σ ow.length) ad s4.heap s2.heap.objs.size:=⟨by obtain⟨n,e⟩:=hlD; exact⟨_,e,⟨_,rfl⟩,.inr ⟨_,_,rfl⟩⟩,hfD,g2.ok.znone (get?_size _),fun i x ds υ e=>absurd e (nomut i ds)⟩
  have hne:s2.heap.objs.size≠I:=fun e=>absurd (cQ hoI) (by rw[←e]; exact Nat.lt_irrefl _)
  have hg0:=Ao (itx:=itx) hs3 hs2 hs4 hall
  have LO:=nK (env:=cenv) (own:=ns.length) F H HT R (scope:=sc') (pos:=pos) (gs:=(⟨tg,itx,cs,0⟩:Comprehension)::r') C.eltc C.bor r 0 (t,src,ifs) hg0 (vY hall) (by rw[ah,←iu hall]; exact aq45) hnd hown
  have loop:codeAny P.M A (.compLoop (.ListComp el ((⟨tg,itx,cs,0⟩:Comprehension)::r') sc' pos) 0 (.ref I) (.ref s2.heap.objs.size) cenv) (RR (.ref s2.heap.objs.size) cenv.locals) s4:=by
   refine LO items outs (mask free σ ow.length) (mask free σ ow.length) ad ⟨s.heap,Z⟩ Z2 s4 I s2.heap.objs.size #[] [] _ ho (fun i hi=>?_) (fun υ υ=>rfl) rfl SC it4 LI LD hlD (by simpa using RepAll.nil) hne (by simpa using hsz) fun s5 Z5 σ2 ad5 ws5 S5 hle υ υ LD5 hl5 hr5=>?_
   ·refine vG (by rw[S.len]; exact hown i hi) ?_
    refine bq (List.mem_flatMap.mp hi) fun q hq hiq=>?_
    refine dh (List.getElem?_of_mem hq) fun j hj=>?_
    refine bq (hg0 j q hj) fun g' υ hgq=>?_
    have:=Gj hgq.2.1 hiq
    rw[jr,←S.len]at this
    exact this
   ·have g5:Go P Z s Z5 s5:=S5.toGo
    obtain⟨oD,hoD⟩:∃o,s5.heap.get? s2.heap.objs.size=some o:=by obtain⟨n,e⟩:=hl5; exact⟨_,e⟩
    have pD:=cG hl5 hoD
    refine bq S5.nss fun m hm υ=>?_
    have hCD:cenv.locals≠s2.heap.objs.size:=fun e=>by
     refine pF hm fun o' es ep e' hd' υ=>?_
     rw[e,hoD]at e'; cases e'; exact pD.notDict hd'
    exact h _ _ s5 _ m ws5 outs g5 rfl hl5 (by simpa using hr5) hfD LD5.zn hm hsC S5.lz (S5.ok.nsT hm) hCD
  exact eG (g:=⟨tg,itx,cs,0⟩) rfl rfl loop (it4.self R.hd loop)
theorem tS(F:Facts P wc)(H:eU P wc ft n)(HT:jN P wc ft n)(R:Room A n){k:Nat}{elt:IE}{gens:List (Tg×IE×List IE)}{ow:List String}{free:List Nat}{el:Expr}{gs:List Comprehension}{sc':Scope}{pos:Pos}
  (C:CompCk k ns sc elt gens ow free el gs sc') {d:PyData} (hd:j8 (evE ft n) σ elt gens ow free=some d) (S:SR P wc sc env ns own b Z σ ad s) {cl:List (Str×Addr)} (hcl:∀x,(x,NameKind.free)∈sc'.names→cl.lookup x=env.cells.lookup x)
  {RR:Value→Addr→Result→Shared→Prop} {E:Value→Shared→Prop}
  (h:∀D C s5 Z5 m,Go P Z s Z5 s5→Rep Z5 (.ref D) d→s5.heap.Ns C m→s.heap.get? C=none→Z5.get? C=none→C∉P.T→RR (.ref D) C (.ok .next) s5):
  wpAny P.M A (firstIter gs env) (fun x s₁=>wpAny P.M A (pyIter x) (fun it s₂=>wpAny P.M A (newList []) (fun acc s₃=>
   wpAny P.M A (newFunctionEnv sc' env.globals cl [] env.qual none .none (some env)) (fun cenv s₄=>
    codeAny P.M A (.compStart (.ListComp el gs sc' pos) 0 it acc {cenv with scope:=relabel sc' env}) (RR acc cenv.locals) s₄) E s₃) E s₂) E s₁) E s:=by
 refine jj F H HT R C hd S hcl fun D C s5 Z5 m ws outs g e hl hr hfD hzD hm hC hz hT hne=>?_
 subst e
 obtain⟨oD,hoD⟩:∃o,s5.heap.get? D=some o:=by obtain⟨n,e⟩:=hl; exact⟨_,e⟩
 have pD:=cG hl hoD
 have hTD:D∉P.T:=g.ok.notT hoD (.inl pD.notNone)
 refine h _ _ s5 _ m (g.freeze hoD hfD hzD hTD) (Rep.list (vs:=ws) ?_ (hr.le (dY hzD))) hm hC (by rw[cD hne]; exact hz) hT
 refine dh hl fun nn e=>?_
 exact⟨nn,by rw[cM (ba.mp hoD).2,←hoD]; exact e⟩
theorem qk(F:Facts P wc)(H:eU P wc ft n)(HT:jN P wc ft n)(R:Room A n){k:Nat}{elt:IE}{gens:List (Tg×IE×List IE)}{ow:List String}{free:List Nat}{e:Expr}(hc:ckE (k+1) ns sc (.comp elt gens ow free) e=true)
  {d:PyData} (hd:j8 (evE ft n) σ elt gens ow free=some d) (S:SR P wc sc env ns own b Z σ ad s) {Q:Value→Shared→Prop} {E:Value→Shared→Prop}
  (h:∀v s' Z',Go P Z s Z' s'→Rep Z' v d→Q v s'):wpAny P.M A (eval e env) Q E s:=by
 refine FN (oo hc) fun el gs sc' pos e58_1 C=>?_; subst e58_1
 refine bq (S.closure C.scope) fun cl hcl hcl'=>?_
 refine Ga C.hd fun tg itx cs r' src e2 hs1=>?_
 rw[eval_ListComp]
 have hasy:firstAsync gs=false:=by rw[e2]; rfl
 rw[hasy]
 refine wpAny_comprehension_free (use:=none) (g:=⟨tg,itx,cs,0⟩) (gs:=r') (by rw[e2]; rfl) (fun x=>fC hs1 x) hcl C.scope.kind C.scope.locs ?_
 refine tS (RR:=fun acc C r s'=>compPost P.M A E none Q acc C r s') F H HT R C hd S hcl' fun D C s5 Z5 m g r hm hC hz hT=>?_
 exact gX m hm (fun h' hs=>h _ _ Z5 (g.changeFresh hC hz hT hs) r)
end
section inversion
variable {ns:Nms}{sc:Scope}{k:Nat}{e:Expr}
theorem Ef{x:String}(h:ckE (k+1) ns sc (.str x) e=true):∃a c,e= .Constant (.str (aa x)) a c:=
 kConst' h fun υ υ υ h=>kSt' h fun υ h=>kB h (uq _ _ rfl)
theorem Eh{g:Nat}(h:ckE (k+1) ns sc (.glo g) e=true):(g=0∧∃x p,e= .Name x p∧hK sc x "ELLIPSIS_MARKER"=true)∨(g=1∧∃x p,e= .Name x p∧hK sc x "_DIV_LIMIT"=true)∨
  (g=2∧∃x p q,e= .Attribute (.Name x p) (aa "S") q∧hK sc x "Whitespace"=true)∨(g=3∧∃x p q,e= .Attribute (.Name x p) (aa "T") q∧hK sc x "Whitespace"=true):=by
 match g,h with
 | 0,h=>exact dC h fun υ υ h=> .inl ⟨rfl,_,_,rfl,h⟩
 | 1,h=>exact dC h fun υ υ h=> .inr (.inl ⟨rfl,_,_,rfl,h⟩)
 | 2,h=>exact gB h fun υ υ υ h=>dC h fun υ υ h=>bA2 h fun h1 h2=>kB' h2 (.inr (.inr (.inl ⟨rfl,_,_,_,rfl,h1⟩)))
 | 3,h=>exact gB h fun υ υ υ h=>dC h fun υ υ h=>bA2 h fun h1 h2=>kB' h2 (.inr (.inr (.inr ⟨rfl,_,_,_,rfl,h1⟩)))
 | _+4,h=>exact kno h
theorem Ei{op:Operator}{a b:IE}(h:ckE (k+1) ns sc (.bin op a b) e=true):∃l r p,e= .BinOp l op r p∧ckE k ns sc a l=true∧ckE k ns sc b r=true:=
 vP h fun υ υ υ υ h=>bA3 h fun h h1 h2=>kD h (FY _ _ _ rfl h1 h2)
theorem yi{a b:IE}(h:ckE (k+1) ns sc (.and a b) e=true):∃x y p,e= .BoolOp .And [x,y] p∧ckE k ns sc a x=true∧ckE k ns sc b y=true∧isBor b=false:=
 kBool' h fun υ υ υ h=>k2' h fun υ υ h=>bA4 h fun h h1 h2 h3=>kD h (i3_4 _ _ _ rfl h1 h2 (kL h3))
theorem Eg{a b:IE}(h:ckE (k+1) ns sc (.or a b) e=true):∃x y p,e= .BoolOp .Or [x,y] p∧ckE k ns sc a x=true∧ckE k ns sc b y=true∧isBor b=false:=
 kBool' h fun υ υ υ h=>k2' h fun υ υ h=>bA4 h fun h h1 h2 h3=>kD h (i3_4 _ _ _ rfl h1 h2 (kL h3))
theorem Bc{es:List IE}(h:ckE (k+1) ns sc (.list es) e=true):∃xs p,e= .List xs p∧gO (ckE k ns sc) es xs=true∧(es.all fun e=> !isBor e)=true:=
 sC h fun υ υ h=>bA2 h fun h1 h2=>uo _ _ rfl h1 h2
theorem wY{a:IE}{lo hi:Option IE}(h:ckE (k+1) ns sc (.slice a lo hi) e=true):∃v l r p q,e= .Subscript v (.Slice l r none p) q∧ckE k ns sc a v=true∧CS (ckE k ns sc) lo l=true∧CS (ckE k ns sc) hi r=true:=
 sy h fun υ υ υ h=>zR h fun υ υ υ υ h=>kO0' h fun h=>bA3 h fun h1 h2 h3=>i5_4 _ _ _ _ _ rfl h1 h2 h3
theorem Be{f:Nat}{es:List IE}(h:ckE (k+1) ns sc (.call f es) e=true):∃x np xs pos nm,e= .Call (.Name x np) xs [] pos∧j3 f=some nm∧hK sc x nm=true∧gO (ckE k ns sc) es xs=true∧(es.all fun e=> !isBor e)=true:=
 kCall' h fun υ υ υ υ h=>dC h fun υ υ h=>k0' h fun h=>bA4 h fun h1 h2 υ h4=>bq (kOnE h1) fun υ e h1=>i5_5 _ _ _ _ _ rfl e h1 h2 h4
theorem tV{es:List IE}(h:ckE (k+1) ns sc (.bi .lenset es) e=true):∃a x np y mp z p q,es=[a]∧e= .Call (.Name x np) [.Call (.Name y mp) [z] [] p] [] q∧hK sc x "len"=true∧hK sc y "set"=true∧ckE k ns sc a z=true:=
 kCall' (show pz (ckE k ns sc) sc es e=true from h) fun υ υ υ υ h=>dC h fun υ υ h=>k1' h fun υ h=>kCall' h fun υ υ υ υ h=>dC h fun υ υ h=>k1' h fun υ h=>k0' h fun h=>k0' h fun h=>k1' h fun υ h=>
  bA3 h fun h1 h2 h3=>i8_5 _ _ _ _ _ _ _ _ rfl rfl h1 h2 h3
theorem Bd{a:IE}{es:List IE}(h:ckE (k+1) ns sc (.mt .flagName a es) e=true):∃x np apos y hh hp z p pos,es=[]∧e= .Call (.Attribute (.Name x np) (aa "get") apos) [y,.Call (.Name hh hp) [z] [] p] [] pos∧
  hK sc x "COMPILER_FLAG_NAMES"=true∧hK sc hh "hex"=true∧ckE k ns sc a y=true∧ckE k ns sc a z=true∧(apos.endLine==pos.line)=true:=
 kCall' (show yj (ckE k ns sc) sc a es e=true from h) fun υ υ υ υ h=>gB h fun υ υ υ h=>dC h fun υ υ h=>k2' h fun υ υ h=>kCall' h fun υ υ υ υ h=>dC h fun υ υ h=>k1' h fun υ h=>k0' h fun h=>k0' h fun h=>k0' h fun h=>
  bA6 h fun h1 h2 h3 h4 h5 h6=>kB' h2 (i9_7 _ _ _ _ _ _ _ _ _ rfl rfl h1 h3 h4 h5 h6)
theorem Bb{m:Mt}{a:IE}{es:List IE}(h:ckE (k+1) ns sc (.mt m a es) e=true)(hm:m≠ .flagName):∃o apos xs pos,e= .Call (.Attribute o (aa (mz m)) apos) xs [] pos∧
  nD o=true∧ckE k ns sc a o=true∧gO (ckE k ns sc) es xs=true∧(apos.endLine==pos.line)=true∧es.length<20∧(m= .replace→es.all o5=true):=
 kIte h (fun q υ=>absurd (by cases m<;>first | rfl | exact Bool.noConfusion q) hm) fun υ h=>kCall' (show ckMt (ckE k ns sc) m a es e=true from h) fun υ υ υ υ h=>gB h fun υ υ υ h=>k0' h fun h=>bA7 h fun h2 h3 h4 h5 h6 h7 h8=>
  kB' h2 (i4_7 _ _ _ _ rfl h3 h4 h5 h6 (of_decide_eq_true h7) fun q=>(Bool.or_eq_true_iff.mp h8).resolve_left fun q'=>of_decide_eq_true q' q)
theorem Bf{i:Nat}{nm:String}(h:ckE (k+1) ns sc (.attr i nm) e=true):∃x p q,e= .Attribute (.Name x p) (aa nm) q∧ns[i]? =some (some x)∧nm∈wNames:=
 gB h fun υ υ υ h=>dC h fun υ υ h=>bA3 h fun h1 h2 h3=>kB' h2 (FY _ _ _ rfl (fJ h1) (List.contains_iff_mem.mp h3))
theorem wZ{i:Nat}(h:ckE (k+1) ns sc (.methW i) e=true):∃x p apos pos,e= .Call (.Attribute (.Name x p) (aa "longest_run_of_spaces") apos) [] [] pos∧ns[i]? =some (some x)∧(apos.endLine==pos.line)=true:=
 kCall' h fun υ υ υ υ h=>gB h fun υ υ υ h=>dC h fun υ υ h=>k0' h fun h=>k0' h fun h=>bA3 h fun h1 h2 h3=>kB' h2 (i4_3 _ _ _ _ rfl (fJ h1) h3)
end inversion
section
variable {P:Pm}{wc:Addr}{sc:Scope}{env:Env}{ns:Nms}{own:Nat}{b:Bs}{Z Z' Z1:Heap}{σ σ':St}{ad:Nat→Addr}{s s':Shared}{A:Around}{ft:FT}{n:Nat}
theorem mv{k:Nat}{ie:IE}{e:Expr}(hc:ckE k ns sc ie e=true)(op:CmpOp):behindInMarks op e=false:=
 jl hc (by intros; rfl) (by intros; rfl) (by intros; rfl) (by intros; rfl) (by intros; rfl) (by intros; rfl) (by intros; rfl) (by intros; rfl) (by intros; rfl) (by intros; rfl) (by intros; rfl) (by intros; rfl) (by intros; rfl)
theorem rN{k:Nat}{ie:IE}{e:Expr}(hc:ckE k ns sc ie e=true)(o i:Value):subscripted e false o i=operate [o,i] (getItem o i):=
 jl hc (by intros; rfl) (by intros; rfl) (by intros; rfl) (by intros; rfl) (by intros; rfl) (by intros; rfl) (by intros; rfl) (by intros; rfl) (by intros; rfl) (by intros; rfl) (by intros; rfl) (by intros; rfl) (by intros; rfl)
theorem Cn{value sl:Expr}{pos:Pos}{Q:Value→Shared→Prop}{E:Value→Shared→Prop}(hs:∀o i,subscripted sl false o i=operate [o,i] (getItem o i))
  (h:wpAny P.M A (eval value env) (fun o s₁=>wpAny P.M A (eval sl env) (fun i s₂=>SubscriptOn P.M A o i Q E s₂) E s₁) E s):wpAny P.M A (eval (.Subscript value sl pos) env) Q E s:=by
 rw[eval_Subscript]
 refine wpAny_bind (wpAny_mono h (fun o s₁ h₁=>wpAny_bind (wpAny_holding (wpAny_mono h₁ (fun i s₂ h₂=>wpAny_bind (wpAny_standAt ?_)) fun υ υ x=>x))) fun υ υ x=>x)
 refine gw (h₂) fun T id hl hT hg=>?_
 refine wpAny_bind ?_
 rw[getitemInPython_of_ne hT.not_modules]
 refine wpAny_bind (wpAny_specialOf hT hl ?_)
 have fin:wpAny P.M A (operate [o,i] (getItem o i)) (fun r s₃=>wpAny P.M A (letTemporaryGo value o r>>=fun υ=>pure r) Q E s₃) E s₂:=
  wpAny_operating (wpAny_mono hg (fun r s₃ h₃=>wpAny_bind (wpAny_letTemporaryGo (aD h₃))) fun υ υ x=>x)
 first
  | exact aD (wpAny_bind (by rw[hs]; exact fin))
  | exact wpAny_bind (aD (wpAny_bind (by rw[hs]; exact fin)))
  | exact wpAny_bind (by rw[hs]; exact fin)
theorem m7{value:Expr}{lo hi:Option Expr}{p pos:Pos}{Q:Value→Shared→Prop}{E:Value→Shared→Prop}
  (h:wpAny P.M A (eval value env) (fun o s₁=>wpAny P.M A (eval (.Slice lo hi none p) env) (fun i s₂=>SubscriptOn P.M A o i Q E s₂) E s₁) E s):wpAny P.M A (eval (.Subscript value (.Slice lo hi none p) pos) env) Q E s:=by
 rw[eval_Subscript]
 refine wpAny_bind (wpAny_mono h (fun o s₁ h₁=>wpAny_bind (wpAny_holding (wpAny_mono h₁ (fun i s₂ h₂=>wpAny_bind (wpAny_standAt ?_)) fun υ υ x=>x))) fun υ υ x=>x)
 refine gw (h₂) fun T id hl hT hg=>?_
 refine wpAny_bind ?_
 rw[getitemInPython_of_ne hT.not_modules]
 refine wpAny_bind (wpAny_specialOf hT hl ?_)
 have fin:wpAny P.M A (operate [i,o] (getItem o i)) (fun r s₃=>wpAny P.M A (letTemporaryGo value o r>>=fun υ=>pure r) Q E s₃) E s₂:=
  wpAny_operating (wpAny_mono hg (fun r s₃ h₃=>wpAny_bind (wpAny_letTemporaryGo (aD h₃))) fun υ υ x=>x)
 first
  | exact aD (wpAny_bind fin)
  | exact wpAny_bind (aD (wpAny_bind fin))
  | exact wpAny_bind fin
@[elab_as_elim] theorem Dv{x:D}{xs:List D}{G:D→Prop}(h:o4 x=some xs)(a:G (.list xs))(b:G (.tuple xs)):G x:=by
 cases x with
 | list l=>exact ax.inj h▸a
 | tuple l=>exact ax.inj h▸b
 | _=>exact kon h
theorem o6{xs:List D}{j:Int}{d:D}(h:idxD xs j=some d):(0≤j∧j<few∧xs[j.toNat]? =some d)∨(¬0≤j∧(-(xs.length:Int)≤j∧xs.length≤few)∧xs[(j+xs.length).toNat]? =some d):=by
 unfold idxD at h
 by_cases h0:0≤j
 ·rw[if_pos h0]at h
  by_cases h1:j<few
  ·exact .inl ⟨h0,h1,(if_pos h1).symm.trans h⟩
  ·exact kon ((if_neg h1).symm.trans h)
 ·rw[if_neg h0]at h
  by_cases h1: -(xs.length:Int)≤j∧xs.length≤few
  ·exact .inr ⟨h0,h1,(if_pos h1).symm.trans h⟩
  ·exact kon ((if_neg h1).symm.trans h)
theorem sR(ok:Ok P Z s){x:D}{xs:List D}{j:Int}{d:D}{v:Value}{t:Tok}(hx:o4 x=some xs)(hd:idxD xs j=some d)(r:gp P Z s.heap v x){Q:Value→Shared→Prop}{E:Value→Shared→Prop}
  (h:∀u,Rep Z u d→Q u s):SubscriptOn P.M A v (.int j t) Q E s:=by
 have hfew':(few:Nat)=1048576:=rfl
 revert r
 have sz:∀{vs:Array Value} {i:Nat} {u:Value},vs[i]? =some u→i<vs.size:=fun h=>(Array.getElem?_eq_some_iff.mp h).1
 refine Dv hx (fun r=>?_) fun r=>?_
 ·refine gw (r.list ok) fun a vs ev l rr=>?_; subst ev
  have hs:=dk rr
  refine uo ("list") _ slot_list_getitem.lookup l.isList.typeIs ?_
  rcases o6 hd with⟨h0,h1,hd⟩ | ⟨h0,h1,hd⟩
  ·refine bq (rr.get _ hd) fun u hu ru=>?_
   rw[bV]at hu
   exact wpAny_getItem_list l.isList h0 (dB h1 (by decide)) hu (h u ru)
  ·refine bq (rr.get _ hd) fun u hu ru=>?_
   rw[bV]at hu
   exact wpAny_getItem_list_neg l.isList (by exact aq14 h0) (by exact aq15 hs h1) (by exact aq16 hfew' h1) (by rw[hs]; exact hu) (h u ru)
 ·refine gw (r.tuple ok) fun a vs ev l rr=>?_; subst ev
  have hs:=dk rr
  refine uo ("tuple") _ slot_tuple_getitem.lookup l.typeIs ?_
  rcases o6 hd with⟨h0,h1,hd⟩ | ⟨h0,h1,hd⟩
  ·refine bq (rr.get _ hd) fun u hu ru=>?_
   rw[bV]at hu
   refine PyProof.Rows.getItem_tuple l (by exact aq17 h0) (dB h1 (by decide)) (j:=j.toNat) ?_ hu (h u ru)
   unfold seqIndex?
   dsimp only
   rw[if_neg (show ¬j<0 by exact Fu h0),if_pos (by rw[aV,decide_eq_true_iff,decide_eq_true_iff]; exact Nn (sz hu) h0)]
  ·refine bq (rr.get _ hd) fun u hu ru=>?_
   rw[bV]at hu
   refine PyProof.Rows.getItem_tuple l (by exact aq16 hfew' h1) (by exact aq20 h0) (j:=(j+xs.length).toNat) ?_ hu (h u ru)
   unfold seqIndex?
   dsimp only
   rw[hs,if_pos (show j<0 by exact aq14 h0),if_pos (by rw[aV,decide_eq_true_iff,decide_eq_true_iff]; exact aq21 h1 h0)]
theorem lS{α:Type}(l:List α)(i j:Nat):(l.drop (min i l.length)).take (min j l.length-min i l.length)=(l.take j).drop i:=by
 refine List.ext_getElem? fun k=>?_
 rw[List.getElem?_take,List.getElem?_drop,List.getElem?_drop,List.getElem?_take]
 by_cases h:i+k<l.length
 ·have e:min i l.length=i:=by exact aq22 h
  rw[e]
  by_cases h2:i+k<j
  ·rw[if_pos (by exact aq23 h2 h),if_pos h2]
  ·rw[if_neg (by exact aq24 h2),if_neg h2]
 ·have e1:l[i+k]? =none:=bj (by exact Nat.le_of_not_lt (by assumption))
  have e2:l[min i l.length+k]? =none:=bj (by exact aq25 h)
  rw[e1,e2]; simp
theorem sb1{lo hi:Option Int}{n:Nat}(h:lo.all (fun(i:Int)=>decide (0≤i∧i<few))=true):(sliceBounds lo hi none n).1=((min (lo.elim 0 Int.toNat) n:Nat):Int):=by
 cases lo with
 | none=>exact(congrArg Int.ofNat (Nat.zero_min n)).symm
 | some i=>
  have hi:=(of_decide_eq_true h).1
  show max 0 (min (if i<0 then i+(n:Int) else i) (n:Int))=_
  rw[if_neg (Fu hi)]; exact aq26
theorem sb2{lo hi:Option Int}{n:Nat}(h:hi.all (fun(i:Int)=>decide (0≤i∧i<few))=true):(sliceBounds lo hi none n).2.1=((min (hi.elim n Int.toNat) n:Nat):Int):=by
 cases hi with
 | none=>exact(congrArg Int.ofNat (Nat.min_self n)).symm
 | some i=>
  have hi:=(of_decide_eq_true h).1
  show max 0 (min (if i<0 then i+(n:Int) else i) (n:Int))=_
  rw[if_neg (Fu hi)]; exact aq26
theorem yO{lo hi:Option Int}{ds:List D}{n:Nat}(hs:ds.length=n):(match hi with | some j=>ds.take j.toNat | none=>ds).drop (match lo with | some i=>i.toNat | none=>0)=(ds.take (hi.elim n Int.toNat)).drop (lo.elim 0 Int.toNat):=by
 have e:(match hi with | some j=>ds.take j.toNat | none=>ds)=ds.take (hi.elim n Int.toNat):=by
  cases hi with
  | none=>exact(List.take_of_length_le (bk hs)).symm
  | some j=>rfl
 rw[e]; cases lo<;>rfl
theorem nj{xs:Array Value}{ds:List D}{lo hi:Option Int}{us:List D}(r:RepAll Z xs.toList ds)(h:sliceD ds lo hi=some us):RepAll Z (slicePick xs lo hi none).toList us:=by
 have hs:=dk r
 unfold sliceD at h
 by_cases hc:((lo.all fun(i:Int)=>decide (0≤i∧i<few))&&(hi.all fun(i:Int)=>decide (0≤i∧i<few))&&decide (ds.length≤few))=true
 ·rw[if_pos hc]at h
  have hc:=B3 (B3 hc).1
  have hu:us=(ds.take (hi.elim xs.size Int.toNat)).drop (lo.elim 0 Int.toNat):=(ax.inj h).symm.trans (yO (lo:=lo) (hi:=hi) hs.symm)
  rw[kmk_pick_nat xs (Prod.ext (sb1 hc.1) (Prod.ext (sb2 hc.2) rfl)),hu,←lS,←hs,List.toList_toArray]
  exact(r.drop _).take _
 ·rw[if_neg hc]at h; exact kon h
theorem zj{ev:IE→Option D}{e:IE}{v:Option Int}(h:jq ev (some e)=some v):∃i,ev e=some (.int i)∧some i=v:=by
 have h:(match ev e with | some (.int i)=>some (some i) | _=>none)=some v:=h
 cases q:ev e with
 | none=>rw[q]at h; cases h
 | some x=>
  rw[q]at h
  cases x<;>first | exact⟨_,rfl,ax.inj h⟩ | cases h
theorem kT(H:eU P wc ft n)(R:Room A n){k:Nat}{lo:Option IE}{l:Option Expr}{v:Option Int}(hc:CS (ckE k ns sc) lo l=true)(hv:jq (evE ft n σ) lo=some v)(S:SR P wc sc env ns own b Z σ ad s)
  {Q:Value→Shared→Prop} {E:Value→Shared→Prop} (h:∀u s' Z',Go P Z s Z' s'→IsPart u v→Q u s'):wpAny P.M A (evalPart l env) Q E s:=by
 cases lo with
 | none=>
  cases l with
  | none=>cases hv; exact aD (h _ _ _ (Go.refl S.ok) .none)
  | some e=>exact kno hc
 | some ie=>
  cases l with
  | none=>exact kno hc
  | some e=>
   refine bq (zj hv) fun i he ev=>?_
   subst ev
   refine H R hc he S fun u s1 Z1 g1 r1 υ=>?_
   refine dh r1.int fun t e92_1=>?_; subst e92_1
   exact h _ _ _ g1 (.int _ _)
theorem Gv.out{t:Sem Value}{ie:IE}{d:D}(g:Gv P A Z s t d){Q:Value→Shared→Prop}{E:Value→Shared→Prop}
  (h:∀v s' Z',Go P Z s Z' s'→gp P Z' s'.heap v d→(isBor ie=false→Rep Z' v d)→Q v s'):wpAny P.M A t Q E s:=
 g Q E fun v s' Z' g r=>h v s' Z' g (.of r) fun υ=>r
section
variable {k:Nat}{e:Expr}{d:D}{Q:Value→Shared→Prop}{E:Value→Shared→Prop}
theorem yT(hc:ckE (k+1) ns sc .none e=true)(hd:evE ft (n+1) σ .none=some d)(S:SR P wc sc env ns own b Z σ ad s):Gv P A Z s (eval e env) d:=by
 cases hd
 exact kConst' hc fun υ υ υ hc=>kNo' hc fun υ υ h=>wpAny_Constant_none (h _ _ _ (Go.refl S.ok) .none)
theorem yV{v:Bool}(hc:ckE (k+1) ns sc (.bool v) e=true)(hd:evE ft (n+1) σ (.bool v)=some d)(S:SR P wc sc env ns own b Z σ ad s):Gv P A Z s (eval e env) d:=by
 cases hd
 exact kConst' hc fun υ υ υ hc=>kBo' hc fun υ hc=>kB hc fun υ υ h=>wpAny_Constant_bool (h _ _ _ (Go.refl S.ok) (.bool _))
theorem Cz{v:Int}(hc:ckE (k+1) ns sc (.int v) e=true)(hd:evE ft (n+1) σ (.int v)=some d)(S:SR P wc sc env ns own b Z σ ad s):Gv P A Z s (eval e env) d:=by
 cases hd
 exact kConst' hc fun υ υ υ hc=>kIn' hc fun υ hc=>kD hc fun υ υ h=>wpAny_Constant_int (h _ _ _ (Go.toks S.ok _ (br _)) (.int _ _))
theorem Cw{v:String}(hc:ckE (k+1) ns sc (.str v) e=true)(hd:evE ft (n+1) σ (.str v)=some d)(S:SR P wc sc env ns own b Z σ ad s):Gv P A Z s (eval e env) d:=by
 cases hd
 exact kConst' hc fun υ υ υ hc=>kSt' hc fun υ hc=>kB hc fun υ υ h=>wpAny_Constant_str (h _ _ _ (Go.toks S.ok _ (br _)) (.str _ _))
theorem Av{o:Option Var}(h:(match o with | some (.fro d)=>some d | _=>none)=some d):o=some (.fro d):=by
 rcases o with _ | (_ | _ | _ | _ | _)<;>cases h
 rfl
theorem Cu{i:Nat}(hc:ckE (k+1) ns sc (.var i) e=true)(hd:evE ft (n+1) σ (.var i)=some d)(S:SR P wc sc env ns own b Z σ ad s):Gv P A Z s (eval e env) d:=
 dC hc fun υ υ hi υ υ h=>S.read (fJ hi) (Av hd) fun υ r=>h _ _ _ (Go.refl S.ok) r
theorem Bq{o:Option Var}(h:(match o with | some (.fro d)=>some d | some (.mut ds)=>some (.list ds) | _=>none)=some d):o=some (.fro d)∨∃ds,o=some (.mut ds)∧d= .list ds:=by
 rcases o with _ | (_ | _ | _ | _ | _)<;>cases h
 ·exact .inl rfl
 ·exact .inr ⟨_,rfl,rfl⟩
theorem CE{i:Nat}(hc:ckE (k+1) ns sc (.bor i) e=true)(hd:evE ft (n+1) σ (.bor i)=some d)(S:SR P wc sc env ns own b Z σ ad s)(h:∀v s' Z',Go P Z s Z' s'→gp P Z' s'.heap v d→Q v s'):wpAny P.M A (eval e env) Q E s:=by
 refine dC hc fun x p hi=>?_
 rcases Bq hd with e | ⟨ds,e,rfl⟩
 ·exact S.read (fJ hi) e fun v r=>h _ _ _ (Go.refl S.ok) (.of r)
 ·exact S.readM (fJ hi) e fun vs l r υ υ=>h _ _ _ (Go.refl S.ok) (.inr ⟨_,_,_,rfl,rfl,l,r⟩)
theorem CC(F:Facts P wc)(R:Room A n){g:Nat}(hc:ckE (k+1) ns sc (.glo g) e=true)(hd:evE ft (n+1) σ (.glo g)=some d)(S:SR P wc sc env ns own b Z σ ad s):Gv P A Z s (eval e env) d:=by
 have hd:DG g=some d:=hd
 intro Q E h
 rcases Eh hc with⟨rfl,x,p,rfl,hx⟩ | ⟨rfl,x,p,rfl,hx⟩ | ⟨rfl,x,p,q,rfl,hx⟩ | ⟨rfl,x,p,q,rfl,hx⟩<;>cases hd
 ·refine dh F.ell fun t ht=>?_
  exact S.readG hx ht (h _ _ _ (Go.refl S.ok) (.str _ _))
 ·refine dh F.lim fun t ht=>?_
  exact S.readG hx ht (h _ _ _ (Go.refl S.ok) (.int _ _))
 ·exact Attribute_name (S.readG hx F.cls (Gv.str S.ok (fun Q E k=>F.clsS R S.ok.g0 k) _ _ h))
 ·exact Attribute_name (S.readG hx F.cls (Gv.str S.ok (fun Q E k=>F.clsT R S.ok.g0 k) _ _ h))
theorem args_two{xs:List Expr}:(xs.map fun e=>((false,eval e env):Bool×Sem Value))=(xs.map fun x=>eval x env).map fun t=>(false,t):=by rw[bw]; rfl
theorem CF(H:eU P wc ft n)(R:Room A n){op:Operator}{a c:IE}(hc:ckE (k+1) ns sc (.bin op a c) e=true)(hd:evE ft (n+1) σ (.bin op a c)=some d)(S:SR P wc sc env ns own b Z σ ad s):Gv P A Z s (eval e env) d:=
 ov2 hd fun υ υ h1 h2 hd=>vP hc fun υ υ υ υ hc=>bA3 hc fun ho c1 c2=>kD ho fun υ υ h=>
  wpAny_BinOp (H R c1 h1 S fun υ υ υ g1 r1 υ=>H R c2 h2 (S.go g1) fun υ υ υ g2 r2 υ=>kj R g2.ok hd (r1.go g1.ok g2) r2 _ _ fun υ υ υ g3 r3=>h _ _ _ ((g1.trans g2).trans g3) r3)
theorem Gr(H:eU P wc ft n)(R:Room A n){op:UnaryOp}{a:IE}(hc:ckE (k+1) ns sc (.un op a) e=true)(hd:evE ft (n+1) σ (.un op a)=some d)(S:SR P wc sc env ns own b Z σ ad s):Gv P A Z s (eval e env) d:=
 ov1 hd fun υ h1 hd=>Dn hc fun υ υ υ hc=>bA3 hc fun ho υ c1=>kD ho fun υ υ h=>
  wpAny_UnaryOp (H R c1 h1 S fun υ υ υ g1 r1 υ=>uF g1.ok hd r1 _ _ fun υ υ υ g3 r3=>h _ _ _ (g1.trans g3) r3)
theorem CD(H:eU P wc ft n)(R:Room A n){op:CmpOp}{a c:IE}(hc:ckE (k+1) ns sc (.cmp op a c) e=true)(hd:evE ft (n+1) σ (.cmp op a c)=some d)(S:SR P wc sc env ns own b Z σ ad s):Gv P A Z s (eval e env) d:=
 ov2 hd fun υ υ h1 h2 hd=>omv hd fun υ h3=>zS hc fun υ υ υ υ hc=>k1' hc fun υ hc=>k1' hc fun υ hc=>bA3 hc fun ho c1 c2=>kD ho fun υ υ h=>
  wpAny_Compare1 (H R c1 h1 S fun υ υ υ g1 r1 υ=>H R c2 h2 (S.go g1) fun υ υ υ g2 r2 υ=>mM R g2.ok h3 (r1.go g1.ok g2) r2 _ _ fun υ υ υ g3 r3=>h _ _ _ ((g1.trans g2).trans g3) r3) (mv c2 _)
theorem Cx(H:eU P wc ft n)(R:Room A n){a:IE}(hc:ckE (k+1) ns sc (.not a) e=true)(hd:evE ft (n+1) σ (.not a)=some d)(S:SR P wc sc env ns own b Z σ ad s):Gv P A Z s (eval e env) d:=
 ov1 hd fun υ h1 hd=>omv hd fun υ h3=>Dn hc fun υ υ υ hc=>bA2 hc fun ho c1=>kD ho fun υ υ h=>
  wpAny_UnaryOp (H R c1 h1 S fun υ υ υ g1 r1 υ=>not_of (fy g1.ok h3 r1 fun υ υ g2=>h _ _ _ (g1.trans g2) (.bool _)))
theorem ue{u:D}{p:Option D}(h:(match u with | .bool true=>p | .bool false=>some (.bool false) | _=>none)=some d):u= .bool true∧p=some d∨u= .bool false∧d= .bool false:=by
 rcases u with _ | (_ | _) | _ | _ | _ | _ | _<;>first | exact .inl ⟨rfl,h⟩ | (cases h; exact .inr ⟨rfl,rfl⟩) | cases h
theorem xP{u:D}{p:Option D}(h:(match u with | .bool false=>p | .bool true=>some (.bool true) | _=>none)=some d):u= .bool false∧p=some d∨u= .bool true∧d= .bool true:=by
 rcases u with _ | (_ | _) | _ | _ | _ | _ | _<;>first | exact .inl ⟨rfl,h⟩ | (cases h; exact .inr ⟨rfl,rfl⟩) | cases h
theorem CG(H:eU P wc ft n)(R:Room A n){a c:IE}(hc:ckE (k+1) ns sc (.and a c) e=true)(hd:evE ft (n+1) σ (.and a c)=some d)(S:SR P wc sc env ns own b Z σ ad s):Gv P A Z s (eval e env) d:=by
 refine ov1 hd fun υ h1 hd=>?_
 refine FP (yi hc) fun x y p e65_1 c1 c2 hb=>?_; subst e65_1
 intro Q E h
 rcases ue hd with⟨rfl,hd⟩ | ⟨rfl,rfl⟩
 ·exact wpAny_And2 (H R c1 h1 S fun υ υ υ g1 r1 υ=>fy g1.ok (t:=true) rfl r1 fun υ υ g2=>H R c2 hd (S.go (g1.trans g2)) fun υ υ υ g3 υ f3=>h _ _ _ ((g1.trans g2).trans g3) (f3 hb))
 ·exact wpAny_And2 (H R c1 h1 S fun υ υ υ g1 r1 υ=>by
   cases r1.bool
   exact fy g1.ok (t:=false) rfl r1 fun υ υ g2=>h _ _ _ (g1.trans g2) (.bool _))
theorem Gs(H:eU P wc ft n)(R:Room A n){a c:IE}(hc:ckE (k+1) ns sc (.or a c) e=true)(hd:evE ft (n+1) σ (.or a c)=some d)(S:SR P wc sc env ns own b Z σ ad s):Gv P A Z s (eval e env) d:=by
 refine ov1 hd fun υ h1 hd=>?_
 refine FP (Eg hc) fun x y p e74_1 c1 c2 hb=>?_; subst e74_1
 intro Q E h
 rcases xP hd with⟨rfl,hd⟩ | ⟨rfl,rfl⟩
 ·exact wpAny_Or2 (H R c1 h1 S fun υ υ υ g1 r1 υ=>fy g1.ok (t:=false) rfl r1 fun υ υ g2=>H R c2 hd (S.go (g1.trans g2)) fun υ υ υ g3 υ f3=>h _ _ _ ((g1.trans g2).trans g3) (f3 hb))
 ·exact wpAny_Or2 (H R c1 h1 S fun υ υ υ g1 r1 υ=>by
   cases r1.bool
   exact fy g1.ok (t:=true) rfl r1 fun υ υ g2=>h _ _ _ (g1.trans g2) (.bool _))
theorem Cy(H:eU P wc ft n)(HT:jN P wc ft n)(R:Room A n){t a c:IE}(hc:ckE (k+1) ns sc (.ite t a c) e=true)(hd:evE ft (n+1) σ (.ite t a c)=some d)(S:SR P wc sc env ns own b Z σ ad s):Gv P A Z s (eval e env) d:=by
 refine ov1 hd fun υ h1 hd=>ov1 hd fun w h2 hd=>G5 hc fun υ υ υ υ hc=>bA5 hc fun c1 c2 c3 h4 h5 υ υ h=>wpAny_IfExp (HT R c1 (Pl.fF h1 h2) S fun υ υ g1=>?_)
 cases w with
 | true=>exact H R c2 hd (S.go g1) fun υ υ υ g3 υ f3=>h _ _ _ (g1.trans g3) (f3 (kL h4))
 | false=>exact H R c3 hd (S.go g1) fun υ υ υ g3 υ f3=>h _ _ _ (g1.trans g3) (f3 (kL h5))
theorem pg{m l:Nat}(h:l≤few)(e:m=l):m≤sizeLine:=by rw[sizeLine_eq,e]; rw[few_eq]at h; exact aq28 h
theorem yU(H:eU P wc ft n)(R:Room A n){es:List IE}(hc:ckE (k+1) ns sc (.list es) e=true)(hd:evE ft (n+1) σ (.list es)=some d)(S:SR P wc sc env ns own b Z σ ad s):Gv P A Z s (eval e env) d:=by
 refine ov1 hd fun ds h1 hd=>sC hc fun xs p hc=>bA2 hc fun c1 hb=>?_
 refine fu (oif hd) fun hz e89_1=>?_; subst e89_1
 intro Q E h
 refine wpAny_List_spliced ?_
 rw[bF (eH c1),args_two]
 refine du H R c1 h1 S fun vs s1 Z1 g1 υ r1=>⟨pg hz (r1 hb).length,?_⟩
 refine bq (Go.newList g1.ok (r1 hb) s1.toks g1.ok.tk) fun Z2 g2 r2=>?_
 exact h _ _ _ (g1.trans g2) r2
theorem Cv(H:eU P wc ft n)(R:Room A n){es:List IE}(hc:ckE (k+1) ns sc (.tup es) e=true)(hd:evE ft (n+1) σ (.tup es)=some d)(S:SR P wc sc env ns own b Z σ ad s):Gv P A Z s (eval e env) d:=by
 refine ov1 hd fun ds h1 hd=>sx hc fun xs υ p hc=>bA2 hc fun c1 hb=>?_
 refine fu (oif hd) fun hz e1_1=>?_; subst e1_1
 intro Q E h
 refine wpAny_Tuple_spliced ?_
 rw[bF (eH c1),args_two]
 refine du H R c1 h1 S fun vs s1 Z1 g1 υ r1=>⟨pg hz (r1 hb).length,?_⟩
 refine bq (Go.newTuple g1.ok (r1 hb) s1.toks g1.ok.tk) fun Z2 g2 r2=>?_
 exact h _ _ _ (g1.trans g2) r2
theorem Ab{o:Option (List D)}{y:D}(h:(match o,y with | some xs,.int k=>idxD xs k | _,_=>none)=some d):∃xs j,o=some xs∧y= .int j∧idxD xs j=some d:=by
 cases o<;>cases y<;>first | exact⟨_,_,rfl,rfl,h⟩ | cases h
theorem CB(H:eU P wc ft n)(R:Room A n){a c:IE}(hc:ckE (k+1) ns sc (.idx a c) e=true)(hd:evE ft (n+1) σ (.idx a c)=some d)(S:SR P wc sc env ns own b Z σ ad s):Gv P A Z s (eval e env) d:=by
 refine ov2 hd fun υ υ h1 h2 hd=>sy hc fun υ υ υ hc=>bA2 hc fun c1 c2=>?_
 refine gw (Ab hd) fun xs j hx e12_1 hd'=>?_; subst e12_1
 intro Q E h
 refine Cn (rN c2) (H R c1 h1 S fun o s1 Z1 g1 r1 υ=>H R c2 h2 (S.go g1) fun i s2 Z2 g2 r2 υ=>?_)
 refine dh r2.int fun t e15_1=>?_; subst e15_1
 exact sR g2.ok hx hd' (r1.go g1.ok g2) fun u ru=>h _ _ _ (g1.trans g2) ru
theorem qQ{x:D}{lo hi:Option Int}(h:(match x with | .list xs=>(sliceD xs lo hi).map PyData.list | _=>none)=some d):∃xs us,x= .list xs∧sliceD xs lo hi=some us∧d= .list us:=by
 cases x<;>first | exact omv h fun υ e=>⟨_,_,rfl,e,rfl⟩ | cases h
theorem qR{xs us:List D}{lo hi:Option Int}(h:sliceD xs lo hi=some us):xs.length≤few:=by
 unfold sliceD at h
 split at h
 ·rename_i hc
  simp only[aV,decide_eq_true_eq]at hc
  exact hc.2
 ·cases h
theorem uU(H:eU P wc ft n)(R:Room A n){a:IE}{lo hi:Option IE}(hc:ckE (k+1) ns sc (.slice a lo hi) e=true)(hd:evE ft (n+1) σ (.slice a lo hi)=some d)(S:SR P wc sc env ns own b Z σ ad s):Gv P A Z s (eval e env) d:=by
 refine ov1 hd fun υ h1 hd=>ov2 hd fun υ υ h2 h3 hd=>?_
 refine gw (qQ hd) fun xs us e28_1 hu e28_2=>?_; subst e28_1; subst e28_2
 refine x5_4 (wY hc) fun v l r p q e29_1 c1 c2 c3=>?_; subst e29_1
 intro Q E h
 refine m7 (H R c1 h1 S fun o s1 Z1 g1 r1 υ=>?_)
 refine wpAny_Slice (kT H R c2 h2 (S.go g1) fun a s2 Z2 g2 p2=>?_)
 refine kT H R c3 h3 (S.go (g1.trans g2)) fun c s3 Z3 g3 p3=>?_
 refine aD (a:=Value.none) ?_
 have g4:=Go.push' g3.ok {cls:= .type "slice",data:= .fields #[a,c,.none]}
 have g14:=(g2.trans g3).trans g4
 refine gw ((r1.go g1.ok g14).list g4.ok) fun ad' vs e37_1 l4 rr=>?_; subst e37_1
 refine uo ("list") _ slot_list_getitem.lookup l4.isList.typeIs ?_
 refine wpAny_getItem_list_slice l4.isList (Heap.IsSliceOf.new ..) p2 p3 .none nofun ?_ (pg (qR hu) (dk rr))
 refine bq (Go.newList g4.ok (nj rr hu) s3.toks g3.ok.tk) fun Z5 g5 r5=>?_
 exact h _ _ _ (g1.trans (g14.trans g5)) r5
end
end
section
variable {P:Pm}{wc:Addr}{sc:Scope}{env:Env}{ns:Nms}{own:Nat}{b:Bs}{Z Z' Z1:Heap}{σ σ':St}{ad:Nat→Addr}{s s':Shared}{A:Around}{ft:FT}{n:Nat}
theorem xc{o:Option (Nat×(List D→Option D))}{p:Option (List D)}{d:D}{m:Nat}{G:Prop}(h:(match o with | some (c,F)=>if c≤m then p.bind F else none | none=>none)=some d)(g:∀c F ds,o=some (c,F)→c≤m→p=some ds→F ds=some d→G):G:=by
 rcases o with _ | ⟨c,F⟩
 ·cases h
 ·have h:(if c≤m then p.bind F else none)=some d:=h
  by_cases q:c≤m
  ·rw[if_pos q]at h; exact ov1 h fun ds h1 h2=>g c F ds rfl q h1 h2
  ·rw[if_neg q]at h; cases h
theorem DK{f:Nat}{nm:String}(h:j3 f=some nm):(aa nm==("__debug__":Str))=false:=
 (by decide+kernel:∀x∈DL,(aa x==("__debug__":Str))=false) nm (bD h)
theorem eT(F:Facts P wc)(O:FnOk P wc ft)(H:eU P wc ft n)(R:Room A n){k:Nat}{f:Nat}{es:List IE}{e:Expr}{d:D}(hc:ckE (k+1) ns sc (.call f es) e=true)(hd:evE ft (n+1) σ (.call f es)=some d)(S:SR P wc sc env ns own b Z σ ad s):
  Gv P A Z s (eval e env) d:=by
 refine xc hd fun c G ds hft hle h1 hd=>?_
 refine x5_5 (Be hc) fun x np xs pos nm e21_1 hf hx ha hb=>?_; subst e21_1
 obtain⟨υ,a,hm,⟨o,fd,ho,hfd⟩,snd⟩:=O.fn f c G nm hft hf
 intro Q E h
 refine wpAny_Call_ofName (S.readG hx hm ?_ (DK hf))
 rw[bF (eH ha),args_two,kw_nil]
 exact gY (first:=[]) hfd (du H R ha h1 S fun vs s1 Z1 g1 υ r1=>⟨g1.ok.g0 _ _ ho,snd (R.mono hle) g1.ok (r1 hb) hd _ _ fun v s2 Z2 g2 r2=>h _ _ _ (g1.trans g2) r2⟩)
theorem zo{f:IE→Option D}{a:IE}{ds:List D}{G:Prop}(h:[a].mapM f=some ds)(g:∀x,f a=some x→ds=[x]→G):G:=by
 rw[List.mapM_cons]at h
 exact ov1 h fun x h1 h2=>g x h1 (ax.inj h2).symm
theorem p0{x d:D}(h:biD .lenset [x]=some d):∃xs,x= .list xs:=by
 cases x<;>first | exact⟨_,rfl⟩ | cases h
theorem wK(F:Facts P wc)(H:eU P wc ft n)(R:Room A n){k:Nat}{es:List IE}{e:Expr}{d:D}{ds:List D}(hc:ckE (k+1) ns sc (.bi .lenset es) e=true)(h1:es.mapM (evE ft n σ)=some ds)(hd:biD .lenset ds=some d)(S:SR P wc sc env ns own b Z σ ad s):
  Gv P A Z s (eval e env) d:=by
 refine x8_5 (tV hc) fun a x np y mp z p q e35_1 e35_2 hx hy ha=>?_; subst e35_1; subst e35_2
 refine zo h1 fun d1 e1 e=>?_
 subst e
 refine dh (p0 hd) fun xs e38_1=>?_; subst e38_1
 intro Q E h
 refine ou F S (bi:= .lenset) hx (fun w hw=>by rw[ay.mp hw]; rfl) ?_
 refine(?_:wpAny P.M A (spliced [(false,eval (.Call (.Name y mp) [z] [] p) env)]) _ E s)
 refine spliced_cons ?_
 refine wpAny_Call_ofName (S.readB hy (F.bi "set" (by decide)) (v:= .type "set") (by decide+kernel) ?_)
 rw[bF (xs:=[z]) (fun w hw=>by rw[ay.mp hw]; exact fE ha),args_two,kw_nil]
 refine k8 (first:=[]) ?_
 refine(?_:wpAny P.M A (spliced [(false,eval z env)]) _ E s)
 refine spliced_cons (H R ha e1 S fun v s1 Z1 g1 r1 υ=>spliced_nil ?_)
 refine wpAny_mono (mC (E:=E) R g1.ok hd r1 fun v s2 Z2 g2 r2=>h v s2 Z2 (g1.trans g2) r2) (fun y2 s2 hy2=>spliced_nil ?_) fun υ υ e=>e
 obtain⟨υ,a2,rfl,υ,hq⟩:=hy2
 exact hq
theorem kq(F:Facts P wc)(H:eU P wc ft n)(R:Room A n){k:Nat}{bi:Bi}{es:List IE}{e:Expr}{d:D}(hc:ckE (k+1) ns sc (.bi bi es) e=true)(hd:evE ft (n+1) σ (.bi bi es)=some d)(S:SR P wc sc env ns own b Z σ ad s):
  Gv P A Z s (eval e env) d:=by
 refine ov1 hd fun ds h1 hd=>?_
 by_cases hl:bi= .lenset
 ·subst hl; exact wK F H R hc h1 hd S
 ·refine x4_4 (Ej hc hl) fun x np xs pos e56_1 hx ha υ=>?_; subst e56_1
  exact fun υ υ h=>ou F S hx (eH ha) (du H R ha h1 S fun vs s1 Z1 g1 al υ=>xm R g1.ok hl hd al _ _ fun v s2 Z2 g2 r2=>h _ _ _ (g1.trans g2) r2)
noncomputable def GL(i:Int):Bool:=decide ((baseText "0x" 16 i).length≤sizeLine)
theorem wq:DI.all (fun p=>GL p.1)=true:=by decide+kernel
theorem wm{i:Int}{w:String}(h:gk i=some w):(baseText "0x" 16 i).length≤sizeLine:=by
 have:=bh.mp wq (i,w) (kU h)
 exact of_decide_eq_true this
theorem mD{a:IE}(h:o5 a=true):∃s,a= .str s:=by
 cases a<;>first | exact⟨_,rfl⟩ | exact Bool.noConfusion h
theorem oX{ev:IE→Option D}{es:List IE}{y:D}{ys:List D}(h:es.mapM ev=some (y::ys)):∃a r,es=a::r∧ev a=some y∧r.mapM ev=some ys:=by
 cases es with
 | nil=>cases h
 | cons a r=>
  rw[List.mapM_cons]at h
  refine ov1 h fun u h1 h=>ov1 h fun us h2 h=>?_
  cases h
  exact⟨a,r,rfl,h1,h2⟩
theorem mapM_nil{ev:IE→Option D}{es:List IE}(h:es.mapM ev=some []):es=[]:=by
 cases es with
 | nil=>rfl
 | cons a r=>
  rw[List.mapM_cons]at h
  exact ov1 h fun u h1 h=>ov1 h fun us h2 h=>by cases h
theorem mR{α β:Type}{f:α→β→Bool}{a:α}{r:List α}{xs:List β}(h:gO f (a::r) xs=true):∃e t,xs=e::t∧f a e=true∧gO f r t=true:=by
 cases xs with
 | nil=>exact kno h
 | cons e t=>exact bA2 h fun h1 h2=>⟨e,t,rfl,h1,h2⟩
theorem uG{f:IE→Expr→Bool}{ev:IE→Option D}{es:List IE}{xs:List Expr}{y z:D}(ha:gO f es xs=true)(h2:es.mapM ev=some [y,z])(hs:es.all o5=true):
  ∃y1 z1 e1 e2,es=[.str y1,.str z1]∧xs=[e1,e2]∧f (.str y1) e1=true∧f (.str z1) e2=true∧ev (.str y1)=some y∧ev (.str z1)=some z:=by
 obtain⟨a,es,rfl,h3,h2⟩:=oX h2
 obtain⟨b,es,rfl,h5,h2⟩:=oX h2
 cases mapM_nil h2
 obtain⟨e1,xs,rfl,a1,ha⟩:=mR ha
 obtain⟨e2,xs,rfl,a2,ha⟩:=mR ha
 cases xs with
 | cons _ _=>exact kno ha
 | nil=>
  refine bA2 hs fun s1 h7=>bA2 h7 fun s2 υ=>?_
  obtain⟨p,rfl⟩:=mD s1
  obtain⟨q,rfl⟩:=mD s2
  exact i4_6 _ _ _ _ rfl rfl a1 a2 h3 h5
theorem wo{x d:D}(h:mtD .flagName x []=some d):∃i w,x= .int i∧gk i=some w∧d= .str (aa w):=by
 cases x<;>first | exact omv h fun w hw=>⟨_,w,rfl,hw,rfl⟩ | cases h
theorem D3(F:Facts P wc)(H:eU P wc ft n)(R:Room A n){k:Nat}{a:IE}{es:List IE}{e:Expr}{x d:D}{ds:List D}(hc:ckE (k+1) ns sc (.mt .flagName a es) e=true)(h1:evE ft n σ a=some x)(h2:es.mapM (evE ft n σ)=some ds)(hd:mtD .flagName x ds=some d)
  (S:SR P wc sc env ns own b Z σ ad s):Gv P A Z s (eval e env) d:=by
 refine x9_7 (Bd hc) fun nx np apos y hh hp z p pos e6_1 e6_2 hx hhx hy hz hline=>?_; subst e6_1; subst e6_2
 cases h2
 refine gw (wo hd) fun i w e8_1 hw e8_2=>?_; subst e8_1; subst e8_2
 refine mX F.flg fun fa hm w9_1 hget=>?_; obtain⟨of,ho,hcl,hdn⟩:=w9_1
 intro Q E h
 have hst:∀w∈[y,Expr.Call (.Name hh hp) [z] [] p],fY w=true:=List.forall_mem_cons.mpr ⟨fE hy,fun w hw=>by rw[ay.mp hw]; rfl⟩
 refine wpAny_Call_method_lateS rfl (by rw[bF hst,args_two]; rfl) hline (S.readG hx hm ?_)
 have hfa:s.heap.get? fa=some of:=S.ok.g0 _ _ ho
 refine Ad ("dict") ("dict.get") PySem.F.plainAttrs_dict PySem.F.slot_dict_get PySem.F.type_dict_get (⟨of,hfa,hcl⟩) (fun a q=>by cases q; exact⟨of,hfa,hdn⟩) ?_
 rw[bF hst,args_two]
 refine cZ (first:=[.ref fa]) ?_
 refine(?_:wpAny P.M A (spliced [(false,eval y env),(false,eval (.Call (.Name hh hp) [z] [] p) env)]) _ E s)
 refine spliced_cons (H R hy h1 S fun v s1 Z1 g1 r1 υ=>?_)
 refine dh r1.int fun t e19_1=>?_; subst e19_1
 have S1:=S.go g1
 refine spliced_cons ?_
 refine wpAny_Call_ofName (S1.readB hhx (F.bi "hex" (by decide)) (v:= .builtin "hex") (by decide+kernel) ?_)
 rw[bF (xs:=[z]) (fun w hw=>by rw[ay.mp hw]; exact fE hz),args_two,kw_nil]
 refine cZ (first:=[]) ?_
 refine(?_:wpAny P.M A (spliced [(false,eval z env)]) _ E s1)
 refine spliced_cons (H R hz h1 S1 fun v s2 Z2 g2 r2 υ=>spliced_nil ?_)
 refine dh r2.int fun u e27_1=>?_; subst e27_1
 refine PySem.P.hex_of_int ?_ (wm hw)
 have g3:=Go.toks g2.ok (s2.toks+1) (br _)
 refine spliced_nil ?_
 refine(?_:wpAny P.M A (call (.builtin "dict.get") [.ref fa,.int i t,.str (baseText "0x" 16 i) s2.toks]) Q E _)
 exact Gv.str g3.ok (fun Q E kk=>hget R g3.ok.g0 hw _ _ rfl kk) _ _ fun v s4 Z4 g4 r4=>h v s4 Z4 (((g1.trans g2).trans g3).trans g4) r4
theorem vb{x d:D}{ds:List D}(h:mtD .replace x ds=some d):∃x' y z,x= .str x'∧ds=[.str y,.str z]:=by
 cases x with
 | str x'=>
  rcases ds with _ | ⟨y,_ | ⟨z,_ | ⟨_,_⟩⟩⟩
  ·cases h
  ·cases h
  ·cases y with
   | str y=>
    cases z with
    | str z=>exact⟨_,_,_,rfl,rfl⟩
    | _=>cases h
   | _=>cases h
  ·cases h
 | _=>cases h
theorem rX{k:Nat}{es:List IE}{xs:List Expr}{pos:Pos}(ha:gO (ckE k ns sc) es xs=true)(hlen:es.length<20):
  ((backTo pos (starEach xs env)).all (fun x=> !x.1)&&(backToKw pos (keywordEach [] env)).all (fun x=>x.1.isSome)&&decide (xs.length+([]:List Keyword).length+(if([]:List Keyword).isEmpty then 0 else 1)<30))=true:=by
 rw[bF (eH ha),args_two]
 have:=wz (pos:=pos) (ts:=xs.map fun x=>eval x env) (env:=env) (by rw[ag,←iu ha]; exact hlen)
 rw[ag]at this
 exact this
theorem qG{k n:Nat}{y:String}{v:D}{e:Expr}(hc:ckE k ns sc (.str y) e=true)(hv:evE ft n σ (.str y)=some v):∃a p,e= .Constant (.str (aa y)) a p∧v= .str (aa y):=by
 cases n with
 | zero=>cases hv
 | succ n=>
  cases hv
  cases k with
  | zero=>exact Bool.noConfusion hc
  | succ k=>obtain⟨a,p,e⟩:=Ef hc; exact⟨a,p,e,rfl⟩
theorem D2(H:eU P wc ft n)(R:Room A n){k:Nat}{a:IE}{es:List IE}{e:Expr}{x d:D}{ds:List D}(hc:ckE (k+1) ns sc (.mt .replace a es) e=true)(h1:evE ft n σ a=some x)(h2:es.mapM (evE ft n σ)=some ds)(hd:mtD .replace x ds=some d)
  (S:SR P wc sc env ns own b Z σ ad s):Gv P A Z s (eval e env) d:=by
 refine Gb (Bb hc nofun) fun o apos xs pos e63_1 hno ho ha hline hlen hrep=>?_; subst e63_1
 refine uz (vb hd) fun x' y z e64_1 e64_2=>?_; subst e64_1; subst e64_2
 have hfew:=rX (env:=env) (pos:=pos) ha hlen
 refine x4_6 (uG ha h2 (hrep rfl)) fun y1 z1 e1 e2 e66_1 e66_2 a1 a2 v1 v2=>?_; subst e66_1; subst e66_2
 refine x2_2 (qG a1 v1) fun υ υ e67_1 hy=>?_; subst e67_1
 refine x2_2 (qG a2 v2) fun υ υ e68_1 hz=>?_; subst e68_1
 intro Q E h
 refine wpAny_Call_method_lateS (lX hno) hfew hline (H R ho h1 S fun v s1 Z1 g1 r1 υ=>?_)
 refine dh r1.str fun t e71_1=>?_; subst e71_1
 refine Ad ("str") ("str.replace") PySem.F.plainAttrs_str PySem.F.slot_str_replace PySem.F.type_str_replace (typeIs_str _ _ _) ((fun a q=>by cases q)) ?_
 rw[bF (eH ha),args_two]
 refine cZ (first:=[.str x' t]) ?_
 refine spliced_cons (wpAny_Constant_str (spliced_cons (wpAny_Constant_str (spliced_nil ?_))))
 have g2:=Go.toks g1.ok (s1.toks+1+1) (br _)
 cases hy
 cases hz
 exact lE g2.ok (t:=t) (u:=s1.toks) (v:=s1.toks+1) (Nat.ne_of_gt g1.ok.tk) (Nat.succ_ne_zero _) (Nat.ne_of_lt (bZ _)) hd _ _ fun v s3 Z3 g3 r3=>h _ _ _ ((g1.trans g2).trans g3) r3
theorem qt(F:Facts P wc)(H:eU P wc ft n)(R:Room A n){k:Nat}{m:Mt}{a:IE}{es:List IE}{e:Expr}{d:D}(hc:ckE (k+1) ns sc (.mt m a es) e=true)(hd:evE ft (n+1) σ (.mt m a es)=some d)(S:SR P wc sc env ns own b Z σ ad s):
  Gv P A Z s (eval e env) d:=by
 refine ov2 hd fun x ds h1 h2 hd=>?_
 by_cases hf:m= .flagName
 ·subst hf; exact D3 F H R hc h1 h2 hd S
 by_cases hr:m= .replace
 ·subst hr; exact D2 H R hc h1 h2 hd S
 refine Gb (Bb hc hf) fun o apos xs pos e87_1 hno ho ha hline hlen υ=>?_; subst e87_1
 obtain⟨T,id,pa,slot,ty,snd⟩:=vB hr hf hd
 intro Q E h
 refine wpAny_Call_method_lateS (lX hno) (rX ha hlen) hline (H R ho h1 S fun v s1 Z1 g1 r1 υ=>?_)
 refine lq (snd Z1 s1 v g1.ok r1) fun hT hdct υ=>?_
 refine Ad T id pa slot ty hT hdct ?_
 rw[bF (eH ha),args_two]
 exact cZ (first:=[v]) (du H R ha h2 (S.go g1) fun vs s2 Z2 g2 al υ=>(snd Z2 s2 v g2.ok (r1.go g1.ok g2)).2.2 vs al _ _ fun w s3 Z3 g3 r3=>h _ _ _ ((g1.trans g2).trans g3) r3)
end
section
variable {P:Pm}{wc:Addr}{sc:Scope}{env:Env}{ns:Nms}{own:Nat}{b:Bs}{Z Z' Z1:Heap}{σ σ':St}{ad:Nat→Addr}{s s':Shared}{A:Around}{ft:FT}{n:Nat}
theorem SR.readI(S:SR P wc sc env ns own b Z σ ad s){i:Nat}{x:Str}(hi:ns[i]? =some (some x)){pos:Pos}{Q:Value→Shared→Prop}{E:Value→Shared→Prop}{fs:List (String×D)}(hw:σ[i]? =some (.inst fs))
  (h:∀y dx,jA wc Z Z y dx fs→Q (.ref y) s):wpAny P.M A (eval (.Name x pos) env) Q E s:=by
 obtain⟨ov,r,k⟩:=S.slot (A:=A) hi
 rw[hw]at r
 obtain⟨y,dx,rfl,r⟩:=r
 exact wpAny_Name (k _ Q E rfl (h y dx r)) (S.dd i x hi).1
theorem SR.readJ(S:SR P wc sc env ns own b Z σ ad s){i:Nat}{x:Str}(hi:ns[i]? =some (some x)){pos:Pos}{Q:Value→Shared→Prop}{E:Value→Shared→Prop}{fs:List (String×D)}(hw:σ[i]? =some (.minst fs))
  (h:∀y dx,jA wc Z s.heap y dx fs→Z.get? dx=none→b.B.get? dx=none→dx≠env.locals→Q (.ref y) s):wpAny P.M A (eval (.Name x pos) env) Q E s:=by
 obtain⟨ov,r,k⟩:=S.slot (A:=A) hi
 rw[hw]at r
 obtain⟨y,dx,rfl,r,z,q,hne⟩:=r
 exact wpAny_Name (k _ Q E rfl (h y dx r z q hne.1)) (S.dd i x hi).1
theorem jA.up{h:Heap}{x dx:Addr}{fs:List (String×D)}(r:jA wc Z Z x dx fs)(k:Le Z h):jA wc Z h x dx fs:=by
 obtain⟨h1,es,m,h2,h3⟩:=id r
 exact r.mono (.refl _) ((k _ _ h1).trans h1.symm) ((k _ _ h2).trans h2.symm)
theorem xq{o:Option Var}{nm:String}{d:D}(h:(match o with | some (.inst fs)=>fs.lookup nm | some (.minst fs)=>fs.lookup nm | _=>none)=some d):∃fs,(o=some (.inst fs)∨o=some (.minst fs))∧fs.lookup nm=some d:=by
 rcases o with _ | (_ | _ | _ | _ | _)<;>first | exact⟨_,.inl rfl,h⟩ | exact⟨_,.inr rfl,h⟩ | cases h
theorem D4(F:Facts P wc)(R:Room A n){k:Nat}{i:Nat}{nm:String}{e:Expr}{d:D}(hc:ckE (k+1) ns sc (.attr i nm) e=true)(hd:evE ft (n+1) σ (.attr i nm)=some d)(S:SR P wc sc env ns own b Z σ ad s):Gv P A Z s (eval e env) d:=by
 refine pF (Bf hc) fun x p q e37_1 hi hnm=>?_; subst e37_1
 refine bq (xq hd) fun fs e hd=>?_
 intro Q E h
 have fin:∀y dx,jA wc Z s.heap y dx fs→wpAny P.M A (getAttr (.ref y) (aa nm) true) Q E s:=fun y dx r=>
  wpAny_with_toks (n:=1) S.ok.tk (F.get R S.ok.g0 r hd hnm fun v tk rv ht=>h v _ Z (Go.toks S.ok tk ht) rv)
 rcases e with e | e
 ·exact Attribute_name (S.readI hi e fun y dx r=>fin y dx (r.up S.ok.z))
 ·exact Attribute_name (S.readJ hi e fun y dx r υ υ υ=>fin y dx r)
theorem r8{o:Option Var}{q:Option (Nat×(List D→Option D))}{m:Nat}{d:D}(h:(match o with | some (.inst fs)=>(match q with | some (c,F)=>if c≤m∧fs.map (·.1)=wNames then F [.tuple (fs.map (·.2))] else none | none=>none) | _=>none)=some d):
  ∃fs c F,o=some (.inst fs)∧q=some (c,F)∧c≤m∧fs.map (·.1)=wNames∧F [.tuple (fs.map (·.2))]=some d:=by
 cases o with
 | none=>cases h
 | some w=>
  cases w with
  | inst fs=>
   rcases q with _ | ⟨c,F⟩
   ·cases h
   ·have h:(if c≤m∧fs.map (·.1)=wNames then F [.tuple (fs.map (·.2))] else none)=some d:=h
    by_cases hh:c≤m∧fs.map (·.1)=wNames
    ·rw[if_pos hh]at h; exact⟨fs,c,F,rfl,rfl,hh.1,hh.2,h⟩
    ·rw[if_neg hh]at h; cases h
  | _=>cases h
theorem n6(O:FnOk P wc ft)(R:Room A n){k:Nat}{i:Nat}{e:Expr}{d:D}(hc:ckE (k+1) ns sc (.methW i) e=true)(hd:evE ft (n+1) σ (.methW i)=some d)(S:SR P wc sc env ns own b Z σ ad s):Gv P A Z s (eval e env) d:=by
 refine x4_3 (wZ hc) fun x p apos pos e60_1 hi hline=>?_; subst e60_1
 refine x3_5 (r8 hd) fun fs c G e hft hle hw hd=>?_
 obtain⟨υ,f,⟨o,fd,ho,hfd⟩,hrun,snd⟩:=O.run c G hft
 have hpos:methodCallPos true (.Name x p) env apos pos=pure pos:=by unfold methodCallPos; simp[hline]
 intro Q E h
 rw[arm_eval_Call]
 have hbase:attributeBase (.Name x p) (aa "longest_run_of_spaces") env (eval (.Name x p) env)=eval (.Name x p) env:=rfl
 rw[hbase]
 refine wpAny_bind (S.readI hi e fun y dx r=>?_)
 refine wpAny_bind (wpAny_standAt ?_)
 unfold methodCall
 have hform:methodCallForm (([]:List Expr).length+([]:List Keyword).length) (backTo pos (starEach [] env)) (backToKw pos (keywordEach [] env))=true:=rfl
 rw[hform]
 refine wpAny_bind (wpAny_holding (hrun R S.ok.g0 (r.up S.ok.z) hw ?_))
 refine wpAny_bind (wpAny_of_eq hpos ?_)
 refine(?_:wpAny P.M A (callWith pos (.ref f) [.ref y] (([]:List (Sem Value)).map fun t=>(false,t)) []) Q E s)
 exact gY (first:=[.ref y]) hfd (spliced_nil ⟨S.ok.g0 _ _ ho,snd (R.mono hle) S.ok r hw hd Q E h⟩)
theorem md(F:Facts P wc)(O:FnOk P wc ft)(H:eU P wc ft n)(HT:jN P wc ft n):eU P wc ft (n+1):=by
 intro A env ns sc own b σ ad Z s k ie e d R hc hd S Q E
 cases k with
 | zero=>exact kno hc
 | succ k=>
 have R':Room A n:=R.mono (eE n)
 have out:Gv P A Z s (eval e env) d→(∀v s' Z',Go P Z s Z' s'→gp P Z' s'.heap v d→(isBor ie=false→Rep Z' v d)→Q v s')→wpAny P.M A (eval e env) Q E s:=fun g h=>g.out h
 cases ie with
 | none=>exact out (yT hc hd S)
 | bool _=>exact out (yV hc hd S)
 | int _=>exact out (Cz hc hd S)
 | str _=>exact out (Cw hc hd S)
 | var _=>exact out (Cu hc hd S)
 | bor _=>exact fun h=>CE hc hd S fun v s' Z' g r=>h v s' Z' g r fun q=>Bool.noConfusion q
 | glo _=>exact out (CC F R' hc hd S)
 | bin _ _ _=>exact out (CF H R' hc hd S)
 | un _ _=>exact out (Gr H R' hc hd S)
 | cmp _ _ _=>exact out (CD H R' hc hd S)
 | not _=>exact out (Cx H R' hc hd S)
 | and _ _=>exact out (CG H R' hc hd S)
 | or _ _=>exact out (Gs H R' hc hd S)
 | ite _ _ _=>exact out (Cy H HT R' hc hd S)
 | list _=>exact out (yU H R' hc hd S)
 | tup _=>exact out (Cv H R' hc hd S)
 | idx _ _=>exact out (CB H R' hc hd S)
 | slice _ _ _=>exact out (uU H R' hc hd S)
 | call _ _=>exact out (eT F O H R' hc hd S)
 | bi _ _=>exact out (kq F H R' hc hd S)
 | mt _ _ _=>exact out (qt F H R' hc hd S)
 | attr _ _=>exact out (D4 F R' hc hd S)
 | methW _=>exact out (n6 O R' hc hd S)
 | comp _ _ _ _=>exact fun h=>qk F H HT R' hc hd S fun v s' Z' g r=>h v s' Z' g (.of r) fun υ=>r
section
variable {k:Nat}{e:Expr}{t:Bool}{a c:IE}{d:D}
theorem Cq(HT:jN P wc ft n)(R:Room A n)(hc:ckE (k+1) ns sc (.not a) e=true)(hd:evE ft (n+1) σ (.not a)=some d)(ht:fv d=some t)(S:SR P wc sc env ns own b Z σ ad s){Q E}(h:∀s' Z',Go P Z s Z' s'→Q t s'):wpAny P.M A (isTrue e env (eval e env)) Q E s:=by
 refine ov1 hd fun υ h1 hd=>?_
 refine bq (aQ.mp hd) fun u h3 e18_1=>?_; subst e18_1
 cases ht
 exact Dn hc fun υ υ υ hc=>bA2 hc fun ho c1=>kD ho (isTrue_not (HT R c1 (Pl.fF h1 h3) S h))
theorem Ct(HT:jN P wc ft n)(R:Room A n)(hc:ckE (k+1) ns sc (.and a c) e=true)(hd:evE ft (n+1) σ (.and a c)=some d)(ht:fv d=some t)(S:SR P wc sc env ns own b Z σ ad s){Q E}(h:∀s' Z',Go P Z s Z' s'→Q t s'):wpAny P.M A (isTrue e env (eval e env)) Q E s:=by
 refine ov1 hd fun υ h1 hd=>?_
 refine FP (yi hc) fun x y p e23_1 c1 c2 υ=>?_; subst e23_1
 rcases ue hd with⟨rfl,hd⟩ | ⟨rfl,rfl⟩
 ·refine isTrue_and (HT R c1 (Pl.fF (t:=true) h1 rfl) S fun s1 Z1 g1=>isTrue_and (HT R c2 (Pl.fF hd ht) (S.go g1) fun s2 Z2 g2=>?_))
  cases t with
  | true=>exact isTrue_and_nil (h _ _ (g1.trans g2))
  | false=>exact h _ _ (g1.trans g2)
 ·cases ht
  exact isTrue_and (HT R c1 (Pl.fF (t:=false) h1 rfl) S fun s1 Z1 g1=>h _ _ g1)
theorem Gq(HT:jN P wc ft n)(R:Room A n)(hc:ckE (k+1) ns sc (.or a c) e=true)(hd:evE ft (n+1) σ (.or a c)=some d)(ht:fv d=some t)(S:SR P wc sc env ns own b Z σ ad s){Q E}(h:∀s' Z',Go P Z s Z' s'→Q t s'):wpAny P.M A (isTrue e env (eval e env)) Q E s:=by
 refine ov1 hd fun υ h1 hd=>?_
 refine FP (Eg hc) fun x y p e33_1 c1 c2 υ=>?_; subst e33_1
 rcases xP hd with⟨rfl,hd⟩ | ⟨rfl,rfl⟩
 ·refine isTrue_or (HT R c1 (Pl.fF (t:=false) h1 rfl) S fun s1 Z1 g1=>isTrue_or (HT R c2 (Pl.fF hd ht) (S.go g1) fun s2 Z2 g2=>?_))
  cases t with
  | true=>exact h _ _ (g1.trans g2)
  | false=>exact isTrue_or_nil (h _ _ (g1.trans g2))
 ·cases ht
  exact isTrue_or (HT R c1 (Pl.fF (t:=true) h1 rfl) S fun s1 Z1 g1=>h _ _ g1)
theorem Cr(HT:jN P wc ft n)(R:Room A n){q:IE}(hc:ckE (k+1) ns sc (.ite q a c) e=true)(hd:evE ft (n+1) σ (.ite q a c)=some d)(ht:fv d=some t)(S:SR P wc sc env ns own b Z σ ad s){Q E}(h:∀s' Z',Go P Z s Z' s'→Q t s'):wpAny P.M A (isTrue e env (eval e env)) Q E s:=by
 refine ov1 hd fun υ h1 hd=>ov1 hd fun w h2 hd=>G5 hc fun υ υ υ υ hc=>bA5 hc fun c1 c2 c3 υ υ=>isTrue_IfExp (HT R c1 (Pl.fF h1 h2) S fun s1 Z1 g1=>?_)
 cases w with
 | true=>exact HT R c2 (Pl.fF hd ht) (S.go g1) fun s2 Z2 g2=>h _ _ (g1.trans g2)
 | false=>exact HT R c3 (Pl.fF hd ht) (S.go g1) fun s2 Z2 g2=>h _ _ (g1.trans g2)
theorem Cs(H:eU P wc ft n)(R:Room A n){op:CmpOp}(hc:ckE (k+1) ns sc (.cmp op a c) e=true)(hd:evE ft (n+1) σ (.cmp op a c)=some d)(ht:fv d=some t)(S:SR P wc sc env ns own b Z σ ad s){Q E}(h:∀s' Z',Go P Z s Z' s'→Q t s'):wpAny P.M A (isTrue e env (eval e env)) Q E s:=by
 refine ov2 hd fun υ υ h1 h2 hd=>?_
 refine bq (aQ.mp hd) fun u h3 e48_1=>?_; subst e48_1
 cases ht
 exact zS hc fun υ υ υ υ hc=>k1' hc fun υ hc=>k1' hc fun υ hc=>bA3 hc fun ho c1 c2=>kD ho
  (wpAny_isTrue_Compare1 (H R c1 h1 S fun v s1 Z1 g1 r1 υ=>H R c2 h2 (S.go g1) fun w s2 Z2 g2 r2 υ=>mM R g2.ok h3 (r1.go g1.ok g2) r2 _ _ fun z s3 Z3 g3 r3=>by
   cases r3.bool_inv
   exact wpAny_truthy_bool (h _ _ ((g1.trans g2).trans g3))) (mv c2 _))
end
theorem qO(F:Facts P wc)(O:FnOk P wc ft)(H:eU P wc ft n)(HT:jN P wc ft n):jN P wc ft (n+1):=by
 intro A env ns sc own b σ ad Z s k ie e t R hc ht S Q E h
 refine ov1 ht fun d hd htr=>?_
 cases hp:pl ie with
 | true=>
  have plain:wpAny P.M A (eval e env) (fun v s₁=>wpAny P.M A (truthy v) Q E s₁) E s:=md F O H HT R hc hd S fun v s1 Z1 g1 r1 υ=>fy g1.ok htr r1 fun s2 Z2 g2=>h _ _ (g1.trans g2)
  refine isTrue_plain plain ?_
  exact jl hc (fun υ υ υ=>rfl) (fun υ υ=>rfl) (fun υ υ υ υ=>rfl) (fun op υ υ q=>by cases op<;>first | rfl | exact absurd rfl (q hp)) (fun q=>by rw[hp]at q; cases q) (fun q=>by rw[hp]at q; cases q) (fun q=>by rw[hp]at q; cases q)
   (fun υ υ=>rfl) (fun υ υ υ=>rfl) (fun υ υ υ=>rfl) (fun υ υ υ υ=>rfl) (fun υ υ υ=>rfl) (fun υ υ υ υ υ=>rfl)
 | false=>
  cases k with
  | zero=>exact kno hc
  | succ k=>
  have R':Room A n:=R.mono (eE n)
  cases ie with
  | not _=>exact Cq HT R' hc hd htr S h
  | and _ _=>exact Ct HT R' hc hd htr S h
  | or _ _=>exact Gq HT R' hc hd htr S h
  | ite _ _ _=>exact Cr HT R' hc hd htr S h
  | cmp _ _ _=>exact Cs H R' hc hd htr S h
  | _=>cases hp
theorem uS:eU P wc ft 0∧jN P wc ft 0:=by
 constructor
 ·intro A env ns sc own b σ ad Z s k ie e d R hc hd
  cases hd
 ·intro A env ns sc own b σ ad Z s k ie e d R hc hd
  exact absurd hd nofun
theorem cK(F:Facts P wc)(O:FnOk P wc ft):∀n,eU P wc ft n∧jN P wc ft n:=by
 intro n
 induction n with
 | zero=>
  exact uS
 | succ n ih=>
  exact by obtain⟨H,HT⟩:=ih; exact⟨md F O H HT,qO F O H HT⟩
end
end Pw
end
section
open PySem PySem.W
namespace Pw
theorem jX{β:Type}{o:Option Var}{g:List D→Option β}{d:β}(h:(match o with | some (.mut ds)=>g ds | _=>none)=some d):∃ds,o=some (.mut ds)∧g ds=some d:=by
 rcases o with _ | (_ | _ | _ | _ | _)<;>first | exact⟨_,rfl,h⟩ | cases h
theorem Hc{β:Type}{y:D}{g:Int→Option β}{d:β}(h:(match y with | .int j=>g j | _=>none)=some d):∃j,y= .int j∧g j=some d:=by
 cases y<;>first | exact⟨_,rfl,h⟩ | cases h
theorem Di{β:Type}{y:D}{g:List D→Option β}{d:β}(h:(match y with | .list j=>g j | _=>none)=some d):∃j,y= .list j∧g j=some d:=by
 cases y<;>first | exact⟨_,rfl,h⟩ | cases h
theorem He{β:Type}{x y:D}{g:Int→Int→Option β}{d:β}(h:(match x,y with | .int a,.int b=>g a b | _,_=>none)=some d):∃a b,x= .int a∧y= .int b∧g a b=some d:=by
 cases x with
 | int a=>cases y<;>first | exact⟨_,_,rfl,rfl,h⟩ | cases h
 | _=>cases h
theorem frov{β:Type}{o:Option Var}{g:D→Option β}{d:β}(h:(match o with | some (.fro x)=>g x | _=>none)=some d):∃x,o=some (.fro x)∧g x=some d:=by
 rcases o with _ | (_ | _ | _ | _ | _)<;>first | exact⟨_,rfl,h⟩ | cases h
theorem GQ{β:Type}{o p:Option Var}{g:List D→List D→Option β}{d:β}(h:(match o,p with | some (.mut a),some (.mut b)=>g a b | _,_=>none)=some d):∃a b,o=some (.mut a)∧p=some (.mut b)∧g a b=some d:=by
 rcases o with _ | (_ | _ | _ | _ | _)<;>first | cases h | skip
 rcases p with _ | (_ | _ | _ | _ | _)<;>first | exact⟨_,_,rfl,rfl,h⟩ | cases h
theorem GN{α:Type}{c:Prop} [Decidable c] {x:Option α}{d:α}(h:(if c then x else none)=some d):c∧x=some d:=by
 by_cases q:c
 ·rw[if_pos q]at h; exact⟨q,h⟩
 ·rw[if_neg q]at h; cases h
theorem oite{α:Type}{c:Prop} [Decidable c] {x y:Option α}{d:α}(h:(if c then x else y)=some d):(c∧x=some d)∨y=some d:=by
 by_cases q:c
 ·rw[if_pos q]at h; exact .inl ⟨q,h⟩
 ·rw[if_neg q]at h; exact .inr h
theorem sI{e:IE}(h:Dx e=true):(∃es,e= .list es)∨(∃a b c d,e= .comp a b c d)∨(∃a es,e= .mt .split a es)∨∃a c,e= .bin .Add a c:=by
 cases e with
 | list es=>exact .inl ⟨_,rfl⟩
 | comp a b c d=>exact .inr (.inl ⟨_,_,_,_,rfl⟩)
 | mt m a es=>exact .inr (.inr (.inl ⟨_,_,by rw[of_decide_eq_true h]⟩))
 | bin op a c=>exact .inr (.inr (.inr ⟨_,_,by rw[of_decide_eq_true h]⟩))
 | _=>exact kno h
end Pw
end
section
open PySem PySem.W PyProof.Rows PySem.Calls
set_option maxRecDepth 4000
namespace Pw
section
variable {prog:Program}{w:World}{A:Around}{E:Value→Shared→Prop}{s:Shared}
theorem mI{l b:Addr}{vs ws:Array Value}{Q:Value→Shared→Prop}(hl:s.heap.PlainList l vs)(hb:s.heap.PlainList b ws)(hsz:vs.size+ws.size≤2097152)
  (h:∀h',h'.PlainList l (vs++ws)→Heap.SameBut l s.heap h'→Q .none {s with heap:=h'}):wpAny (model prog w) A (call (.builtin "list.extend") [.ref l,.ref b]) Q E s:=by
 refine dh hl fun n ho=>?_
 refine dh hb fun m hob=>?_
 have hnl:Builtin.List.listTooLong (vs.size+ws.size)=false:=by
  simp[Builtin.List.listTooLong,sizeLine]; exact E0 hsz
 refine call_meets F.slot_list_extend ⟨_,ho,rfl⟩ F.entry_list_extend (F.args_list_extend_2 _ _) (AutoSeq1.list_extend_list_list_0 l vs n b ws m (by rw[hnl]; simp) (by rw[sizeLine_eq]; exact aq40 hsz) (by rw[sizeLine_eq]; exact aq41 hsz)) ⟨ho,hob,?_⟩
 exact h _ ⟨_,IsL.update (n:=n) ho _⟩ (Heap.SameBut.update ..)
theorem lD{l:Addr}{vs:Array Value}{Q:Value→Shared→Prop}(hl:s.heap.PlainList l vs)(hsz:vs.size≤2097152)
  (h:∀h',h'.PlainList l vs.reverse→Heap.SameBut l s.heap h'→Q .none {s with heap:=h'}):wpAny (model prog w) A (call (.builtin "list.reverse") [.ref l]) Q E s:=by
 refine dh hl fun n ho=>?_
 have e:vs.reverse=(fun x:Array Value=>x.reverse) vs:=rfl
 refine call_meets F.slot_list_reverse ⟨_,ho,rfl⟩ F.entry_list_reverse (F.args_list_reverse_1 _) (AutoListH.list_reverse_list_0 l vs n (by rw[sizeLine_eq]; exact E0 hsz)) ⟨ho,?_⟩
 exact h _ ⟨_,IsL.update (n:=n) ho _⟩ (Heap.SameBut.update ..)
theorem ri{l:Addr}{vs:Array Value}{i:Int}{u:Tok}{y:Value}{Q:Value→Shared→Prop}(hl:s.heap.PlainList l vs)(hsz:vs.size≤2097152)(hi:0≤i)(hk:i.toNat<vs.size)(hy:vs[i.toNat]? =some y)
  (h:∀h',h'.PlainList l (vs.eraseIdxIfInBounds i.toNat)→Heap.SameBut l s.heap h'→Q y {s with heap:=h'}):wpAny (model prog w) A (call (.builtin "list.pop") [.ref l,.int i u]) Q E s:=by
 refine dh hl fun n ho=>?_
 have k63:(2:Int)^63=9223372036854775808:=by decide
 refine call_meets F.slot_list_pop ⟨_,ho,rfl⟩ F.entry_list_pop (F.args_list_pop_2 _ _) (MeetsSeq.list_pop_at l vs n i u i.toNat y (by simp[Builtin.List.listFitsIndex]; exact aq42 hsz hk hi) ?_ hy (by rw[sizeLine_eq]; exact E0 hsz)) ⟨ho,?_⟩
 ·unfold seqIndex?
  rw[if_neg (show ¬i<0 by exact Fu hi),if_pos (by simp; exact Nn hk hi)]
 ·exact h _ ⟨_,IsL.update (n:=n) ho _⟩ (Heap.SameBut.update ..)
theorem iF{l:Addr}{items:Array Value}{k:Int}{t:Tok}{v:Value}{Q:Unit→Shared→Prop}(hl:s.heap.PlainList l items)
  (h0:0≤k) (hfit:k<2^63) (hn:k<items.size)
  (hQ:∀h',h'.PlainList l (items.setIfInBounds k.toNat v)→Heap.SameBut l s.heap h'→Q () {s with heap:=h'}):
  wpAny (model prog w) A (setItem (.ref l) (.int k t) v) Q E s:=by
 refine dh hl fun n ho=>?_
 have hd:({cls:= .type "list",data:= .seq items n}:Obj).data= .seq items n:=rfl
 have hT:s.TypeIs (.ref l) "list":=⟨_,ho,rfl⟩
 unfold setItem
 try with_reducible refine wpAny_holding ?_
 first | refine wpAny_bind (aD ?_) | skip
 refine wpAny_bind (wpAny_sequenceKey hT (by decide) ?_)
 refine wpAny_bind (wpAny_callSpecial?_slot (name:=aa "__setitem__") hT slot_list_setitem
  (wpAny_call_entry slot_list_setitem hT entry_list_setitem ?_ (args_list_setitem _ _ _)))
 refine(?_:wpAny _ _ (Builtin.List.listSubscript? (.int k t)>>=_) _ _ s)
 refine wpAny_bind (wpAny_listSubscript_int (fitsIndex_of h0 hfit) ?_)
 clear hfit
 refine dh (Int.eq_ofNat_of_zero_le h0) fun j e50_1=>?_; subst e50_1
 have hj:j<items.size:=by exact aq43 hn
 have hx':items[j]? =some items[j]:=Array.getElem?_eq_getElem hj
 refine(?_:wpAny _ _ ((seqItemAt l j>>=fun r=>pure (r.map (j,·)))>>=_) _ _ s)
 refine wpAny_bind (wpAny_bind (wpAny_seqItemAt ho hd (aD ?_)))
 rw[hx']
 refine(?_:wpAny _ _ (setSeqItemAt l j v>>=_) _ _ s)
 have hfin:(s.heap.update l (Obj.mapSeq (·.setIfInBounds j v))).PlainList l (items.setIfInBounds j v):=⟨_,IsL.update (n:=n) ho _⟩
 refine wpAny_bind (wpAny_setSeqItemAt ho hd ?_)
 first
  | exact wpAny_bind (aD (aD ⟨.none,rfl,aD (hQ _ hfin (Heap.SameBut.update ..))⟩))
  | exact aD ⟨.none,rfl,aD (hQ _ hfin (Heap.SameBut.update ..))⟩
end
section
variable {P:Pm}{wc:Addr}{sc:Scope}{env:Env}{ns:Nms}{own:Nat}{b:Bs}{Z Z' Z1:Heap}{σ σ':St}{ad:Nat→Addr}{s s':Shared}{A:Around}{ft:FT}{n:Nat}
noncomputable def F6(P:Pm)(A:Around)(Z:Heap)(s:Shared)(t:Sem Value)(ds:List D):Prop:=
 ∀(Q:Value→Shared→Prop) (E:Value→Shared→Prop),(∀a s' Z' vs,Go P Z s Z' s'→s'.heap.PlainList a vs→RepAll Z' vs.toList ds→s.heap.get? a=none→Z'.get? a=none→Q (.ref a) s')→wpAny P.M A t Q E s
theorem Go.old(g:Go P Z s Z' s'){a:Addr}(h:s'.heap.get? a=none):s.heap.get? a=none:=by
 cases e:s.heap.get? a with
 | none=>rfl
 | some o=>
  have hT:a∉P.T:=fun ht=>by
   refine bq (P.to2 g.ok.tab a ht) fun o' e' υ=>?_
   rw[h]at e'; cases e'
  have:=g.keep _ _ hT e; rw[h]at this; cases this
theorem F6.push(g:Go P Z s Z' s'){o:Obj}{vs:Array Value}{ds:List D}(hl:(s'.heap.push o).PlainList s'.heap.objs.size vs)(hr:RepAll Z' vs.toList ds){k:Nat}(hk:0<k){Q:Value→Shared→Prop}
  (h:∀a s' Z' vs,Go P Z s Z' s'→s'.heap.PlainList a vs→RepAll Z' vs.toList ds→s.heap.get? a=none→Z'.get? a=none→Q (.ref a) s'):Q (.ref s'.heap.objs.size) {s' with heap:=s'.heap.push o,toks:=k}:=
 h _ _ Z' vs (g.trans (Go.push g.ok o k hk)) hl hr (g.old (get?_size _)) (g.ok.znone (get?_size _))
theorem oT(H:eU P wc ft n)(R:Room A n){k:Nat}{es:List IE}{e:Expr}{d:D}(hc:ckE (k+1) ns sc (.list es) e=true)(hd:evE ft (n+1) σ (.list es)=some d)(S:SR P wc sc env ns own b Z σ ad s):
  ∃ds,d= .list ds∧F6 P A Z s (eval e env) ds:=by
 refine gw (Bc hc) fun xs p e29_1 c1 hb=>?_; subst e29_1
 skip
 refine bq (ao.mp hd) fun ds h1 hd=>?_
 split at hd
 ·rename_i hz; cases hd
  refine gX ds rfl (fun Q E h=>?_)
  refine wpAny_List_spliced ?_
  rw[bF (eH c1),args_two]
  refine du H R c1 h1 S fun vs s1 Z1 g1 _ r1=>?_
  have rr:=r1 hb
  refine⟨pg hz rr.length,?_⟩
  exact F6.push g1 (o:={cls:= .type "list",data:= .seq vs.toArray}) (vs:=vs.toArray) ⟨_,aJ _ rfl⟩ (by simpa using rr) (k:=s1.toks) g1.ok.tk h
 ·cases hd
theorem xy{x y:D}{ds:List D}(h:dO .Add x y=some (.list ds)):∃xs ys,x= .list xs∧y= .list ys∧xs.length+ys.length≤few∧ds=xs++ys:=by
 cases x with
 | int a=>cases y<;>cases h
 | str a=>
  cases y with
  | str b=>exact absurd (oif h).2 nofun
  | _=>cases h
 | list a=>
  cases y with
  | list b=>
   obtain⟨hz,e⟩:=oif h
   cases e
   exact⟨_,_,rfl,rfl,hz,rfl⟩
  | _=>cases h
 | _=>cases h
theorem qM{x d:D}{ds:List D}(h:mtD .split x ds=some d):∃x' y,x= .str x'∧ds=[.str y]∧(x'.length≤4000∧0<y.length)∧d= .list ((Txt.split x' y).map .str):=by
 obtain⟨a,b,rfl,rfl,h⟩:=oO h (by funext y; cases y<;>rfl) (fun υ υ υ υ=>rfl) (fun υ=>rfl) (fun υ=>by funext y; cases y<;>rfl)
 obtain⟨hz,rfl⟩:=oif h
 exact⟨_,_,rfl,rfl,hz,rfl⟩
theorem zA(H:eU P wc ft n)(R:Room A n){k:Nat}{a c:IE}{e:Expr}{ds:List D}(hc:ckE (k+1) ns sc (.bin .Add a c) e=true)(hd:evE ft (n+1) σ (.bin .Add a c)=some (.list ds))(S:SR P wc sc env ns own b Z σ ad s):
  F6 P A Z s (eval e env) ds:=by
 intro Q E h
 refine pF (Ei hc) fun l r p e46_1 c1 c2=>?_; subst e46_1
 skip
 refine bq (ao.mp hd) fun x h1 hd=>?_
 refine bq (ao.mp hd) fun y h2 hd=>?_
 obtain⟨xs,ys,rfl,rfl,hz,rfl⟩:=xy hd
 refine wpAny_BinOp (H R c1 h1 S fun v s1 Z1 g1 r1 υ=>H R c2 h2 (S.go g1) fun u s2 Z2 g2 r2 υ=>?_)
 have g:=g1.trans g2
 refine gw ((r1.go g1.ok g2).list g2.ok) fun av vs e68_1 lv rv=>?_; subst e68_1
 refine gw (r2.list g2.ok) fun au us e69_1 lu ru=>?_; subst e69_1
 exact iV lv lu rv ru hz fun l' hl hr=>F6.push g hl hr (k:=s2.toks) g2.ok.tk h
theorem qL{x y:Str}{t u:Tok}(hx:x.length≤4000)(hy:0<y.length){Q:Value→Shared→Prop}{E:Value→Shared→Prop}
  (k:∀o l tk,o.isFreed=false→(s.heap.push o).PlainList s.heap.objs.size l→RepAll Z l.toList ((Txt.split x y).map .str)→Q (.ref s.heap.objs.size) {s with heap:=s.heap.push o,toks:=tk}):
  wpAny P.M A (call (.builtin "str.split") [.str x t,.str y u]) Q E s:=by
 have hsz:x.length≤sizeLine:=by rw[sizeLine_eq]; exact aq47 hx
 have hy':(y.length==0)=false:=by simp; exact IK hy
 have one:Txt.split x y=[x]→wants Q E (.ok (.ret (.ref s.heap.objs.size))) {s with heap:=s.heap.push {cls:= .type "list",data:= .seq #[Value.str x t]}}:=fun e=>
  k _ #[Value.str x t] s.toks rfl ⟨_,aJ _ rfl⟩ (by rw[e]; exact .cons (.str _ _) .nil)
 cases h1:(decide (x.length<y.length)||decide (Builtin.Str.strKind x<Builtin.Str.strKind y))
 ·cases hf:(Builtin.Str.occurrences x y 0 x.length (x.length+1)).isEmpty
  ·have hsz2:(Builtin.Str.partsBetween x (Builtin.Str.occurrences x y 0 x.length (x.length+1)) y.length).length≤sizeLine:=by
    have:=StrLaws.occ_length_le x y 0 x.length (x.length+1)
    unfold Builtin.Str.partsBetween
    simp only[ag,List.length_zip,ah,ak,aE]
    rw[sizeLine_eq]; exact aq49 this hx
   refine call_meets F.slot_str_split (typeIs_str _ _ _) F.entry_str_split (F.args_str_split_2 _ _) (meets_str_split_sep x y t u h1 hy' hf hsz hsz2) ?_
   have e:Txt.split x y=Builtin.Str.partsBetween x (Builtin.Str.occurrences x y 0 x.length (x.length+1)) y.length:=
    (if_neg (ne_true_of_eq_false h1)).trans (if_neg (ne_true_of_eq_false hf))
   refine k _ (strsFrom s.toks (Builtin.Str.partsBetween x (Builtin.Str.occurrences x y 0 x.length (x.length+1)) y.length)).toArray _ rfl ⟨_,aJ _ rfl⟩ ?_
   rw[e,strsFrom_eq]
   have q:=ip (Z:=Z) (numbered s.toks (Builtin.Str.partsBetween x (Builtin.Str.occurrences x y 0 x.length (x.length+1)) y.length))
   rw[numbered_texts]at q
   exact q
  ·exact call_meets F.slot_str_split (typeIs_str _ _ _) F.entry_str_split (F.args_str_split_2 _ _) (meets_str_split_not_found x y t u h1 hy' hf)
    (one ((if_neg (ne_true_of_eq_false h1)).trans (if_pos hf)))
 ·exact call_meets F.slot_str_split (typeIs_str _ _ _) F.entry_str_split (F.args_str_split_2 _ _) (meets_str_split_cannot_occur x y t u h1) (one (if_pos h1))
theorem rQ(H:eU P wc ft n)(R:Room A n){k:Nat}{a:IE}{es:List IE}{e:Expr}{d:D}(hc:ckE (k+1) ns sc (.mt .split a es) e=true)(hd:evE ft (n+1) σ (.mt .split a es)=some d)(S:SR P wc sc env ns own b Z σ ad s):
  ∃ds,d= .list ds∧F6 P A Z s (eval e env) ds:=by
 skip
 refine bq (ao.mp hd) fun x h1 hd=>?_
 refine bq (ao.mp hd) fun ds h2 hd=>?_
 obtain⟨x',y,rfl,rfl,hz,rfl⟩:=qM hd
 refine gX _ rfl (fun Q E h=>?_)
 refine Gb (Bb hc (by decide)) fun o apos xs pos e15_1 hno ho ha hline hlen υ=>?_; subst e15_1
 have hfew:=rX (env:=env) (pos:=pos) ha hlen
 refine wpAny_Call_method_lateS (lX hno) hfew hline (H R ho h1 S fun v s1 Z1 g1 r1 υ=>?_)
 refine dh r1.str fun t e22_1=>?_; subst e22_1
 refine Ad ("str") ("str.split") PySem.F.plainAttrs_str PySem.F.slot_str_split PySem.F.type_str_split (typeIs_str _ _ _) ((fun a q=>by cases q)) ?_
 rw[bF (eH ha),args_two]
 refine cZ (first:=[.str x' t]) (du H R ha h2 (S.go g1) fun vs s2 Z2 g2 al υ=>?_)
 cases al with | cons r2 r3=>cases r3 with | nil=>
 refine dh r2.str fun u e27_1=>?_; subst e27_1
 refine wpAny_with_toks (n:=1) g2.ok.tk (qL (Z:=Z2) hz.1 hz.2 fun o l tk υ hl hr htk=>?_)
 exact F6.push (g1.trans g2) hl hr htk h
end
section inversion
variable {ns:Nms}{sc:Scope}{k:Nat}{st:Stmt}
end inversion
noncomputable def FlR(Z:Heap):Fl→Flow→Prop
 | .next,.next=>True
 | .brk,.brk=>True
 | .ret d,.ret v=>Rep Z v d
 | _,_=>False
noncomputable def qu(ns:Nms):Prop:=∀i,i<ns.length→∃x,ns[i]? =some (some x)
noncomputable def kM(P:Pm)(wc:Addr)(sc:Scope)(env:Env)(ns:Nms)(A:Around)(b:Bs)(Z:Heap)(s:Shared)(t:Sem Flow)(f:Fl)(σ':St):Prop:=
 ∀(Q:Flow→Shared→Prop) (E:Value→Shared→Prop),(∀fl s' Z' ad',FlR Z' f fl→Le Z Z'→SR P wc sc env ns 0 b Z' σ' ad' s'→Q fl s')→wpAny P.M A t Q E s
section
variable {P:Pm}{wc:Addr}{sc:Scope}{env:Env}{ns:Nms}{b:Bs}{Z Z' Z1:Heap}{σ σ':St}{ad:Nat→Addr}{s s':Shared}{A:Around}{ft:FT}{n:Nat}
theorem ez{r x:Fl×St}{Q:Flow→Shared→Prop}(e:some x=some r)(h:∀fl s' Z' ad',FlR Z' r.1 fl→Le Z Z'→SR P wc sc env ns 0 b Z' r.2 ad' s'→Q fl s'):∀fl s' Z' ad',FlR Z' x.1 fl→Le Z Z'→SR P wc sc env ns 0 b Z' x.2 ad' s'→Q fl s':=by
 cases e; exact h
theorem SR.bindMut(S:SR P wc sc env ns 0 b Z σ ad s)(g:Go P Z s Z' s')(hf:qu ns){i:Nat}{x:Str}(hi:ns[i]? =some (some x)){a:Addr}{vs:Array Value}{ds:List D}(hl:s'.heap.PlainList a vs)(hr:RepAll Z' vs.toList ds)
  (h0:s.heap.get? a=none) (hz:Z'.get? a=none) {Q:Unit→Shared→Prop} {E} (h:∀s' ad',SR P wc sc env ns 0 b Z' (σ.set i (.mut ds)) ad' s'→Q () s'):wpAny P.M A (bindName env x (.ref a)) Q E s':=by
 have S':=S.go g
 have hT:a∉P.T:=S'.ok.listT hl
 have hB:b.B.get? a=none:=by
  cases e:b.B.get? a with
  | none=>rfl
  | some o=>have:=S.base _ _ hT e; rw[h0]at this; cases this
 refine S'.bind hi (bK _) (S'.lt hi) (w:= .mut ds) (a:=a) ⟨vs,rfl,hl,hr,hz,hB⟩ (fun ds' υ j es hj hq e=>?_) fun s'' S''=>h s'' _ S''
 have hlt:j<ns.length:=by
  rw[←S.len]
  rcases bS j σ.length with q | q
  ·exact q
  ·rw[bj q]at hq; cases hq
 refine dh (hf j hlt) fun y hy=>?_
 refine bq (S.slot (A:={}) hy) fun ov r υ=>?_
 rw[hq]at r
 obtain⟨us,υ,⟨m,l⟩,υ⟩:=r
 rw[e,h0]at l; cases l
noncomputable def ja(e:Expr):Bool:=Expr.casesOn (motive_1:=fun υ=>Bool) e (fun υ υ υ=>true) (fun υ υ υ=>true) (fun υ υ υ υ=>true) (fun υ υ υ=>true) (fun υ υ υ υ=>true) (fun υ υ υ υ=>true) (fun υ υ υ=>true) (fun υ υ υ=>true) (fun υ υ υ υ=>false) (fun υ υ υ υ=>false) (fun υ υ υ υ υ=>false) (fun υ υ υ υ=>true) (fun υ υ=>true) (fun υ υ=>true) (fun υ υ=>true) (fun υ υ υ υ=>true) (fun υ υ υ υ=>true) (fun υ υ υ υ=>true) (fun υ υ=>true) (fun υ υ υ=>true) (fun υ υ υ=>true) (fun υ υ υ=>true) (fun υ υ=>true) (fun υ υ=>true) (fun υ υ=>true) (fun υ υ υ=>true) (fun υ υ υ υ=>true)
theorem ew{v:Expr}(h:ja v=true)(t:Option Expr)(l:Nat):swapsWith v t l env=pure false:=by
 cases v<;>first | rfl | exact kno h
theorem gD{k:Nat}{ie:IE}{e:Expr}(hc:ckE k ns sc ie e=true)(h:∀a c d f,ie≠ .comp a c d f):ja e=true:=
 jl hc (by intros; rfl) (by intros; rfl) (by intros; rfl) (by intros; rfl) (by intros; rfl) (by intros; rfl) (by intros; rfl) (by intros; rfl) (by intros; rfl) (by intros; rfl) (by intros; rfl) (by intros; rfl) (fun υ1q0=>by obtain⟨_,_,_,_,q⟩:=υ1q0; exact absurd q (h _ _ _ _))
theorem dD{x:Str}{p q:Pos}{v:Expr}(hs:swapsWith v (some (.Name x p)) q.line env=pure false){Q:Flow→Shared→Prop}{E}(h:wpAny P.M A (eval v env) (fun u s₁=>wpAny P.M A (bindName env x u) (fun υ=>Q .next) E s₁) E s):
  wpAny P.M A (exec (.Assign [.Name x p] v q) env) Q E s:=by
 rw[exec_Assign_Name env x p v q hs]
 exact wpAny_bind (wpAny_standAt (wpAny_bind (wpAny_mono h (fun u s₁ h₁=>wpAny_bind (wpAny_standAt (wpAny_bind (wpAny_mono h₁ (fun υ υ h'=>aD h') fun υ υ e=>e)))) fun υ υ e=>e)))
theorem kp(F:Facts P wc)(H:eU P wc ft n)(HT:jN P wc ft n)(R:Room A n){k:Nat}{elt:IE}{gens:List (Tg×IE×List IE)}{ow:List String}{free:List Nat}{el:Expr}{gs:List Comprehension}{sc':Scope}{pos p q:Pos}{x:Str}
  (C:CompCk k ns sc elt gens ow free el gs sc') {d:PyData} (hd:j8 (evE ft n) σ elt gens ow free=some d) (S:SR P wc sc env ns 0 b Z σ ad s)
  (hs:swapsWith (.ListComp el gs sc' pos) (some (.Name x p)) q.line env=pure true) {Q:Flow→Shared→Prop} {E:Value→Shared→Prop}
  (h:∀D s5 Z5 ws outs,Go P Z s Z5 s5→d= .list outs→s5.heap.PlainList D ws→RepAll Z5 ws.toList outs→s.heap.get? D=none→Z5.get? D=none→
   ∀C oC,s.heap.get? C=none→s5.heap.get? C=some oC→Z5.get? C=none→C∉P.T→(∃es ep,oC.data= .dict es ep)→C≠D→
   wpAny P.M A (bindName env x (.ref D)) (fun υ s''=>s''.heap.get? C=some oC∧∀h',Heap.SameBut C s''.heap h'→Q .next {s'' with heap:=h'}) E s5):
  wpAny P.M A (exec (.Assign [.Name x p] (.ListComp el gs sc' pos) q) env) Q E s:=by
 refine bq (S.closure C.scope) fun cl hcl hcl'=>?_
 refine Ga C.hd fun tg itx cs r' src e2 hs1=>?_
 rw[exec_Assign_Name_used _ _ _ _ hs]
 refine wpAny_bind (wpAny_standAt (wpAny_bind ?_))
 refine(?_:wpAny P.M A (do let _ ←comprehension (.ListComp el gs sc' pos) sc' env (firstIterPos gs pos) (newList []) (firstAsync gs) (firstIter gs env) (some (assign (.Name x p) env))) _ _ s)
 have hasy:firstAsync gs=false:=by rw[e2]; rfl
 rw[hasy]
 refine wpAny_bind (wpAny_mono (wpAny_comprehension_free (use:=some (assign (.Name x p) env)) (Q:=fun υ s'=>Q .next s') (g:=⟨tg,itx,cs,0⟩) (gs:=r') (by rw[e2]; rfl) (fun x=>fC hs1 x) hcl C.scope.kind C.scope.locs
  (jj (RR:=fun acc C r s'=>compPost P.M A E (some (assign (.Name x p) env)) (fun υ s'=>Q .next s') acc C r s') F H HT R C hd S hcl' fun D C s5 Z5 m ws outs g e hl hr hfD hzD hm hC hz hT hne=>?_)) (fun υ s' hq=>aD (aD hq)) fun υ υ e=>e)
 refine(?_:wpAny P.M A (assign (.Name x p) env (.ref D)) _ E s5)
 refine pF (id hm) fun oC es ep hoC hdC rest=>?_
 rw[PySem.assign_Name]
 refine wpAny_bind (wpAny_standAt (wpAny_mono (h D s5 Z5 ws outs g e hl hr hfD hzD C oC hC hoC hz hT ⟨es,ep,hdC⟩ hne) (fun υ s'' hq=>?_) fun υ υ e=>e))
 exact gX m (⟨oC,es,ep,hq.1,hdC,rest⟩) hq.2
theorem kP{x:Str}{p:Pos}{el:Expr}{gs:List Comprehension}{sc':Scope}{pos:Pos}{l:Nat}:∃t:Bool,swapsWith (.ListComp el gs sc' pos) (some (.Name x p)) l env=pure t:=⟨_,rfl⟩
theorem bf(F:Facts P wc)(O:FnOk P wc ft)(R:Room A n){k i:Nat}{e:IE}{st:Stmt}{f:Fl}(hc:ckS (k+1) ns sc (.assign i e) st=true)(hv:evS ft (n+1) σ (.assign i e)=some (f,σ'))(S:SR P wc sc env ns 0 b Z σ ad s):
  kM P wc sc env ns A b Z s (exec st env) f σ':=by
 refine sD hc fun x p v q hc=>bA3 hc fun hi ce hb=>?_
 intro Q E h
 have hi:=fJ hi
 have hb:=kL hb
 skip
 refine bq (aQ.mp hv) fun d hd e'=>?_
 cases e'
 have H:eU P wc ft n:=(cK F O n).1
 have plain:∀t,swapsWith v (some (.Name x p)) q.line env=pure t→t=false→wpAny P.M A (exec (.Assign [.Name x p] v q) env) Q E s:=fun t hs ht=>by
  subst ht
  refine dD hs (H R ce hd S fun u s1 Z1 g1 υ r1=>?_)
  exact(S.go g1).bindFro hi (bK _) (r1 hb) fun s2 ad2 S2=>h _ _ _ ad2 trivial g1.le S2
 by_cases hcomp:∃a c d' f',e= .comp a c d' f'
 ·refine FO hcomp fun elt gens ow free e20_1=>?_; subst e20_1
  cases n with
  | zero=>cases hd
  | succ n=>
  cases k with
  | zero=>exact Bool.noConfusion ce
  | succ k=>
  refine FN (oo ce) fun el gs sc' pos e27_1 C=>?_; subst e27_1
  refine dh (kP (env:=env) (x:=x) (p:=p) (el:=el) (gs:=gs) (sc':=sc') (pos:=pos) (l:=q.line)) fun t ht=>?_
  cases t with
  | false=>exact plain false ht rfl
  | true=>
   have hd':j8 (evE ft n) σ elt gens ow free=some d:=hd
   refine fu (cK F O n) fun H' HT'=>?_
   refine kp F H' HT' (R.mono (eE n)) C hd' S ht fun D s5 Z5 ws outs g e hl hr hfD hzD C oC hC hoC hz hT hdict hne=>?_
   subst e
   have S5:=S.go g
   obtain⟨oD,hoD⟩:∃o,s5.heap.get? D=some o:=by obtain⟨n,e⟩:=hl; exact⟨_,e⟩
   have pD:=cG hl hoD
   have hTD:D∉P.T:=g.ok.notT hoD (.inl pD.notNone)
   have g6:=g.freeze hoD hfD hzD hTD
   have hle:=dY (o:=oD) hzD
   have hzC:(hput Z5 D oD).get? C=none:=by rw[cD hne]; exact hz
   have hnc:∀v,oC.data≠ .cell v:=fun v e=>by obtain⟨es,ep,q⟩:=hdict; rw[q]at e; cases e
   have hni:∀dx,oC≠instObj wc dx:=fun dx e=>by obtain⟨es,ep,q⟩:=hdict; rw[e]at q; cases q
   have S6:=S.goBase g6 hT hC hoC hzC hnc
   have rr:Rep (hput Z5 D oD) (.ref D) (.list outs):=Rep.list (vs:=ws) (by obtain⟨nn,e⟩:=hl; exact⟨nn,by rw[cM (ba.mp hoD).2,←hoD]; exact e⟩) (hr.le hle)
   refine S6.bindFro hi (bK _) rr fun s7 ad7 S7=>?_
   have hfC:oC.isFreed=false:=(ba.mp hoC).2
   have h7:s7.heap.get? C=some oC:=S7.base C oC hT (cM hfC)
   refine⟨h7,fun h' hs=>?_⟩
   have S0:=S.go g6
   have hB:b.B.get? C=none:=by
    cases e:b.B.get? C with
    | none=>rfl
    | some o=>have:=S.base _ _ hT e; rw[hC]at this; cases this
   have hZ0:b.Z0.get? C=none:=by
    cases e:b.Z0.get? C with
    | none=>rfl
    | some o=>have:=S0.zle _ _ e; rw[hzC]at this; cases this
   have S8:=S0.dropChange hoC hT hB hZ0 hni hnc S7 (h':=h') (tk:=s7.toks) (fun c o hc e=>(hs.2 c hc).trans e) S7.ok.tk
   exact h _ _ _ ad7 trivial g6.le S8
 ·refine plain false (ew (gD ce fun a c d' f' q=>hcomp ⟨a,c,d',f',q⟩) _ _) rfl
end
section
variable {P:Pm}{wc:Addr}{sc:Scope}{env:Env}{ns:Nms}{b:Bs}{Z Z' Z1:Heap}{σ σ':St}{ad:Nat→Addr}{s s':Shared}{A:Around}{ft:FT}{n:Nat}
theorem dX(F:Facts P wc)(O:FnOk P wc ft)(R:Room A n)(hf:qu ns){k i:Nat}{e:IE}{st:Stmt}{f:Fl}(hc:ckS (k+1) ns sc (.assignM i e) st=true)(hv:evS ft (n+1) σ (.assignM i e)=some (f,σ'))(S:SR P wc sc env ns 0 b Z σ ad s):
  kM P wc sc env ns A b Z s (exec st env) f σ':=by
 refine sD hc fun x p v q hc=>bA3 hc fun hi ce hnew=>?_
 intro Q E h
 have hi:=fJ hi
 refine ov1 hv fun d hd hv=>?_
 obtain⟨ds,rfl,hv⟩:=Di hv
 have h:=ez hv h
 have fin:∀{a s1 Z1 vs},Go P Z s Z1 s1→s1.heap.PlainList a vs→RepAll Z1 vs.toList ds→s.heap.get? a=none→Z1.get? a=none→wpAny P.M A (bindName env x (.ref a)) (fun υ=>Q .next) E s1:=fun g hl hr h0 hz=>
  S.bindMut g hf hi hl hr h0 hz fun s2 ad2 S2=>h _ _ _ ad2 trivial g.le S2
 cases n with
 | zero=>cases hd
 | succ n=>
 cases k with
 | zero=>exact Bool.noConfusion ce
 | succ k=>
 have H:eU P wc ft n:=(cK F O n).1
 have HT:jN P wc ft n:=(cK F O n).2
 have R':Room A n:=R.mono (eE n)
 have plain:swapsWith v (some (.Name x p)) q.line env=pure false→F6 P A Z s (eval v env) ds→wpAny P.M A (exec (.Assign [.Name x p] v q) env) Q E s:=fun hs hn=>
  dD hs (hn _ _ fun a s1 Z1 vs g hl hr h0 hz=>fin g hl hr h0 hz)
 rcases sI hnew with⟨es,rfl⟩ | ⟨elt,gens,ow,free,rfl⟩ | ⟨a,es,rfl⟩ | ⟨a,c,rfl⟩
 ·skip
  refine bq (oT H R' ce hd S) fun ds' e hn=>?_
  cases e
  exact plain (ew (gD ce nofun) _ _) hn
 ·skip
  refine FN (oo ce) fun el gs sc' pos e38_1 C=>?_; subst e38_1
  refine dh (kP (env:=env) (x:=x) (p:=p) (el:=el) (gs:=gs) (sc':=sc') (pos:=pos) (l:=q.line)) fun t ht=>?_
  have hd':j8 (evE ft n) σ elt gens ow free=some (.list ds):=hd
  cases t with
  | false=>
   refine plain ht ?_
   intro Q2 E2 h2
   refine bq (S.closure C.scope) fun cl hcl hcl'=>?_
   refine Ga C.hd fun tg itx cs r' src e2 hs1=>?_
   rw[eval_ListComp]
   have hasy:firstAsync gs=false:=by rw[e2]; rfl
   rw[hasy]
   refine wpAny_comprehension_free (use:=none) (g:=⟨tg,itx,cs,0⟩) (gs:=r') (by rw[e2]; rfl) (fun x=>fC hs1 x) hcl C.scope.kind C.scope.locs ?_
   refine jj (RR:=fun acc C r s'=>compPost P.M A E2 none Q2 acc C r s') F H HT R' C hd' S hcl' fun D C s5 Z5 m ws outs g e hl hr hfD hzD hm hC hz hT hne=>?_
   cases e
   exact gX m hm (fun h' hs=>h2 D _ Z5 ws (g.changeFresh hC hz hT hs) (hl.extBut hs.extBut (Ne.symm hne)) hr hfD hzD)
  | true=>
   refine kp F H HT R' C hd' S ht fun D s5 Z5 ws outs g e hl hr hfD hzD C oC hC hoC hz hT hdict hne=>?_
   cases e
   have hnc:∀v,oC.data≠ .cell v:=fun v e=>by obtain⟨es,ep,q⟩:=hdict; rw[q]at e; cases e
   have hni:∀dx,oC≠instObj wc dx:=fun dx e=>by obtain⟨es,ep,q⟩:=hdict; rw[e]at q; cases q
   have S6:=S.goBase g hT hC hoC hz hnc
   have hfC:oC.isFreed=false:=(ba.mp hoC).2
   have hTD:D∉P.T:=S6.ok.listT hl
   have hBD:(b.add C oC).B.get? D=none:=by
    unfold Bs.add; dsimp only
    rw[cD (Ne.symm hne)]
    cases e:b.B.get? D with
    | none=>rfl
    | some o=>have:=S.base _ _ hTD e; rw[hfD]at this; cases this
   refine S6.bind hi (bK _) (S6.lt hi) (w:= .mut ds) (a:=D) ⟨ws,rfl,hl,hr,hzD,hBD⟩ (fun ds' υ j es hj hq e=>?_) fun s7 S7=>?_
   ·have hlt:j<ns.length:=by
     rw[←S.len]
     rcases bS j σ.length with q | q
     ·exact q
     ·rw[bj q]at hq; cases hq
    refine dh (hf j hlt) fun y hy=>?_
    refine bq (S.slot (A:={}) hy) fun ov r υ=>?_
    rw[hq]at r
    obtain⟨us,υ,⟨m,l⟩,υ⟩:=r
    rw[e,hfD]at l; cases l
   ·have h7:s7.heap.get? C=some oC:=S7.base C oC hT (cM hfC)
    refine⟨h7,fun h' hs=>?_⟩
    have S0:=S.go g
    have hB:b.B.get? C=none:=by
     cases e:b.B.get? C with
     | none=>rfl
     | some o=>have:=S.base _ _ hT e; rw[hC]at this; cases this
    have hZ0:b.Z0.get? C=none:=by
     cases e:b.Z0.get? C with
     | none=>rfl
     | some o=>have:=S0.zle _ _ e; rw[hz]at this; cases this
    have S8:=S0.dropChange hoC hT hB hZ0 hni hnc S7 (h':=h') (tk:=s7.toks) (fun c o hc e=>(hs.2 c hc).trans e) S7.ok.tk
    exact h _ _ _ _ trivial g.le S8
 ·skip
  refine bq (rQ H R' ce hd S) fun ds' e hn=>?_
  cases e
  exact plain (ew (gD ce nofun) _ _) hn
 ·exact plain (ew (gD ce nofun) _ _) (zA H R' ce hd S)
theorem qZ(F:Facts P wc)(O:FnOk P wc ft)(R:Room A n){k i:Nat}{op:Operator}{e:IE}{st:Stmt}{f:Fl}(hc:ckS (k+1) ns sc (.aug i op e) st=true)(hv:evS ft (n+1) σ (.aug i op e)=some (f,σ'))(S:SR P wc sc env ns 0 b Z σ ad s):
  kM P wc sc env ns A b Z s (exec st env) f σ':=by
 refine Ha hc fun t o v q hc=>dC hc fun x p hc=>bA3 hc fun hi ho ce=>kD ho ?_
 intro Q E h
 have hi:=fJ hi
 have H:eU P wc ft n:=(cK F O n).1
 obtain⟨xd,hx,hv⟩:=frov hv
 refine ov1 hv fun y hd hv=>?_
 obtain⟨a,c,rfl,rfl,hv⟩:=He hv
 refine bq (aQ.mp hv) fun r hr hv=>?_
 have h:=ez (congrArg some hv) h
 rw[exec_AugAssign_Name]
 refine bq (S.slot (A:=A) hi) fun ov vr kk=>?_
 rw[hx]at vr
 obtain⟨u,rfl,ru⟩:=vr
 refine dh ru.int_inv fun t e22_1=>?_; subst e22_1
 refine wpAny_bind (wpAny_standAt (wpAny_bind (kk _ _ _ rfl ?_)))
 refine wpAny_bind (wpAny_holding (H R ce hd S fun w s1 Z1 g1 r1 υ=>?_))
 refine dh r1.int fun t2 e25_1=>?_; subst e25_1
 have fin:∀t3 k3,0<k3→wpAny P.M A (do standAt p; bindName env x (.int r t3); pure Flow.next) Q E {s1 with toks:=k3}:=fun t3 k3 hk=>by
  refine wpAny_bind (wpAny_standAt (wpAny_bind ?_))
  exact((S.go g1).go (Go.toks g1.ok k3 hk)).bindFro hi (bK _) (Rep.int _ _) fun s2 ad2 S2=>aD (h _ _ _ ad2 trivial g1.le S2)
 have key:wpAny P.M A (inplaceOp op (.int a t) (.int c t2)) (fun nv s3=>wpAny P.M A (do standAt p; bindName env x nv; pure Flow.next) Q E s3) E s1:=by
  cases op with
  | Add=>cases hr; exact PySem.P.iadd_int (fin s1.toks (s1.toks+1) (br _))
  | Sub=>cases hr; exact AutoIntOps.isub_0 (fin s1.toks (s1.toks+1) (br _))
  | BitXor=>cases hr; exact PyProof.Rows.ixor_int (fin s1.toks (s1.toks+1) (br _))
  | _=>cases hr
 refine wpAny_bind ?_
 refine wpAny_standAt ?_
 refine wpAny_bind ?_
 refine wpAny_operating ?_
 exact key
theorem fP(F:Facts P wc)(O:FnOk P wc ft)(R:Room A n){k i j:Nat}{e:IE}{st:Stmt}{f:Fl}(hc:ckS (k+1) ns sc (.unpack i j e) st=true)(hv:evS ft (n+1) σ (.unpack i j e)=some (f,σ'))(S:SR P wc sc env ns 0 b Z σ ad s):
  kM P wc sc env ns A b Z s (exec st env) f σ':=by
 refine xV hc fun x p y q c tp v r hc=>bA6 hc fun hi hj hij ce hb hform=>?_
 intro Q E h
 have hi:=fJ hi
 have hj:=fJ hj
 have hij:=of_decide_eq_true hij
 have hb:=kL hb
 have hform:=zY hform
 have H:eU P wc ft n:=(cK F O n).1
 refine ov1 hv fun d hd hv=>?_
 obtain⟨d1,d2,rfl,hv⟩:=uH hv
 have h:=ez hv h
 rw[arm_exec_Assign]
 have e1:swapsWithSole [.Tuple [.Name x p,.Name y q] c tp] v r.line env=pure false:=by
  rcases hform with⟨_,_,_,_,rfl⟩ | ⟨_,_,_,rfl⟩<;>rfl
 have e2:swappedStores [.Tuple [.Name x p,.Name y q] c tp] v env=pure none:=by
  rcases hform with⟨_,_,_,_,rfl⟩ | ⟨_,_,_,rfl⟩<;>rfl
 rw[e1,e2]
 refine wpAny_bind (wpAny_standAt (wpAny_bind (aD ?_)))
 rw[if_neg (by decide)]
 refine wpAny_bind (H R ce hd S fun u s1 Z1 g1 υ r1=>?_)
 refine wpAny_bind (aD ?_)
 show wpAny P.M A (do assignAll u [assign (.Tuple [.Name x p,.Name y q] c tp) env]; pure .next) Q E s1
 refine wpAny_bind ?_
 refine(?_:wpAny P.M A (assign (.Tuple [.Name x p,.Name y q] c tp) env u) _ E s1)
 have ck:mV ns (.two i j) (.Tuple [.Name x p,.Name y q] c tp)=true:=by
  refine(?_:(nmIs ns i x&&nmIs ns j y)=true)
  unfold nmIs; rw[hi,hj]; simp
 exact(S.go g1).tg R.hd ck (t:= .two i j) (d:= .tuple [d1,d2]) rfl (fun υ υ=>bK _) (r1 hb) fun s2 ad2 S2=>aD (h _ _ _ ad2 trivial g1.le S2)
end
section
variable {P:Pm}{wc:Addr}{sc:Scope}{env:Env}{ns:Nms}{b:Bs}{Z Z' Z1:Heap}{σ σ':St}{ad:Nat→Addr}{s s':Shared}{A:Around}{ft:FT}{n:Nat}
theorem mi{v:Value}{d:D}:∀{is:List Nat} {ts:List Expr} {σ:St} {ad:Nat→Addr} {s:Shared},gO (fun k t=>fi (fun x υ=>nmIs ns k x) t) is ts=true→SR P wc sc env ns 0 b Z σ ad s→Rep Z v d→
  ∀{Q:Unit→Shared→Prop} {E},(∀s' ad',SR P wc sc env ns 0 b Z (mj σ d is) ad' s'→Q () s')→wpAny P.M A (assignAll v ((assignEach ts env).map (·.2))) Q E s
  :=by
 intro is
 induction is with
 | nil=>
  intro ts σ ad s hc S r Q E h
  cases ts with
  | nil=>exact aD (h s ad S)
  | cons _ _=>exact kno hc
 | cons i is ih0=>
  intro ts σ ad s hc S r Q E h
  cases ts with
  | nil=>exact kno hc
  | cons t ts=>
   refine bA2 hc fun h1 h2=>?_
   refine dC h1 fun x p h1=>?_
   have one:wpAny P.M A (assign (.Name x p) env v) (fun υ s1=>∃ad1,SR P wc sc env ns 0 b Z (σ.set i (.fro d)) ad1 s1) E s:=
    (wpAny_bind (wpAny_standAt (S.bindFro (fJ h1) (bK _) r fun s1 ad1 S1=>⟨ad1,S1⟩)):wpAny P.M A (do standAt p; bindName env x v) _ E s)
   refine(?_:wpAny P.M A (assignAll v (assign (.Name x p) env::(assignEach ts env).map (·.2))) Q E s)
   cases ts with
   | nil=>
    cases is with
    | nil=>exact wpAny_mono one (fun υ s1 υ1q2=>by obtain⟨ad1,S1⟩:=υ1q2; exact h s1 ad1 S1) fun υ υ e=>e
    | cons _ _=>exact kno h2
   | cons t2 ts2=>
    have ih:∀{σ ad s},SR P wc sc env ns 0 b Z σ ad s→∀{Q:Unit→Shared→Prop},(∀s' ad',SR P wc sc env ns 0 b Z (mj σ d is) ad' s'→Q () s')→wpAny P.M A (assignAll v ((assignEach (t2::ts2) env).map (·.2))) Q E s:=fun S' υ h'=>ih0 h2 S' r h'
    obtain⟨g,gs,e2⟩:∃g gs,(assignEach (t2::ts2) env).map (·.2)=g::gs:=by
     cases t2<;>exact⟨_,_,rfl⟩
    rw[e2]at ih⊢
    exact wpAny_bind (wpAny_holding (wpAny_mono one (fun υ s1 υ2q2=>by obtain⟨ad1,S1⟩:=υ2q2; exact ih S1 h) fun υ υ e=>e))
theorem yA{α:Type}{l:List α}(h:2≤l.length):∃a b r,l=a::b::r:=by
 rcases l with _ | ⟨a,_ | ⟨b,r⟩⟩
 ·exact absurd h (show ¬2≤0 by decide)
 ·exact absurd h (show ¬2≤1 by decide)
 ·exact⟨a,b,r,rfl⟩
theorem qj{t1 t2:Expr}{r:List Expr}{c:Const}{a:Nat}{p:Pos}:swappedStores (t1::t2::r) (.Constant c a p) env=pure none:=by
 cases t1<;>rfl
theorem tQ{k:Nat}{e:IE}{c:Const}{a:Nat}{p:Pos}(h:ckE k ns sc e (.Constant c a p)=true):isBor e=false:=by
 cases k with
 | zero=>exact kno h
 | succ k=>cases e<;>first | rfl | exact kno h
theorem jU(F:Facts P wc)(O:FnOk P wc ft)(R:Room A n){k:Nat}{is:List Nat}{e:IE}{st:Stmt}{f:Fl}(hc:ckS (k+1) ns sc (.assigns is e) st=true)(hv:evS ft (n+1) σ (.assigns is e)=some (f,σ'))(S:SR P wc sc env ns 0 b Z σ ad s):
  kM P wc sc env ns A b Z s (exec st env) f σ':=by
 refine sE hc fun ts v q hc=>bA4 hc fun ha ce hlen hv'=>?_
 obtain⟨c,a,p,rfl⟩:∃c a p,v= .Constant c a p:=kConst' hv' fun υ υ υ υ=>Hf _ _ _ rfl
 intro Q E h
 have hlen:=of_decide_eq_true hlen
 have H:eU P wc ft n:=(cK F O n).1
 skip
 refine bq (aQ.mp hv) fun d hd hv=>?_
 have h:=ez (congrArg some hv) h
 obtain⟨t1,t2,tr,rfl⟩:=yA (iu ha▸hlen)
 rw[arm_exec_Assign,show swapsWithSole (t1::t2::tr) (.Constant c a p) q.line env=pure false from rfl,qj]
 refine wpAny_bind (wpAny_standAt (wpAny_bind (aD ?_)))
 rw[if_neg (by decide)]
 have hb:=tQ ce
 refine wpAny_bind (H R ce hd S fun u s1 Z1 g1 υ r1=>?_)
 refine wpAny_bind (aD ?_)
 show wpAny P.M A (do assignAll u ((assignEach (t1::t2::tr) env).map (·.2)); pure .next) Q E s1
 exact wpAny_bind (mi ha (S.go g1) (r1 hb) fun s2 ad2 S2=>aD (h _ _ _ ad2 trivial g1.le S2))
theorem any2{α:Type}{F:α→Bool}{a b:α}(h1:F a=false)(h2:F b=false):¬[a,b].any F=true:=by
 show ¬(F a||(F b||false))=true
 rw[h1,h2]; decide
theorem FH{F:Expr→Bool}{a b:Expr}(h:(F a&&F b)=false):¬[a,b].all F=true:=by
 show ¬(F a&&(F b&&true))=true
 rw[Bool.and_true,h]; decide
theorem fm2{α β:Type}{F:α→Option β}{a b:α}{x y:β}(h1:F a=some x)(h2:F b=some y):[a,b].filterMap F=[x,y]:=by
 rw[List.filterMap_cons_some h1,List.filterMap_cons_some h2]; rfl
theorem uK{x y:Str}{p q tp vp:Pos}{c1 c2:Nat}{v w:Expr}(hk:env.blockKind= .function)(kx:env.kindOf x=some .local)(ky:env.kindOf y=some .local)(hline:p.line=q.line)(hfo:(foldedForSure 8 v&&foldedForSure 8 w)=false)(hco:(constantsAlone 8 v&&constantsAlone 8 w)=false)
  (hxy:(x !=y)=true) (sv:fY v=true) (sw:fY w=true):swappedStores [.Tuple [.Name x p,.Name y q] c1 tp] (.Tuple [v,w] c2 vp) env=pure (some [x,y]):=by
 refine aj (if_neg (by rw[hk]; exact Bool.noConfusion)) ?_
 refine aj (if_neg (any2 ?_ ?_)) ?_
 ·cases v<;>first | rfl | exact kno sv
 ·cases w<;>first | rfl | exact kno sw
 dsimp only
 rw[fm2 (a:=Expr.Name x p) (b:=Expr.Name y q) (x:=x) (y:=y) ?_ ?_]
 rotate_left
 ·exact if_pos (by rw[kx]; exact beq_self_eq_true p.line)
 ·exact if_pos (by rw[ky]; exact(beq_iff_eq.mpr hline.symm))
 refine aj (if_neg ?_) (aj (if_neg (FH hfo)) (if_neg (FH hco)))
 rw[List.eraseDups_cons,dA,if_pos (show(!y==x)=true from bne_comm.trans hxy),List.eraseDups_cons]
 exact Bool.noConfusion
theorem iG(F:Facts P wc)(O:FnOk P wc ft)(R:Room A n){k i j:Nat}{a c:IE}{st:Stmt}{f:Fl}(hc:ckS (k+1) ns sc (.unpackT i j a c) st=true)(hv:evS ft (n+1) σ (.unpackT i j a c)=some (f,σ'))(S:SR P wc sc env ns 0 b Z σ ad s):
  kM P wc sc env ns A b Z s (exec st env) f σ':=by
 refine xV hc fun x p y q c1 tp v0 r hc=>sx hc fun vs c2 vp hc=>k2' hc fun v w hc=>bA13 hc fun hi hj hij ca cb hba hbb hline hfo hco hx hy hxy=>?_
 intro Q E h
 have hi:=fJ hi
 have hj:=fJ hj
 have hij:=of_decide_eq_true hij
 have hba:=kL hba
 have hbb:=kL hbb
 have hline:=of_decide_eq_true hline
 have hfo:=kL hfo
 have hco:=kL hco
 have hx:=beq_iff_eq.mp hx
 have hy:=beq_iff_eq.mp hy
 have H:eU P wc ft n:=(cK F O n).1
 skip
 refine bq (ao.mp hv) fun dx hd1 hv=>?_
 refine bq (aQ.mp hv) fun dy hd2 hv=>?_
 have h:=ez (congrArg some hv) h
 have sv:=fE ca
 have sw:=fE cb
 have e2:=uK (c1:=c1) (tp:=tp) (c2:=c2) (vp:=vp) (show env.blockKind= .function by unfold Env.blockKind; rw[S.kind]; rfl) (S.lc x hx) (S.lc y hy) hline hfo hco hxy sv sw
 refine PyProof.Rows.Assign_Tuple_swapped (names:=[x,y]) ?_ rfl e2
 refine wpAny_Tuple_spliced ?_
 have hst:∀e∈[v,w],fY e=true:=List.forall_mem_cons.mpr ⟨sv,fun e he=>by rw[ay.mp he]; exact sw⟩
 rw[bF hst,args_two]
 refine(?_:wpAny P.M A (spliced [(false,eval v env),(false,eval w env)]) _ E s)
 refine spliced_cons (H R ca hd1 S fun u1 s1 Z1 g1 υ r1=>spliced_cons (H R cb hd2 (S.go g1) fun u2 s2 Z2 g2 υ r2=>spliced_nil ⟨by show 2≤sizeLine; decide,?_⟩))
 have g3:=Go.push' g2.ok {cls:= .type "tuple",data:= .seq [u1,u2].toArray}
 have ht:(s2.heap.push {cls:= .type "tuple",data:= .seq [u1,u2].toArray}).IsTuple s2.heap.objs.size #[u1,u2]:=⟨_,aJ _ rfl,rfl,_,rfl⟩
 refine(?_:wpAny P.M A (unpackItems (.ref s2.heap.objs.size) (#[u1,u2]:Array Value).size none) _ E _)
 refine wpAny_unpackItems_tuple R.hd ht fun h' he=>?_
 have g4:Go P Z2 _ Z2 {s2 with heap:=h'}:=Go.of_le (s':={s2 with heap:=h'}) g3.ok (fun c o e=>he c o (fun q=>by rw[q,get?_size]at e; cases e) e) g3.ok.tk
 have gl:=(g1.trans g2).trans (g3.trans g4)
 have S4:=S.go gl
 refine(?_:wpAny P.M A (assignInOrder [bindName env y,bindName env x] [u2,u1]) _ E _)
 refine wpAny_assignInOrder_more (S4.bindFro hj (bK _) (r2 hbb) fun s5 ad5 S5=>?_)
 refine wpAny_assignInOrder_more (S5.bindFro hi (bK _) ((r1 hba).le g2.le) fun s6 ad6 S6=>?_)
 refine wpAny_assignInOrder_none (h _ _ _ ad6 trivial gl.le ?_)
 rw[List.set_comm _ _ hij]
 exact S6
end
section inversion
variable {ns:Nms}{sc:Scope}{k:Nat}{st:Stmt}
theorem Ba(h:ckS (k+1) ns sc .brk st=true):∃q,st= .Break q:=
 G8 h fun υ υ=>⟨_,rfl⟩
theorem A9(h:ckS (k+1) ns sc .pas st=true):∃q,st= .Pass q:=
 G3 h fun υ υ=>⟨_,rfl⟩
end inversion
section
variable {P:Pm}{wc:Addr}{sc:Scope}{env:Env}{ns:Nms}{b:Bs}{Z Z' Z1:Heap}{σ σ':St}{ad:Nat→Addr}{s s':Shared}{A:Around}{ft:FT}{n:Nat}
theorem SR.mutAt(S:SR P wc sc env ns 0 b Z σ ad s){i:Nat}{x:Str}(hi:ns[i]? =some (some x)){ds:List D}(hw:σ[i]? =some (.mut ds)):∃vs,s.heap.PlainList (ad i) vs∧RepAll Z vs.toList ds:=by
 refine bq (S.slot (A:={}) hi) fun ov r υ=>?_
 rw[hw]at r
 obtain⟨vs,υ,l,r,υ⟩:=r
 exact gX vs l r
theorem jJ{T:Str}{id:String}{x:Str}{p apos pos:Pos}{a:Expr}(S:SR P wc sc env ns 0 b Z σ ad s){i:Nat}(hi:ns[i]? =some (some x)){ds:List D}(hw:σ[i]? =some (.mut ds))(hs:Slot "list" T id)(ht:typeOf (.builtin id)=pure (.type "method_descriptor"))
  (hline:(apos.endLine==pos.line)=true) (ha:fY a=true) {Q:Value→Shared→Prop} {E:Value→Shared→Prop} (h:wpAny P.M A (eval a env) (fun v s1=>wpAny P.M A (call (.builtin id) [.ref (ad i),v]) Q E s1) E s):
  wpAny P.M A (eval (.Call (.Attribute (.Name x p) T apos) [a] [] pos) env) Q E s:=by
 have hst:∀e∈[a],fY e=true:=fun e he=>by rw[ay.mp he]; exact ha
 refine wpAny_Call_method_lateS rfl (by rw[bF hst]; rfl) hline (S.readM hi hw fun vs l r υ υ=>?_)
 refine Ad ("list") id PySem.F.plainAttrs_list hs ht l.isList.typeIs (fun b q=>by cases q; obtain⟨c,e⟩:=l; exact⟨_,e,rfl⟩) ?_
 rw[bF hst,args_two]
 refine cZ (first:=[.ref (ad i)]) ?_
 refine(?_:wpAny P.M A (spliced [(false,eval a env)]) _ E s)
 exact spliced_cons (wpAny_mono h (fun v s1 h1=>spliced_nil h1) fun υ υ e=>e)
theorem jK{e:Expr}{q:Pos}(S:SR P wc sc env ns 0 b Z σ ad s)(hn:ja e=true){Q:Flow→Shared→Prop}{E:Value→Shared→Prop}(h:wpAny P.M A (eval e env) (fun v s'=>v= .none∧Q .next s') E s):wpAny P.M A (exec (.Expr e q) env) Q E s:=by
 refine wpAny_Expr (wpAny_mono h (fun v s' hv=>?_) fun υ υ e=>e) ?_ (ew hn _ _)
 ·obtain⟨rfl,hq⟩:=hv; exact hq
 ·unfold interactive; rw[S.kind]; rfl
theorem DO{k:Nat}(h:k≤few):k≤2097152:=by rw[few_eq]at h; exact JD h
theorem gI(F:Facts P wc)(O:FnOk P wc ft)(R:Room A n){k i:Nat}{e:IE}{st:Stmt}{f:Fl}(hc:ckS (k+1) ns sc (.append i e) st=true)(hv:evS ft (n+1) σ (.append i e)=some (f,σ'))(S:SR P wc sc env ns 0 b Z σ ad s):
  kM P wc sc env ns A b Z s (exec st env) f σ':=by
 refine oZ hc fun x p g apos xs pos q hc=>k1' hc fun a hc=>bA5 hc fun hi hg ce hb hline=>kB' hg ?_
 intro Q E h
 have hi:=fJ hi
 have hb:=kL hb
 have H:eU P wc ft n:=(cK F O n).1
 obtain⟨ds,hw,hv⟩:=jX hv
 refine bq (ao.mp hv) fun d hd hv=>?_
 obtain⟨hz,hv⟩:=oif hv
 have h:=ez (congrArg some hv) h
 refine jK S rfl (jJ S hi hw PySem.F.slot_list_append PySem.F.type_list_append hline (fE ce) (H R ce hd S fun v s1 Z1 g1 υ r1=>?_))
 have S1:=S.go g1
 refine bq (S1.mutAt hi hw) fun vs l r=>?_
 refine wpAny_list_append_plain l (fun h' hl' hs=>?_) (by rw[dk r]; have:=DO (bz hz); rw[sizeLine_eq]; exact E0 this)
 refine⟨rfl,h _ _ _ ad trivial g1.le (S1.change hi hw (tk:=s1.toks) S1.ok.tk hs hl' ?_)⟩
 have:=r.append (RepAll.cons (r1 hb) RepAll.nil)
 simpa using this
theorem jH(F:Facts P wc)(O:FnOk P wc ft)(R:Room A n){k i:Nat}{e:IE}{st:Stmt}{f:Fl}(hc:ckS (k+1) ns sc (.extend i e) st=true)(hv:evS ft (n+1) σ (.extend i e)=some (f,σ'))(S:SR P wc sc env ns 0 b Z σ ad s):
  kM P wc sc env ns A b Z s (exec st env) f σ':=by
 refine oZ hc fun x p g apos xs pos q hc=>k1' hc fun a hc=>bA4 hc fun hi hg ce hline=>kB' hg ?_
 intro Q E h
 have hi:=fJ hi
 have H:eU P wc ft n:=(cK F O n).1
 obtain⟨ds,hw,hv⟩:=jX hv
 refine bq (ao.mp hv) fun d hd hv=>?_
 obtain⟨es,rfl,hv⟩:=Di hv
 obtain⟨hz,hv⟩:=oif hv
 have h:=ez (congrArg some hv) h
 refine jK S rfl (jJ S hi hw PySem.F.slot_list_extend PySem.F.type_list_extend hline (fE ce) (H R ce hd S fun v s1 Z1 g1 r1 υ=>?_))
 have S1:=S.go g1
 refine bq (S1.mutAt hi hw) fun vs l r=>?_
 refine gw (r1.list g1.ok) fun a2 us e9_1 l2 r2=>?_; subst e9_1
 refine mI l l2 (by rw[dk r,dk r2]; exact DO hz) fun h' hl' hs=>?_
 refine⟨rfl,h _ _ _ ad trivial g1.le (S1.change hi hw (tk:=s1.toks) S1.ok.tk hs hl' ?_)⟩
 simpa using r.append r2
theorem jT{k i:Nat}{st:Stmt}{f:Fl}(hc:ckS (k+1) ns sc (.reverse i) st=true)(hv:evS ft (n+1) σ (.reverse i)=some (f,σ'))(S:SR P wc sc env ns 0 b Z σ ad s):
  kM P wc sc env ns A b Z s (exec st env) f σ':=by
 refine oZ hc fun x p g apos xs pos q hc=>k0' hc fun hc=>bA3 hc fun hi hg hline=>kB' hg ?_
 intro Q E h
 have hi:=fJ hi
 obtain⟨ds,hw,hv⟩:=jX hv
 obtain⟨hz,hv⟩:=oif hv
 have h:=ez (congrArg some hv) h
 refine jK S rfl (wpAny_Call_method_lateS rfl rfl hline (S.readM hi hw fun vs l r υ υ=>?_))
 refine Ad ("list") ("list.reverse") PySem.F.plainAttrs_list PySem.F.slot_list_reverse PySem.F.type_list_reverse l.isList.typeIs (fun b q=>by cases q; obtain⟨c,e⟩:=l; exact⟨_,e,rfl⟩) ?_
 refine(?_:wpAny P.M A (callWith pos (.builtin "list.reverse") [.ref (ad i)] (([]:List (Sem Value)).map fun t=>(false,t)) []) _ E s)
 refine cZ (first:=[.ref (ad i)]) (spliced_nil ?_)
 refine lD l (by rw[dk r]; exact DO hz) fun h' hl' hs=>?_
 refine⟨rfl,h _ _ _ ad trivial (.refl _) (S.change hi hw (tk:=s.toks) S.ok.tk hs hl' ?_)⟩
 simpa using r.reverse
theorem gQ(F:Facts P wc)(O:FnOk P wc ft)(R:Room A n){k:Nat}{e:IE}{st:Stmt}{f:Fl}(hc:ckS (k+1) ns sc (.ret e) st=true)(hv:evS ft (n+1) σ (.ret e)=some (f,σ'))(S:SR P wc sc env ns 0 b Z σ ad s):
  kM P wc sc env ns A b Z s (exec st env) f σ':=by
 refine G2 hc fun v q hc=>kOn' hc fun v hc=>bA2 hc fun ce hb=>?_
 intro Q E h
 have hb:=kL hb
 have H:eU P wc ft n:=(cK F O n).1
 skip
 refine bq (aQ.mp hv) fun d hd hv=>?_
 have h:=ez (congrArg some hv) h
 rw[exec_Return_some]
 exact wpAny_bind (wpAny_standAt (wpAny_bind (H R ce hd S fun v s1 Z1 g1 υ r1=>aD (h (.ret v) _ _ ad (r1 hb) g1.le (S.go g1)))))
theorem lB(F:Facts P wc)(O:FnOk P wc ft)(R:Room A n){k:Nat}{e:IE}{st:Stmt}{f:Fl}(hc:ckS (k+1) ns sc (.assert e) st=true)(hv:evS ft (n+1) σ (.assert e)=some (f,σ'))(S:SR P wc sc env ns 0 b Z σ ad s):
  kM P wc sc env ns A b Z s (exec st env) f σ':=by
 refine Hb hc fun x m q ce=>?_
 intro Q E h
 have HT:jN P wc ft n:=(cK F O n).2
 skip
 refine bq (ao.mp hv) fun t ht hv=>?_
 cases t with
 | false=>simp at hv
 | true=>
  simp only[if_true]at hv
  have h:=ez hv h
  exact wpAny_Assert_holds (HT R ce ht S fun s1 Z1 g1=>⟨rfl,h _ _ _ ad trivial g1.le (S.go g1)⟩)
theorem D7{a:Addr}{vs:Array Value}{ds:List D}{m:Int}{t:Tok}(l:s.heap.PlainList a vs)(r:RepAll Z vs.toList ds)(hz:ds.length≤few)(h0:0≤m)(hm:m<ds.length){Q:Unit→Shared→Prop}{E:Value→Shared→Prop}
  (h:∀h' us,h'.PlainList a us→Heap.SameBut a s.heap h'→RepAll Z us.toList (ds.eraseIdx m.toNat)→Q () {s with heap:=h'}):wpAny P.M A (delItem (.ref a) (.int m t)) Q E s:=by
 have hs:=dk r
 have hm2:m.toNat<vs.size:=by exact JC hs h0 hm
 have hf:(few:Nat)=1048576:=rfl
 refine wpAny_delItem_plain l (k:=m.toNat) (by have k63:(2:Int)^63=9223372036854775808:=(by decide); simp[Builtin.List.listFitsIndex]; exact JB hf hs hm2 h0 hz) ?_ (fun h' hl' hsb=>h h' _ hl' hsb ?_) (by rw[hs,sizeLine_eq]; exact EW hf hz)
 ·unfold seqIndex?
  rw[if_neg (Int.not_lt.mpr h0),if_pos (by simp; exact Nn hm2 h0)]
 ·rw[Array.eraseIdxIfInBounds,dif_pos hm2,Array.toList_eraseIdx]
  exact r.eraseIdx m.toNat
theorem wO{a:Addr}{vs:Array Value}{ds:List D}{t:Tok}(l:s.heap.PlainList a vs)(r:RepAll Z vs.toList ds)(hz:ds.length≤few)(h0:0<ds.length){Q:Unit→Shared→Prop}{E:Value→Shared→Prop}
  (h:∀h' us,h'.PlainList a us→Heap.SameBut a s.heap h'→RepAll Z us.toList ds.dropLast→Q () {s with heap:=h'}):wpAny P.M A (delItem (.ref a) (.int (-1) t)) Q E s:=by
 have hs:=dk r
 have hf:(few:Nat)=1048576:=rfl
 refine wpAny_delItem_plain l (k:=vs.size-1) (by simp[Builtin.List.listFitsIndex]) ?_ (fun h' hl' hsb=>h h' _ hl' hsb ?_) (by rw[hs,sizeLine_eq]; exact EW hf hz)
 ·unfold seqIndex?
  rw[if_pos (show(-1:Int)<0 by decide),if_pos (by simp; exact JA h0 hs)]
  congr 1; exact Jz
 ·rw[Array.eraseIdxIfInBounds,dif_pos (by exact Jy h0 hs),Array.toList_eraseIdx]
  have e1:vs.toList.eraseIdx (vs.size-1)=vs.toList.dropLast:=by
   rw[List.dropLast_eq_take,List.eraseIdx_eq_take_drop_succ]
   have:vs.size-1+1=vs.toList.length:=by simp; exact Jx h0 hs
   rw[this,List.drop_length,List.append_nil]; simp
  rw[e1]
  exact r.dropLast
theorem uT(F:Facts P wc)(O:FnOk P wc ft)(R:Room A n){k i:Nat}{e:IE}{st:Stmt}{f:Fl}(hc:ckS (k+1) ns sc (.delidx i e) st=true)(hv:evS ft (n+1) σ (.delidx i e)=some (f,σ'))(S:SR P wc sc env ns 0 b Z σ ad s):
  kM P wc sc env ns A b Z s (exec st env) f σ':=by
 refine G7 hc fun ts q hc=>k1' hc fun t hc=>sy hc fun o j sp hc=>dC hc fun x p hc=>bA2 hc fun hi ce=>?_
 intro Q E h
 have hi:=fJ hi
 have H:eU P wc ft n:=(cK F O n).1
 obtain⟨ds,hw,hv⟩:=jX hv
 refine bq (ao.mp hv) fun y hd hv=>?_
 obtain⟨m,rfl,hv⟩:=Hc hv
 obtain⟨hz,hv⟩:=GN hv
 refine wpAny_Delete (wpAny_deleteEach_cons (wpAny_delete_Subscript (S.readM hi hw fun υ υ υ υ υ=>H R ce hd S fun v s1 Z1 g1 r1 υ=>?_)))
 refine dh r1.int fun t e79_1=>?_; subst e79_1
 have S1:=S.go g1
 refine bq (S1.mutAt hi hw) fun vs l r=>?_
 rcases oite hv with⟨hm,hv⟩ | hv
 ·have h:=ez hv h
  exact D7 l r hz hm.1 hm.2 fun h' us hl' hsb r'=>wpAny_deleteEach_nil (h _ _ _ ad trivial g1.le (S1.change hi hw (tk:=s1.toks) S1.ok.tk hsb hl' r'))
 ·obtain⟨hm,hv⟩:=oif hv
  have h:=ez (congrArg some hv) h
  refine fu hm fun e95_1 h0=>?_; subst e95_1
  exact wO l r hz h0 fun h' us hl' hsb r'=>wpAny_deleteEach_nil (h _ _ _ ad trivial g1.le (S1.change hi hw (tk:=s1.toks) S1.ok.tk hsb hl' r'))
theorem lA(F:Facts P wc)(O:FnOk P wc ft)(R:Room A n){k i:Nat}{ki e:IE}{st:Stmt}{f:Fl}(hc:ckS (k+1) ns sc (.setidx i ki e) st=true)(hv:evS ft (n+1) σ (.setidx i ki e)=some (f,σ'))(S:SR P wc sc env ns 0 b Z σ ad s):
  kM P wc sc env ns A b Z s (exec st env) f σ':=by
 refine sE hc fun ts v q hc=>k1' hc fun t hc=>sy hc fun o j sp hc=>dC hc fun x p hc=>bA5 hc fun hi cj cv hb hv'=>?_
 obtain⟨l,o,r,bp,rfl⟩:∃l o r bp,v= .BinOp l o r bp:=vP hv' fun υ υ υ υ υ=>Dz _ _ _ _ rfl
 intro Q E h
 have hi:=fJ hi
 have hb:=kL hb
 have H:eU P wc ft n:=(cK F O n).1
 have k63:(2:Int)^63=9223372036854775808:=by decide
 have hfew:(few:Nat)=1048576:=rfl
 skip
 refine bq (ao.mp hv) fun d hd hv=>?_
 obtain⟨ds,hw,hv⟩:=jX hv
 refine bq (ao.mp hv) fun y hk hv=>?_
 obtain⟨m,rfl,hv⟩:=Hc hv
 obtain⟨hm,hv⟩:=oif hv
 have h:=ez (congrArg some hv) h
 refine wpAny_Assign_Subscript (H R cv hd S fun u s1 Z1 g1 υ r1=>?_)
 have S1:=S.go g1
 refine S1.readM hi hw fun υ υ υ υ υ=>H R cj hk S1 fun w s2 Z2 g2 r2 υ=>?_
 refine dh r2.int fun t e35_1=>?_; subst e35_1
 have S2:=S1.go g2
 refine bq (S2.mutAt hi hw) fun vs l2 rr=>?_
 have hs:=dk rr
 refine iF l2 hm.1 (by exact Jw hfew hm) (by exact Jv hs hm) fun h' hl' hsb=>?_
 refine h _ _ _ ad trivial (g1.le.trans g2.le) (S2.change hi hw (tk:=s2.toks) S2.ok.tk hsb hl' ?_)
 have:=rr.set m.toNat ((r1 hb).le g2.le)
 simpa using this
theorem ik(F:Facts P wc)(O:FnOk P wc ft)(R:Room A n){k i l:Nat}{e:IE}{st:Stmt}{f:Fl}(hc:ckS (k+1) ns sc (.appendPop i l e) st=true)(hv:evS ft (n+1) σ (.appendPop i l e)=some (f,σ'))(S:SR P wc sc env ns 0 b Z σ ad s):
  kM P wc sc env ns A b Z s (exec st env) f σ':=by
 refine oZ hc fun x p g apos xs pos q hc=>k1' hc fun u hc=>kCall' hc fun u js kw pos2 hc=>gB hc fun o g2 apos2 hc=>dC hc fun y p2 hc=>k1' hc fun j hc=>k0' hc fun hc=>bA7 hc fun hi hl hg hg2 ce hline hline2=>kB' hg (kB' hg2 ?_)
 intro Q E h
 have hi:=fJ hi
 have hl:=fJ hl
 have H:eU P wc ft n:=(cK F O n).1
 have hfew:(few:Nat)=1048576:=rfl
 obtain⟨ds,es,hw1,hw2,hv⟩:=GQ hv
 refine bq (ao.mp hv) fun z hd hv=>?_
 obtain⟨m,rfl,hv⟩:=Hc hv
 obtain⟨hm,hv⟩:=GN hv
 refine bq (aQ.mp hv) fun d hdm hv=>?_
 have h:=ez (congrArg some hv) h
 refine jK S rfl (jJ S hi hw1 PySem.F.slot_list_append PySem.F.type_list_append hline rfl ?_)
 refine jJ S hl hw2 PySem.F.slot_list_pop PySem.F.type_list_pop hline2 (fE ce) (H R ce hd S fun v s1 Z1 g1 r1 υ=>?_)
 refine dh r1.int fun t e66_1=>?_; subst e66_1
 have S1:=S.go g1
 refine bq (S1.mutAt hl hw2) fun us l2 r2=>?_
 have hs2:=dk r2
 refine bq (r2.get _ hdm) fun u hu ru=>?_
 rw[bV]at hu
 have hlt:m.toNat<us.size:=by exact Ju hs2 hm
 refine ri l2 (by rw[hs2]; exact DO hm.2.2.1) hm.1 hlt hu fun h' hl' hsb=>?_
 have S2:=S1.change hl hw2 (tk:=s1.toks) (es:=es.eraseIdx m.toNat) S1.ok.tk hsb hl' (by
  rw[Array.eraseIdxIfInBounds,dif_pos hlt,Array.toList_eraseIdx]; exact r2.eraseIdx _)
 have hw1':(σ.set l (Var.mut (es.eraseIdx m.toNat)))[i]? =some (.mut ds):=by
  rw[List.getElem?_set_ne (Ne.symm hm.2.2.2.2)]; exact hw1
 refine bq (S2.mutAt hi hw1') fun vs l1 rr=>?_
 refine wpAny_list_append_plain l1 (fun h2 hl2 hsb2=>?_) (by rw[dk rr]; have:=DO (bz hm.2.2.2.1); rw[sizeLine_eq]; exact E0 this)
 refine⟨rfl,h _ _ _ ad trivial g1.le (S2.change hi hw1' (tk:=s1.toks) S1.ok.tk hsb2 hl2 ?_)⟩
 have:=rr.append (RepAll.cons ru RepAll.nil)
 simpa using this
end
structure MkOk(P:Pm)(wc:Addr)(ft:FT):Prop where
 cw:∀{A:Around} {s:Shared} {pos:Pos} {ts:List (Sem Value)} {Q:Value→Shared→Prop} {E:Value→Shared→Prop},Le P.g0 s.heap→
  wpAny P.M A (spliced (ts.map fun t=>(false,t))) (fun vs s1=>Le P.g0 s1.heap∧wpAny P.M A (call (.ref wc) vs) Q E s1) E s→wpAny P.M A (callWith pos (.ref wc) [] (ts.map fun t=>(false,t)) []) Q E s
 made:∀c F,ft 20=some (c,F)→0<c∧∀{A:Around} {Z:Heap} {s:Shared} {v:Value} {d a1 a2 a3 a4 a5:D},Room A c→Ok P Z s→Rep Z v d→F [d]=some (.tuple [a1,a2,a3,a4,a5])→∀{Q:Value→Shared→Prop} {E:Value→Shared→Prop},
  (∀y dx s' Z',Go P Z s Z' s'→jA wc Z' Z' y dx [("raw",a1),("n",a2),("nt",a3),("norm",a4),("is_simple",a5)]→Q (.ref y) s')→wpAny P.M A (call (.ref wc) [v]) Q E s
 set:∀{A:Around} {Z:Heap} {s:Shared} {x dx:Addr} {fs:List (String×D)} {nm:String} {v:Value} {d:D} {Q:Unit→Shared→Prop} {E:Value→Shared→Prop} {n:Nat},Room A n→Le P.g0 s.heap→jA wc Z s.heap x dx fs→fs.lookup nm=none→nm∈wNames→Rep Z v d→
  (∀h' k,Heap.SameBut dx s.heap h'→jA wc Z h' x dx (fs++[(nm,d)])→Q () {s with heap:=h',toks:=k})→wpAny P.M A (setAttr (.ref x) (aa nm) v) Q E s
noncomputable def F5(P:Pm)(wc:Addr)(ft:FT)(n:Nat):Prop:=
 ∀{A:Around} {env:Env} {ns:Nms} {sc:Scope} {b:Bs} {σ:St} {ad:Nat→Addr} {Z:Heap} {s:Shared} {k:Nat} {is:IS} {st:Stmt} {f:Fl} {σ':St},Room A n→qu ns→ckS k ns sc is st=true→evS ft n σ is=some (f,σ')→SR P wc sc env ns 0 b Z σ ad s→kM P wc sc env ns A b Z s (exec st env) f σ'
noncomputable def mS(P:Pm)(wc:Addr)(ft:FT)(n:Nat):Prop:=
 ∀{A:Around} {env:Env} {ns:Nms} {sc:Scope} {b:Bs} {σ:St} {ad:Nat→Addr} {Z:Heap} {s:Shared} {k:Nat} {is:List IS} {st:List Stmt} {f:Fl} {σ':St},Room A n→qu ns→iw ns sc (ckS k ns sc) is st=true→dU ft n σ is=some (f,σ')→SR P wc sc env ns 0 b Z σ ad s→kM P wc sc env ns A b Z s (execs st env) f σ'
section
variable {P:Pm}{wc:Addr}{sc:Scope}{env:Env}{ns:Nms}{b:Bs}{Z Z' Z1:Heap}{σ σ':St}{ad:Nat→Addr}{s s':Shared}{A:Around}{ft:FT}{n:Nat}
theorem flr_next{fl:Flow}(h:FlR Z .next fl):fl= .next:=by
 cases fl with
 | next=>rfl
 | _=>exact h.elim
theorem flr_brk{fl:Flow}(h:FlR Z .brk fl):fl= .brk:=by
 cases fl with
 | brk=>rfl
 | _=>exact h.elim
theorem nT{fl:Flow}{d:D}(h:FlR Z (.ret d) fl):∃v,fl= .ret v:=by
 cases fl with
 | ret v=>exact⟨v,rfl⟩
 | _=>exact h.elim
theorem s_if(F:Facts P wc)(O:FnOk P wc ft)(Hs:mS P wc ft n)(R:Room A n)(hf:qu ns){k:Nat}{c:IE}{t e:List IS}{st:Stmt}{f:Fl}(hc:ckS (k+1) ns sc (.ife c t e) st=true)(hv:evS ft (n+1) σ (.ife c t e)=some (f,σ'))(S:SR P wc sc env ns 0 b Z σ ad s):
  kM P wc sc env ns A b Z s (exec st env) f σ':=by
 refine G4 hc fun x bb o q hc=>bA3 hc fun cc ct ce=>?_
 intro Q E h
 have HT:jN P wc ft n:=(cK F O n).2
 skip
 refine bq (ao.mp hv) fun u hu hv=>?_
 rw[exec_If]
 refine wpAny_bind (wpAny_standAt (wpAny_bind (HT R cc hu S fun s1 Z1 g1=>?_)))
 cases u with
 | true=>exact Hs R hf ct hv (S.go g1) Q E fun fl s2 Z2 ad2 hr hl S2=>h fl s2 Z2 ad2 hr (g1.le.trans hl) S2
 | false=>exact Hs R hf ce hv (S.go g1) Q E fun fl s2 Z2 ad2 hr hl S2=>h fl s2 Z2 ad2 hr (g1.le.trans hl) S2
theorem yQ(F:Facts P wc)(O:FnOk P wc ft)(Hs:mS P wc ft n)(R:Room A n)(hf:qu ns){k m:Nat}{c:IE}{t:List IS}{st:Stmt}{f:Fl}(hc:ckS (k+1) ns sc (.whil m c t) st=true)(hv:evS ft (n+1) σ (.whil m c t)=some (f,σ'))(S:SR P wc sc env ns 0 b Z σ ad s):
  kM P wc sc env ns A b Z s (exec st env) f σ':=by
 refine zQ hc fun x bb o q hc=>k0' hc fun hc=>bA2 hc fun cc ct=>?_
 intro Q E h
 have HT:jN P wc ft n:=(cK F O n).2
 have hv:gR (fun σ=>fN ft n σ c) (fun σ=>dU ft n σ t) m σ=some (f,σ'):=hv
 refine wpAny_While (codeAny_whileLoop (fun j s1=>∃Z1 σ1 ad1,Le Z Z1∧SR P wc sc env ns 0 b Z1 σ1 ad1 s1∧gR (fun σ=>fN ft n σ c) (fun σ=>dU ft n σ t) j σ1=some (f,σ')) (fun j s1 hI=>?_) m ⟨Z,σ,ad,.refl _,S,hv⟩)
 refine pF hI fun Z1 σ1 ad1 hle S1 hw=>?_
 cases j with
 | zero=>cases hw
 | succ j=>
  refine bq (ao.mp hw) fun u hu hw=>?_
  refine HT R cc hu S1 fun s2 Z2 g2=>?_
  cases u with
  | false=>
   have h:=ez hw h
   exact wpAny_execs_nil (h .next _ _ ad1 trivial (hle.trans g2.le) (S1.go g2))
  | true=>
   refine bq (ao.mp hw) fun w57_1 hb hw=>?_; obtain⟨f2,σ2⟩:=w57_1
   refine Hs R hf ct hb (S1.go g2) _ _ fun fl s3 Z3 ad3 hr hl S3=>?_
   have hle3:=(hle.trans g2.le).trans hl
   cases f2 with
   | next=>cases flr_next hr; exact⟨j,bZ _,Z3,σ2,ad3,hle3,S3,hw⟩
   | brk=>cases flr_brk hr; exact ez hw h .next _ _ ad3 trivial hle3 S3
   | ret d=>obtain⟨v,rfl⟩:=nT hr; exact ez hw h (.ret v) _ _ ad3 hr hle3 S3
theorem Gp(F:Facts P wc)(O:FnOk P wc ft)(Hs:mS P wc ft n)(R:Room A n)(hf:qu ns){k:Nat}{t:Tg}{src:IE}{body orelse:List IS}{st:Stmt}{f:Fl}(hc:ckS (k+1) ns sc (.fore t src body orelse) st=true)
  (hv:evS ft (n+1) σ (.fore t src body orelse)=some (f,σ')) (S:SR P wc sc env ns 0 b Z σ ad s):kM P wc sc env ns A b Z s (exec st env) f σ':=by
 refine G6 hc fun tg it bb o q hc=>bA6 hc fun ctg hnd hso cs cb co=>?_
 intro Q E h
 have hnd:=of_decide_eq_true hnd
 have H:eU P wc ft n:=(cK F O n).1
 skip
 refine bq (ao.mp hv) fun items hi hv=>?_
 refine bq (ao.mp hv) fun w81_1 hgo hv=>?_; obtain⟨f1,σ1⟩:=w81_1
 refine wpAny_For (iD F H R cs hso hi S _ E fun I s1 Z1 g1 it1 hfr hz=>?_) (fC cs)
 have S1:=S.go g1
 have L1:=S.looseIt S1 it1 hfr hz
 refine codeAny_forLoop_any (fun j s2=>∃ds Z2 σ2 ad2,j=List.length ds∧Le Z Z2∧SR P wc sc env ns 0 b Z2 σ2 ad2 s2∧lp P Z2 I s2.heap ds∧Loose ns b Z2 σ2 ad2 s2.heap I∧eV t (fun σ=>dU ft n σ body) ds σ2=some (f1,σ1))
  (fun j s2 hI=>?_) items.length ⟨items,Z1,σ,ad,rfl,g1.le,S1,it1,L1,hgo⟩
 refine x4_6 hI fun ds Z2 σ2 ad2 e87_1 hle S2 it2 L2 hgo2=>?_; subst e87_1
 cases ds with
 | nil=>
  cases hgo2
  refine it2.done S2.ok R.hd fun h' tk hk htk=>?_
  have S3:=S2.looseChange L2 hk htk
  exact Hs R hf co hv S3 _ _ fun fl s4 Z4 ad4 hr hl S4=>h fl s4 Z4 ad4 hr (hle.trans hl) S4
 | cons d ds=>
  refine bq (ao.mp hgo2) fun σ3 hb3 hgo2=>?_
  refine bq (ao.mp hgo2) fun w0_1 hb4 hgo2=>?_; obtain⟨f4,σ4⟩:=w0_1
  refine it2.next S2.ok R.hd fun v h' tk rv it3 hk htk=>?_
  have S3:=S2.looseChange L2 hk htk
  refine bq it3.obj fun oI hoI pI=>?_
  have L3:Loose ns b Z2 σ2 ad2 h' I:=⟨⟨oI,hoI,pI.plainish⟩,L2.bn,L2.zn,L2.na⟩
  have hZI:b.Z0.get? I=none:=by
   cases e:b.Z0.get? I with
   | none=>rfl
   | some o=>have:=S2.zle _ _ e; rw[L2.zn]at this; cases this
  refine Gk ctg it3 ?_
  refine(S3.addBase L3 hoI).tg R.hd ctg hb3 (fun υ υ=>bK _) rv fun s4 ad4 S4=>?_
  refine Hs R hf cb hb4 S4 _ _ fun fl s5 Z5 ad5 hr hl S5=>?_
  refine lq (S3.dropBase hoI L2.bn hZI pI.plainish S5) fun S6 L6 hI6=>?_
  have hle5:=hle.trans hl
  cases f4 with
  | next=>cases flr_next hr; exact⟨ds.length,bZ _,ds,Z5,σ4,ad5,rfl,hle5,S6,it3.frame S3.ok.z S6.ok.z hl fun o e=>(by rw[hoI]at e; cases e; exact hI6),L6,hgo2⟩
  | brk=>cases flr_brk hr; cases hgo2; exact ez hv h .next _ _ ad5 trivial hle5 S6
  | ret d'=>obtain⟨v',rfl⟩:=nT hr; cases hgo2; exact ez hv h (.ret v') _ _ ad5 hr hle5 S6
theorem Au{o:Option Var}{F:List D→Fl×St}{x y:Fl×St}(h:(match o with | some (.mut ds)=>some (F ds) | _=>some x)=some y):(∃ds,o=some (.mut ds)∧F ds=y)∨x=y:=by
 rcases o with _ | (_ | _ | _ | _ | _)<;>first | exact .inl ⟨_,rfl,ax.inj h⟩ | exact .inr (ax.inj h)
theorem tW{c:IS→Stmt→Bool}{i:IS}{r:List IS}{st:List Stmt}(h:iw ns sc c (i::r) st=true)(hi:∀j,i≠ .frz j):∃st1 str,st=st1::str∧c i st1=true∧iw ns sc c r str=true:=by
 cases st with
 | nil=>cases i<;>first | exact kno h | exact absurd rfl (hi _)
 | cons a t=>cases i<;>first | exact absurd rfl (hi _) | exact bA2 h fun h1 h2=>uo a t rfl h1 h2
theorem yJ(Hst:F5 P wc ft n)(Hs:mS P wc ft n):mS P wc ft (n+1):=by
 intro A env ns sc b σ ad Z s k is st f σ' R hf hc hv S Q E h
 have R':Room A n:=R.mono (eE n)
 cases is with
 | nil=>
  have h:=ez hv h
  cases st with
  | nil=>exact wpAny_execs_nil (h .next _ _ ad trivial (.refl _) S)
  | cons _ _=>exact kno hc
 | cons i r=>
  skip
  refine bq (ao.mp hv) fun w39_1 h1 hv=>?_; obtain⟨f1,σ1⟩:=w39_1
  by_cases hfrz:∃j,i= .frz j
  ·refine dh hfrz fun j e41_1=>?_; subst e41_1
   have hc':iw ns sc (ckS k ns sc) r st=true:=by cases st<;>exact hc
   cases n with
   | zero=>cases h1
   | succ n=>
   rcases Au h1 with⟨ds,hw,h1⟩ | h1<;>cases h1
   ·have hlt:j<ns.length:=by
     rw[←S.len]
     rcases bS j σ.length with q | q
     ·exact q
     ·rw[bj q]at hw; cases hw
    refine dh (hf j hlt) fun x hx=>?_
    refine bq (S.freeze hx hw) fun Z1 hl1 S1=>?_
    exact Hs R' hf hc' hv S1 Q E fun fl s2 Z2 ad2 hr hl S2=>h fl s2 Z2 ad2 hr (hl1.trans hl) S2
   ·exact Hs R' hf hc' hv S Q E h
  ·refine gw (tW hc fun j e=>hfrz ⟨j,e⟩) fun st1 str e67_1 c1 c2=>?_; subst e67_1
   refine wpAny_execs_cons (Hst R' hf c1 h1 S _ E fun fl s1 Z1 ad1 hr hl S1=>?_)
   cases f1 with
   | next=>cases flr_next hr; exact Hs R' hf c2 hv S1 Q E fun fl s2 Z2 ad2 hr hl2 S2=>h fl s2 Z2 ad2 hr (hl.trans hl2) S2
   | brk=>cases flr_brk hr; exact ez hv h .brk _ _ ad1 trivial hl S1
   | ret d=>obtain⟨v,rfl⟩:=nT hr; exact ez hv h (.ret v) _ _ ad1 hr hl S1
end
section inversion
variable {ns:Nms}{sc:Scope}{k:Nat}{st:Stmt}
end inversion
section
variable {P:Pm}{wc:Addr}{sc:Scope}{env:Env}{ns:Nms}{b:Bs}{Z Z' Z1:Heap}{σ σ':St}{ad:Nat→Addr}{s s':Shared}{A:Around}{ft:FT}{n:Nat}
theorem SR.slotJ(S:SR P wc sc env ns 0 b Z σ ad s){i:Nat}{x:Str}(hi:ns[i]? =some (some x)){fs:List (String×D)}(hw:σ[i]? =some (.minst fs))(ho:onlyMinst σ i=true):
  ∃y dx,jA wc Z s.heap y dx fs∧(∀{A:Around} {pos:Pos} {Q:Value→Shared→Prop} {E:Value→Shared→Prop},Q (.ref y) s→wpAny P.M A (eval (.Name x pos) env) Q E s)∧
   ∀h' tk fs',0<tk→Heap.SameBut dx s.heap h'→jA wc Z h' y dx fs'→SR P wc sc env ns 0 b Z (σ.set i (.minst fs')) ad {s with heap:=h',toks:=tk}:=by
 obtain⟨m,hm,hv⟩:=S.nss
 have hli:=S.lt hi
 have hdd:=S.dd i x hi
 have core:∀y dx,jA wc Z s.heap y dx fs→Z.get? dx=none→b.B.get? dx=none→(dx≠env.locals∧y=P.me)→∀h' tk fs',0<tk→Heap.SameBut dx s.heap h'→jA wc Z h' y dx fs'→
   (∀ov,VR P wc env.locals b.B Z s.heap (ad i) σ[i]? ov→((env.kindOf x=some .local∧ov=m x)∨((env.kindOf x=some .cell∨env.kindOf x=some .free)∧∃c,env.cells.lookup x=some c∧s.heap.IsCell c ov))→ov=some (.ref y))→
   SR P wc sc env ns 0 b Z (σ.set i (.minst fs')) ad {s with heap:=h',toks:=tk}:=fun y dx r hz hB hne h' tk fs' htk hs r' huniq=>by
  obtain⟨υ,es,kk,hdx,υ⟩:=id r
  have hT:dx∉P.T:=S.ok.notT hdx (.inl nofun)
  have keep:∀c o,c≠dx→s.heap.get? c=some o→h'.get? c=some o:=fun c o q e=>(hs.2 c q).trans e
  have zk:Le Z h':=fun c o e=>keep c o (fun q=>by rw[q,hz]at e; cases e) (S.ok.z c o e)
  have key:∀j ov,j≠i→VR P wc env.locals b.B Z s.heap (ad j) σ[j]? ov→VR P wc env.locals b.B Z h' (ad j) (σ.set i (.minst fs'))[j]? ov:=fun j ov hj rr=>by
   rw[di hli,if_neg hj]
   have no:∀fs,σ[j]? ≠some (.minst fs):=fun fs hwj=>by
    have hjl:j<σ.length:=by
     rcases bS j σ.length with q | q
     ·exact q
     ·rw[bj q]at hwj; cases hwj
    have:=bh.mp ho j (fj.mpr hjl)
    rw[hwj]at this
    simp[sJ,hj]at this
   exact rr.imp (.refl _) (fun ds vs υ l z q=>⟨l.elim fun k l=>⟨k,keep _ _ (fun q'=>by rw[q',hdx]at l; cases congrArg Obj.data (ax.inj l)) l⟩,z,q⟩) (fun fs υ υ e=>absurd e (no fs)) fun fs υ υ υ e=>absurd e (no fs)
  have own:∀ov,ov=some (.ref y)→VR P wc env.locals b.B Z h' (ad i) (σ.set i (.minst fs'))[i]? ov:=fun ov e=>by
   rw[di hli,if_pos rfl]
   exact⟨y,dx,e,r',hz,hB,hne⟩
  refine⟨⟨zk,S.ok.g,S.ok.zT,P.to1 S.ok.tab (.refl _) (fun t ht=>hs.2 t fun q=>hT (by rw[←q]; exact ht)),S.ok.gens,S.ok.os,htk⟩,S.kind,S.glob,S.blt,S.gl,fun e o hT e'=>keep e o (fun q=>by rw[q,hB]at e'; cases e') (S.base e o hT e'),S.zle,S.zb,S.lz,S.lb,
   ⟨m,hm.sameBut hs (Ne.symm hne.1),fun j z hj hkj=>?_⟩,fun j z hj=>?_,S.ownk,S.nd,S.cd,fun j l ds1 ds2 h1 h2 h3=>?_,S.dd,by rw[dn]; exact S.len,S.cf,S.lc⟩
  ·by_cases q:j=i
   ·subst q
    have e:z=x:=by rw[hi]at hj; exact(ax.inj (ax.inj hj)).symm
    subst e
    exact own _ (huniq _ (hv j z hi hkj) (.inl ⟨hkj,rfl⟩))
   ·exact key j _ q (hv j z hj hkj)
  ·rcases S.cel j z hj with q | ⟨k',c,o,g1,⟨oc,g2,gd⟩,g3,g4,g5⟩
   ·exact .inl q
   ·have hne':c≠dx:=fun q=>by rw[q,hdx]at g2; cases g2; cases gd
    refine .inr ⟨k',c,o,g1,⟨oc,keep _ _ hne' g2,gd⟩,?_,g4,g5⟩
    by_cases q:j=i
    ·subst q
     have e:z=x:=by rw[hi]at hj; exact(ax.inj (ax.inj hj)).symm
     subst e
     exact own _ (huniq _ g3 (.inr ⟨k',c,g1,⟨oc,g2,gd⟩⟩))
    ·exact key j _ q g3
  ·have f:∀(j:Nat) (ds1:List D),(σ.set i (Var.minst fs'))[j]? =some (Var.mut ds1)→σ[j]? =some (Var.mut ds1):=fun j ds1 h=>by
    rw[di hli]at h
    by_cases hji:j=i
    ·rw[if_pos hji]at h; cases h
    ·rw[if_neg hji]at h; exact h
   exact S.ai j l ds1 ds2 (f j ds1 h1) (f l ds2 h2) h3
 rcases S.cel i x hi with q | ⟨kk,c,o,g1,g2,g3,g4,g5⟩
 ·have r:=hv i x hi q
  rw[hw]at r
  obtain⟨y,dx,e,r,hz,hB,hne⟩:=r
  refine⟨y,dx,r,fun{A pos Q E} hq=>wpAny_Name (wpAny_loadName_local S.kind q hm e hq) hdd.1,fun h' tk fs' htk hs r'=>core y dx r hz hB hne h' tk fs' htk hs r' fun ov υ hh=>?_⟩
  rcases hh with⟨_,rfl⟩ | ⟨kk,_⟩
  ·exact e
  ·rcases kk with kk | kk<;>(rw[q]at kk; cases kk)
 ·have r:=g3
  rw[hw]at r
  obtain⟨y,dx,rfl,r,hz,hB,hne⟩:=r
  refine⟨y,dx,r,fun{A pos Q E} hq=>?_,fun h' tk fs' htk hs r'=>core y dx r hz hB hne h' tk fs' htk hs r' fun ov υ hh=>?_⟩
  ·rcases kk with kk | kk
   ·exact wpAny_Name (wpAny_loadName_cell S.kind kk g1 g2 hq) hdd.1
   ·exact wpAny_Name (wpAny_loadName_free S.kind kk g1 g2 hq hdd.2) hdd.1
  ·rcases hh with⟨hl,_⟩ | ⟨_,c',hc',oc',hcell,hd'⟩
   ·rcases kk with kk | kk<;>(rw[hl]at kk; cases kk)
   ·rw[g1]at hc'; cases hc'
    obtain⟨oc,ho',hd⟩:=g2
    rw[ho']at hcell; cases hcell
    rw[hd]at hd'; cases hd'; rfl
theorem minv{β:Type}{o:Option Var}{g:List (String×D)→Option β}{d:β}(h:(match o with | some (.minst fs)=>g fs | _=>none)=some d):∃fs,o=some (.minst fs)∧g fs=some d:=by
 rcases o with _ | (_ | _ | _ | _ | _)<;>first | exact⟨_,rfl,h⟩ | cases h
theorem Gi{β:Type}{x:Option D}{g:D→D→D→D→D→β}{d:β}(h:(match x with | some (.tuple [a,b,c,d,e])=>some (g a b c d e) | _=>none)=some d):∃a b c e f,x=some (.tuple [a,b,c,e,f])∧g a b c e f=d:=by
 rcases x with _ | x
 ·cases h
 ·cases x with
  | tuple l=>rcases l with _ | ⟨a,_ | ⟨b,_ | ⟨c,_ | ⟨d,_ | ⟨e,_ | ⟨_,_⟩⟩⟩⟩⟩⟩<;>first | exact⟨_,_,_,_,_,rfl,ax.inj h⟩ | cases h
  | _=>cases h
theorem zL{o:Option (Nat×(List D→Option D))}{p:Option D}{m:Nat}{y:Fl×St}{g:D→D→D→D→D→Fl×St}
  (h:(match o with | some (c,F)=>if c≤m then p.bind fun d=>(match F [d]with | some (.tuple [a,b,c,d,e])=>some (g a b c d e) | _=>none) else none | none=>none)=some y):
  ∃c F d a1 a2 a3 a4 a5,o=some (c,F)∧c≤m∧p=some d∧F [d]=some (.tuple [a1,a2,a3,a4,a5])∧g a1 a2 a3 a4 a5=y:=by
 rcases o with _ | ⟨c,F⟩
 ·cases h
 ·obtain⟨hle,h⟩:=GN h
  refine ov1 h fun d hd h=>?_
  obtain⟨a1,a2,a3,a4,a5,hG,e⟩:=Gi h
  exact⟨c,F,d,a1,a2,a3,a4,a5,rfl,hle,hd,hG,e⟩
theorem fU(F:Facts P wc)(O:FnOk P wc ft)(Mk:MkOk P wc ft)(R:Room A n){k i:Nat}{nm:String}{e:IE}{st:Stmt}{f:Fl}(hc:ckS (k+1) ns sc (.setattr i nm e) st=true)(hv:evS ft (n+1) σ (.setattr i nm e)=some (f,σ'))(S:SR P wc sc env ns 0 b Z σ ad s):
  kM P wc sc env ns A b Z s (exec st env) f σ':=by
 refine sE hc fun ts v q hc=>k1' hc fun t hc=>gB hc fun o g ap hc=>dC hc fun x p hc=>bA5 hc fun hi hg ce hb hnm=>kB' hg ?_
 intro Q E h
 have hi:=fJ hi
 have hb:=kL hb
 have hnm:=List.contains_iff_mem.mp hnm
 have H:eU P wc ft n:=(cK F O n).1
 obtain⟨fs,hw,hv⟩:=minv hv
 refine ov1 hv fun d hd hv=>?_
 obtain⟨hcond,hv⟩:=oif hv
 have h:=ez (congrArg some hv) h
 refine fu hcond fun hn ho=>?_
 have e1:swapsWith v (some (.Attribute (.Name x p) (aa nm) ap)) q.line env=pure false:=by cases v<;>rfl
 rw[plainObj_exec_Assign_Attribute _ _ _ _ _ e1]
 refine wpAny_bind (wpAny_standAt (wpAny_bind (H R ce hd S fun u s1 Z1 g1 υ r1=>?_)))
 have S1:=S.go g1
 refine gw (S1.slotJ hi hw ho) fun y dx r rd ch=>?_
 show wpAny P.M A (do assign (.Attribute (.Name x p) (aa nm) ap) env u; pure Flow.next) Q E s1
 refine wpAny_bind ?_
 show wpAny P.M A (do let ov ←holding [u] (eval (.Name x p) env); standAt ap.atName; holding [u,ov] (setAttr ov (aa nm) u); release [u,ov] []) _ E s1
 refine wpAny_bind (wpAny_holding (rd ?_))
 refine wpAny_bind (wpAny_standAt (wpAny_bind (wpAny_holding ?_)))
 refine wpAny_with_toks (n:=1) S1.ok.tk (Mk.set R S1.ok.g0 r (by cases hq:fs.lookup nm with | none=>rfl | some w=>rw[hq]at hn; cases hn) hnm (r1 hb) fun h' tk hs r' htk=>?_)
 exact wpAny_release (aD (h _ _ _ ad trivial g1.le (ch h' tk _ htk hs r')))
theorem yR(F:Facts P wc)(O:FnOk P wc ft)(Mk:MkOk P wc ft)(R:Room A n){k i:Nat}{e:IE}{st:Stmt}{f:Fl}(hc:ckS (k+1) ns sc (.mkW i e) st=true)(hv:evS ft (n+1) σ (.mkW i e)=some (f,σ'))(S:SR P wc sc env ns 0 b Z σ ad s):
  kM P wc sc env ns A b Z s (exec st env) f σ':=by
 refine sD hc fun x p c q hc=>kCall' hc fun g vs kw pos hc=>dC hc fun y yp hc=>k1' hc fun v hc=>k0' hc fun hc=>bA4 hc fun hi hy ce hb=>?_
 intro Q E h
 have hi:=fJ hi
 have hb:=kL hb
 have H:eU P wc ft n:=(cK F O n).1
 obtain⟨c,G,d,a1,a2,a3,a4,a5,hft,hle,hd,hG,hv⟩:=zL hv
 have h:=ez (congrArg some hv) h
 refine dD (ew rfl _ _) ?_
 refine wpAny_Call_ofName (S.readG hy F.cls ?_)
 rw[bF (xs:=[v]) (fun w hw=>by rw[ay.mp hw]; exact fE ce),args_two,kw_nil]
 refine Mk.cw S.ok.g0 ?_
 refine(?_:wpAny P.M A (spliced [(false,eval v env)]) _ E s)
 refine spliced_cons (H R ce hd S fun u s1 Z1 g1 υ r1=>spliced_nil ⟨g1.ok.g0,?_⟩)
 refine(Mk.made c G hft).2 (R.mono hle) g1.ok (r1 hb) hG fun y2 dx s2 Z2 g2 r2=>?_
 have S2:=S.go (g1.trans g2)
 refine S2.bind hi (bK _) (S2.lt hi) (w:= .inst _) (a:=ad i) ⟨y2,dx,rfl,r2⟩ (fun υ q=>nomatch q) fun s3 S3=>?_
 exact h _ _ _ _ trivial (g1.trans g2).le S3
theorem Co(F:Facts P wc)(O:FnOk P wc ft)(Mk:MkOk P wc ft)(Hs:mS P wc ft n):F5 P wc ft (n+1):=by
 intro A env ns sc b σ ad Z s k is st f σ' R hf hc hv S
 have R':Room A n:=R.mono (eE n)
 cases k with
 | zero=>exact kno hc
 | succ k=>
 cases is with
 | assign i e=>exact bf F O R' hc hv S
 | assignM i e=>exact dX F O R' hf hc hv S
 | assigns is e=>exact jU F O R' hc hv S
 | unpack i j e=>exact fP F O R' hc hv S
 | unpackT i j a b=>exact iG F O R' hc hv S
 | aug i op e=>exact qZ F O R' hc hv S
 | setidx i k e=>exact lA F O R' hc hv S
 | delidx i k=>exact uT F O R' hc hv S
 | append i e=>exact gI F O R' hc hv S
 | appendPop i j k=>exact ik F O R' hc hv S
 | extend i e=>exact jH F O R' hc hv S
 | reverse i=>exact jT hc hv S
 | ife c t e=>exact s_if F O Hs R' hf hc hv S
 | whil m c t=>exact yQ F O Hs R' hf hc hv S
 | fore t src body orelse=>exact Gp F O Hs R' hf hc hv S
 | ret e=>exact gQ F O R' hc hv S
 | brk=>
  refine dh (Ba hc) fun q e81_1=>?_; subst e81_1
  cases hv
  intro Q E h
  exact wpAny_Break (h .brk _ _ ad trivial (.refl _) S)
 | pas=>
  refine dh (A9 hc) fun q e86_1=>?_; subst e86_1
  cases hv
  intro Q E h
  exact wpAny_Pass (h .next _ _ ad trivial (.refl _) S)
 | assert c=>exact lB F O R' hc hv S
 | frz i=>exact kno hc
 | setattr i nm e=>exact fU F O Mk R' hc hv S
 | mkW i e=>exact yR F O Mk R' hc hv S
 | stuck=>cases hv
theorem qN:F5 P wc ft 0∧mS P wc ft 0:=by
 constructor
 ·intro A env ns sc b σ ad Z s k is st f σ' R hf hc hv
  cases hv
 ·intro A env ns sc b σ ad Z s k is st f σ' R hf hc hv
  cases hv
theorem lx(F:Facts P wc)(O:FnOk P wc ft)(Mk:MkOk P wc ft):∀n,F5 P wc ft n∧mS P wc ft n:=by
 intro n
 induction n with
 | zero=>
  exact qN
 | succ n ih=>
  exact by obtain⟨H,Hs⟩:=ih; exact⟨Co F O Mk Hs,yJ H Hs⟩
end
noncomputable def cT(f:Fn)(sc:Scope):Bool:=
 decide (f.names.map aa).Nodup&&(f.names.all fun x=>sc.names.lookup (aa x)==some .local||sc.names.lookup (aa x)==some .cell)&&
 (f.names.all fun x=>(!(aa x==("__debug__":Str)))&&(!(aa x==("__classdict__":Str))))&&decide (f.args≤f.names.length)&&
 decide (sc.kind= .function)&& !sc.isCoroutine&& !sc.isGenerator
noncomputable def Fn.binds(f:Fn)(vs:List Value):List (Str×Value):=(f.names.map aa).zip vs
theorem ti{α β:Type}(l:List α)(m:List β):(l.zip m).map (·.1)=l.take m.length:=by
 induction l generalizing m with
 | nil=>rw[List.take_nil]; rfl
 | cons a l ih=>
  cases m with
  | nil=>rfl
  | cons b m=>exact congrArg (a::·) (ih m)
theorem t9{kd:Str→Option NameKind}{bs:List (Str×Value)}{m:Str→Option Value}{x:Str}(h:x∉bs.map (·.1)):bindL kd bs m x=m x:=by
 induction bs generalizing m with
 | nil=>rfl
 | cons p r ih=>
  have h:=not_or.mp (mt aP.mpr h)
  refine(ih h.2).trans ?_
  split
  ·exact if_neg h.1
  ·rfl
theorem xk{kd:Str→Option NameKind}{bs:List (Str×Value)}{m:Str→Option Value}{x:Str}{v:Value}(hn:(bs.map (·.1)).Nodup)(h:(x,v)∈bs)(hk:kd x=some .local):bindL kd bs m x=some v:=by
 induction bs generalizing m with
 | nil=>cases h
 | cons p r ih=>
  have hn:=ej.mp hn
  refine(aP.mp h).elim (fun e=>?_) (ih hn.2)
  subst e
  refine(t9 hn.1).trans ?_
  rw[if_pos hk]; exact if_pos rfl
theorem ua{kd:Str→Option NameKind}{bs:List (Str×Value)}{m:Str→Option Value}{x:Str}(h:x∉bs.map (·.1)):bindC kd bs m x=m x:=by
 induction bs generalizing m with
 | nil=>rfl
 | cons p r ih=>
  have h:=not_or.mp (mt aP.mpr h)
  refine(ih h.2).trans ?_
  split
  ·rfl
  ·exact if_neg h.1
theorem xl{kd:Str→Option NameKind}{bs:List (Str×Value)}{m:Str→Option Value}{x:Str}{v:Value}(hn:(bs.map (·.1)).Nodup)(h:(x,v)∈bs)(hk:kd x≠some .local):bindC kd bs m x=some v:=by
 induction bs generalizing m with
 | nil=>cases h
 | cons p r ih=>
  have hn:=ej.mp hn
  refine(aP.mp h).elim (fun e=>?_) (ih hn.2)
  subst e
  refine(ua hn.1).trans ?_
  rw[if_neg hk]; exact if_pos rfl
section
variable {P:Pm}{wc:Addr}{Z Z' Z1:Heap}{s s':Shared}{A:Around}{ft:FT}{n:Nat}
theorem k7{R:Result→Shared→Prop}{a:Addr}{o:Obj}{fd:FuncData}{body:List Stmt}{vals:List Value}{binds:List (Str×Value)}
  (hroom:A.depth<recursionLimit) (ho:s.heap.get? a=some o) (hdata:o.data= .func fd) (hlim:s.heap.NoLimit) (hcd:s.heap.CodeRec fd.code fd.qualname)
  (hbody:fd.body= .stmts body) (hbind:bindArgs fd ⟨vals,[]⟩=pure binds) (hclo:fd.closure=[])
  (hkind:∀x∈binds,fd.scope.names.lookup x.1=some .local∨(fd.scope.names.lookup x.1=some .cell∧((cellsFrom (s.heap.objs.size+1) fd.scope.names []).lookup x.1).isSome=true))
  (htk:0<s.toks)
  (h:∀s₁,InCallC s (callEnvC fd s.heap.objs.size a).locals (bindL (callEnvC fd s.heap.objs.size a).kindOf binds fun υ=>none) (callEnvC fd s.heap.objs.size a).cells
    (bindC (callEnvC fd s.heap.objs.size a).kindOf binds fun υ=>none) s₁→0<s₁.toks→
   wpAny P.M (A.deeper (callEnvC fd s.heap.objs.size a)) (execs body (callEnvC fd s.heap.objs.size a)) (fun f s'=>R (.ok (.ret (match f with | .ret v=>v | _=> .none))) s')
    (fun e s'=>wpAny P.M (A.deeper (callEnvC fd s.heap.objs.size a)) (leaving (callEnvC fd s.heap.objs.size a) e) (fun υ s''=>R (.error e) s'') (fun e' s''=>R (.error e') s'') s') s₁)
  (hco:fd.scope.isCoroutine=false) (hgen:fd.scope.isGenerator=false) (hk:fd.scope.kind= .function):
  codeAny P.M A (.call (.ref a) ⟨vals,[]⟩) R s:=by
 refine codeAny_call_function hroom ho hdata hco hgen hbody hcd ?_
 rw[hbind,hclo]
 refine aD (wpAny_with_toks (n:=1) htk (wpAny_newFunctionEnv_cells hk hkind fun env he s' x htk'=>?_))
 subst he
 exact⟨hlim.keeps x.toInCall.keep,codeAny_func (h s' x htk')⟩
structure FnAt(P:Pm)(f:Fn)(a:Addr)(sc:Scope)(body:List Stmt):Prop where
 ex:∃o fd,P.g0.get? a=some o∧o.data= .func fd∧P.g0.CodeRec fd.code fd.qualname∧fd.body= .stmts body∧fd.scope=sc∧fd.closure=[]∧fd.globals=aX∧fd.builtins=cE∧
  ∀vs:List Value,vs.length=f.args→bindArgs fd ⟨vs,[]⟩=pure (f.binds vs)
 fr:cT f sc=true
 ck:iw f.nms sc (ckS 40 f.nms sc) f.body body=true
noncomputable def names(xs:List String):Nms:=xs.map fun x=>some (aa x)
theorem gA{xs:List String}{i:Nat}{y:Str}(h:(names xs)[i]? =some (some y)):∃z,xs[i]? =some z∧y=aa z:=by
 unfold names at h
 rw[aW]at h
 refine bq (aQ.mp h) fun z hz e=>?_
 cases e; exact⟨z,hz,rfl⟩
theorem oU{xs:List String}(h:(xs.map aa).Nodup):∀(i j:Nat) (y:Str),(names xs)[i]? =some (some y)→(names xs)[j]? =some (some y)→i=j:=by
 refine gT ?_
 have e:((names xs).filterMap id)=xs.map aa:=by
  unfold names
  rw[List.filterMap_map]
  exact congrFun (List.filterMap_eq_map (f:=aa)) xs
 rw[e]; exact h
theorem jh(xs:List String):qu (names xs):=fun i hi=>by
 unfold names at hi⊢
 rw[ag]at hi
 exact⟨_,by rw[aW,aR hi]; rfl⟩
theorem frN{f:Fn}{sc:Scope}(fr:cT f sc=true):(f.names.map aa).Nodup:=bA7 fr fun h υ υ υ υ υ υ=>of_decide_eq_true h
theorem frA{f:Fn}{sc:Scope}(fr:cT f sc=true):f.args≤f.names.length:=bA7 fr fun υ υ υ h υ υ υ=>of_decide_eq_true h
theorem frF{f:Fn}{sc:Scope}(fr:cT f sc=true):sc.kind= .function:=bA7 fr fun υ υ υ υ h υ υ=>of_decide_eq_true h
theorem frC{f:Fn}{sc:Scope}(fr:cT f sc=true):sc.isCoroutine=false:=bA7 fr fun υ υ υ υ υ h υ=>kL h
theorem frG{f:Fn}{sc:Scope}(fr:cT f sc=true):sc.isGenerator=false:=bA7 fr fun υ υ υ υ υ υ h=>kL h
theorem frK{f:Fn}{sc:Scope}(fr:cT f sc=true){z:String}(hz:z∈f.names):sc.names.lookup (aa z)=some .local∨sc.names.lookup (aa z)=some .cell:=
 bA7 fr fun υ h υ υ υ υ υ=>(Bool.or_eq_true_iff.mp (bh.mp h z hz)).imp eq_of_beq eq_of_beq
theorem frD{f:Fn}{sc:Scope}(fr:cT f sc=true){z:String}(hz:z∈f.names):(aa z==("__debug__":Str))=false∧(aa z==("__classdict__":Str))=false:=
 bA7 fr fun υ υ h υ υ υ υ=>bA2 (bh.mp h z hz) fun a b=>⟨kL a,kL b⟩
theorem mO{sc:Scope}(L:Addr){x:Str}(h:sc.names.lookup x=some .cell):∃c,(cellsFrom L sc.names []).lookup x=some c:=
 (iS sc.names L x (mem_of_lookup h)).elim fun υ hc=>gJ hc
theorem lg{f:Fn}{sc:Scope}(fr:cT f sc=true){vs:List Value}{L:Addr}{p:Str×Value}(hp:p∈f.binds vs):sc.names.lookup p.1=some .local∨(sc.names.lookup p.1=some .cell∧((cellsFrom L sc.names []).lookup p.1).isSome=true):=by
 refine bq (bg.mp (List.of_mem_zip (a:=p.1) (b:=p.2) hp).1) fun z hz e=>?_
 rw[←e]
 exact(frK fr hz).imp_right fun q=>⟨q,(mO L q).elim fun c hc=>by rw[hc]; rfl⟩
theorem C3{f:Fn}:f.nms.length=f.names.length:=ag _
theorem AL{f:Fn}{sc:Scope}{env:Env}{s s₁:Shared}{t:Nat}{vs:List Value}{b:Bs}{σ:St}(fr:cT f sc=true)(ok:Ok P Z {s with toks:=t})(hvl:vs.length=f.args)
  (x:InCallC s env.locals (bindL env.kindOf (f.binds vs) fun υ=>none) env.cells (bindC env.kindOf (f.binds vs) fun υ=>none) s₁) (htk:0<s₁.toks)
  (hscope:env.scope=sc) (hloc:env.locals=s.heap.objs.size) (hcells:env.cells=cellsFrom (s.heap.objs.size+1) sc.names []) (hglob:env.globals=aX) (hblt:env.builtins=cE)
  (hb:LeX P.T b.B s.heap) (hzle:Le b.Z0 Z) (hzb:∀a o,Z.get? a=some o→b.Z0.get? a=some o∨b.B.get? a=none) (hBs:∀c,s.heap.get? c=none→b.B.get? c=none) (hσl:σ.length=f.names.length) (hσm:∀(i:Nat) ds,σ[i]? ≠some (.mut ds))
  (hvr:∀(L:Addr) (h₁:Heap),s.heap.get? L=none→Le s.heap h₁→∀(i:Nat),(∀v,vs[i]? =some v→VR P wc L b.B Z h₁ i σ[i]? (some v))∧(f.args≤i→∀ov,VR P wc L b.B Z h₁ i σ[i]? ov)):
  SR P wc sc env f.nms 0 b Z σ (fun i=>i) s₁∧Go P Z {s with toks:=t} Z s₁:=by
 have hnd:=frN fr
 have hko:∀y,env.kindOf y=sc.names.lookup y:=fun y=>by unfold Env.kindOf; rw[hscope]
 have g:Go P Z {s with toks:=t} Z s₁:=x2_2 x.done fun h' tk hs₁ hkeep=>Go.of_le ok (fun c o e=>x.toInCall.keep c o e) htk (by rw[hs₁]) (by rw[hs₁])
 have hfl:s.heap.get? env.locals=none:=by rw[hloc]; exact get?_size _
 have hbnd:((f.binds vs).map (·.1)).Nodup:=by unfold Fn.binds; rw[ti]; exact hnd.sublist (List.take_sublist _ _)
 have vr:∀(i:Nat) (y:Str) (ov:Option Value),f.nms[i]? =some (some y)→(∀v,(y,v)∈f.binds vs→ov=some v)→VR P wc env.locals b.B Z s₁.heap i σ[i]? ov:=fun i y ov hy hov=>by
  have hv:=hvr _ _ hfl (fun c o e=>x.toInCall.keep c o e) i
  rcases bS i f.args with hi | hi
  ·refine bq (gA hy) fun z hz ey=>?_
   have hw:=aR (eR hi hvl.symm)
   rw[hov _ (bD (i:=i) (List.getElem?_zip_eq_some.mpr ⟨by rw[aW,hz,ey]; rfl,hw⟩))]
   exact hv.1 _ hw
  ·exact hv.2 hi ov
 have kinds:∀(i:Nat) (y:Str),f.nms[i]? =some (some y)→sc.names.lookup y=some .local∨sc.names.lookup y=some .cell:=fun i y hy=>by
  refine bq (gA hy) fun z hz ey=>?_
  rw[ey]; exact frK fr (bD hz)
 have ndx:=oU hnd
 refine⟨⟨g.ok,by rw[hscope]; exact frF fr,hglob,hblt,fun y hy=>by rw[hko]; exact hy,hb.trans g.keep,hzle,hzb,by rw[hloc]; exact ok.znone (get?_size _),hBs _ hfl,
  ⟨_,x.toInCall.ns,fun i y hy hk=>vr i y _ hy fun v hv=>xk hbnd hv hk⟩,fun i y hy=>?_,fun i y hy υ=>by rw[hko]; exact kinds i y hy,ndx,fun i j y z c hi hj υ υ υ υ cy cz=>?_,fun i j ds1 es1 h1 υ=>absurd h1 (hσm i ds1),fun i y hy=>?_,hσl.trans C3.symm,fun y hy=>by rw[hko]; exact hy,fun y hy=>by rw[hko]; exact hy⟩,g⟩
 ·refine(kinds i y hy).elim (fun q=> .inl (by rw[hko]; exact q)) fun q=>?_
  refine dh (mO (s.heap.objs.size+1) q) fun c hc=>?_
  rw[←hcells]at hc
  have hab:=x.above y c (mem_of_lookup hc)
  rw[hloc]at hab
  have hfr:s.heap.get? c=none:=Heap.get?_none_of_le (bz hab)
  exact .inr ⟨.inl (by rw[hko]; exact q),c,_,hc,x.cell y c hc,vr i y _ hy fun v hv=>xl hbnd hv (by rw[hko,q]; nofun),fun υ=>⟨ok.znone hfr,hBs _ hfr⟩,fun q=>absurd q (Nat.not_lt_zero _)⟩
 ·rw[←name_of_addr x.apart (mem_of_lookup cy) (mem_of_lookup cz)]at hj
  exact ndx i j y hi hj
 ·refine bq (gA hy) fun z hz ey=>?_
  rw[ey]; exact frD fr (bD hz)
theorem il{env:Env}(R:Room A (n+1)):Room (A.deeper env) n:=⟨R.hd,by have:=R.depth; show A.depth+1+n<_; exact BK this,by have:=R.units; show A.units+3+8*n+80<_; exact Lb this⟩
theorem lO(F:Facts P wc)(O:FnOk P wc ft)(Mk:MkOk P wc ft){f:Fn}{a:Addr}{sc:Scope}{body:List Stmt}(K:FnAt P f a sc body)(R:Room A (n+1))(ok:Ok P Z s){b:Bs}(hb:LeX P.T b.B s.heap)(hzle:Le b.Z0 Z)
  (hzb:∀a o,Z.get? a=some o→b.Z0.get? a=some o∨b.B.get? a=none) (hBs:∀c,s.heap.get? c=none→b.B.get? c=none) {vs:List Value} (hvl:vs.length=f.args) {σ:St} (hσl:σ.length=f.names.length) (hσm:∀(i:Nat) ds,σ[i]? ≠some (.mut ds))
  (hvr:∀(L:Addr) (h₁:Heap),s.heap.get? L=none→Le s.heap h₁→∀(i:Nat),(∀v,vs[i]? =some v→VR P wc L b.B Z h₁ i σ[i]? (some v))∧(f.args≤i→∀ov,VR P wc L b.B Z h₁ i σ[i]? ov))
  {fl:Fl} {σ':St} (hrun:dU ft n σ f.body=some (fl,σ')) {RR:Result→Shared→Prop}
  (h:∀flw s' Z' ad' env',FlR Z' fl flw→Le Z Z'→SR P wc sc env' f.nms 0 b Z' σ' ad' s'→RR (.ok (.ret (match flw with | .ret v=>v | _=> .none))) s'):codeAny P.M A (.call (.ref a) ⟨vs,[]⟩) RR s:=by
 refine Gd K.ex fun o fd ho hdata hcd hbody hsc hclo hglob hblt hbind=>?_
 subst hsc
 refine k7 (az (aA _ _) R.depth) (ok.g0 _ _ ho) hdata (P.hlim.keeps ok.g0) (hcd.keeps ok.g0) hbody (hbind vs hvl) hclo (fun p hp=>lg K.fr hp) ok.tk (fun s₁ x htk=>?_) (frC K.fr) (frG K.fr) (frF K.fr)
 have E:=AL (t:=s.toks) (wc:=wc) K.fr ok hvl x htk rfl rfl rfl hglob hblt hb hzle hzb hBs hσl hσm hvr
 have hfull:qu f.nms:=jh f.names
 exact(lx F O Mk n).2 (il R) hfull K.ck hrun E.1 _ _ fun flw s2 Z2 ad2 hr hl S2=>h flw s2 Z2 ad2 _ hr hl S2
theorem lF{pre:St}{k i:Nat}{w:Var}(h:(pre++aq k Var.u0)[i]? =some w):pre[i]? =some w∨w= .u0:=by
 rcases bS i pre.length with hi | hi
 ·rw[cn hi]at h; exact .inl h
 ·rw[bM hi]at h; exact .inr (List.eq_of_mem_replicate (bD h))
theorem nq{pre:St}{k n:Nat}(h:pre.length=k)(hk:k≤n):(pre++aq (n-k) Var.u0).length=n:=by
 rw[ak,bG]; exact aq33 h hk
theorem rg{pre:St}{k:Nat}{vs:List Value}{L:Addr}{B h₁:Heap}{na:Nat}(hlen:pre.length=na)(q:∀i w,pre[i]? =some w→∀v,vs[i]? =some v→VR P wc L B Z h₁ i (some w) (some v))(i:Nat):
  (∀v,vs[i]? =some v→VR P wc L B Z h₁ i (pre++aq k Var.u0)[i]? (some v))∧(na≤i→∀ov,VR P wc L B Z h₁ i (pre++aq k Var.u0)[i]? ov):=by
 cases e:(pre++aq k Var.u0)[i]? with
 | none=>exact⟨fun υ υ=>trivial,fun υ υ=>trivial⟩
 | some w=>
  rcases lF e with p | p
  ·exact⟨q i w p,fun hi=>absurd (List.getElem?_eq_some_iff.mp p).1 (eM.mpr (hlen▸hi))⟩
  ·exact p▸⟨fun υ υ=>trivial,fun υ υ=>trivial⟩
theorem nM{ds:List D}{k i:Nat}{es:List D}(h:(ds.map Var.fro++aq k Var.u0)[i]? =some (.mut es)):False:=
 (lF h).elim (fun q=>by rw[aW]at q; exact(aQ.mp q).elim fun υ q=>by cases q.2) fun q=>by cases q
theorem sO{ds:List D}{k:Nat}{vs:List Value}{L:Addr}{B h₁:Heap}{na:Nat}(r:RepAll Z vs ds)(hlen:ds.length=na)(i:Nat):
  (∀v,vs[i]? =some v→VR P wc L B Z h₁ i (ds.map Var.fro++aq k Var.u0)[i]? (some v))∧(na≤i→∀ov,VR P wc L B Z h₁ i (ds.map Var.fro++aq k Var.u0)[i]? ov):=by
 refine rg ((ag _).trans hlen) (fun i w e v hv=>?_) i
 rw[aW]at e
 refine bq (aQ.mp e) fun d hd q=>?_
 refine bq (r.get i hd) fun v' hv' rv=>?_
 exact q▸⟨v,rfl,ax.inj (hv'.symm.trans hv)▸rv⟩
theorem nN{ds:List D}{nms:List String}{na:Nat}(hlen:ds.length=na)(h:na≤nms.length):(ds.map Var.fro++aq (nms.length-na) Var.u0).length=nms.length:=nq ((ag _).trans hlen) h
theorem pQ{r:Option (Fl×St)}{d:D}(h:xJ r=some d):∃fl σ,r=some (fl,σ)∧∀{Z:Heap} {flw:Flow},FlR Z fl flw→Rep Z (match flw with | .ret v=>v | _=> .none) d:=by
 cases r with
 | none=>cases h
 | some p=>
  refine⟨p.1,p.2,rfl,fun{Z flw} q=>?_⟩
  have h:(match p.1 with | .ret d=>some d | .next=>some PyData.none | .brk=>none)=some d:=h
  cases e:p.1 with
  | next=>rw[e]at h q; cases flw with | next=>exact ax.inj h▸ .none | _=>exact q.elim
  | brk=>rw[e]at h; cases h
  | ret v=>rw[e]at h q; cases flw with | ret v=>exact ax.inj h▸q | _=>exact q.elim
theorem we(F:Facts P wc)(O:FnOk P wc ft)(Mk:MkOk P wc ft){f:Fn}{a:Addr}{sc:Scope}{body:List Stmt}(K:FnAt P f a sc body)(R:Room A (n+1))(ok:Ok P Z s){vs:List Value}{ds:List D}{d:D}(r:RepAll Z vs ds)
  (hd:f.run ft n ds=some d):Gv P A Z s (call (.ref a) vs) d:=by
 intro Q E h
 unfold Fn.run at hd
 by_cases hlen:ds.length=f.args
 ·rw[if_pos hlen]at hd
  refine x2_2 (pQ hd) fun fl σ' hrun q=>?_
  exact wpAny_call (lO F O Mk K R ok (b:=⟨s.heap,Z⟩) (.refl _ _) (.refl _) (fun υ υ e=> .inl e) (fun c hc=>hc) (r.length.trans hlen) (nN hlen (frA K.fr)) (fun i es e=>nM e) (fun L h₁ υ υ i=>sO r hlen i) hrun fun flw s' Z' ad' env' hr hl S'=>h _ s' Z' (SR.toGo (s0:=s) S') (q hr))
 ·rw[if_neg hlen]at hd; cases hd
end
end Pw
end
section
open PySem
namespace Pw
noncomputable def AI:Fn:={
 names:=["want","got","ws","startpos","endpos","w"],args:=2,
 body:=[
  .ife (.cmp .NotIn (.glo 0) (.var 0)) [.ret (.cmp .Eq (.var 0) (.var 1))] [],
  .assignM 2 (.mt .split (.var 0) [.glo 0]),
  .assert (.cmp .GtE (.bi .len [.bor 2]) (.int 2)),
  .unpackT 3 4 (.int 0) (.bi .len [.var 1]),
  .assign 5 (.idx (.bor 2) (.int 0)),
  .ife (.var 5) [.ife (.mt .startswith (.var 1) [.var 5]) [.assign 3 (.bi .len [.var 5]),.delidx 2 (.int 0)] [.ret (.bool false)]] [],
  .assign 5 (.idx (.bor 2) (.un .USub (.int 1))),
  .ife (.var 5) [.ife (.mt .endswith (.var 1) [.var 5]) [.aug 4 .Sub (.bi .len [.var 5]),.delidx 2 (.un .USub (.int 1))] [.ret (.bool false)]] [],
  .ife (.cmp .Gt (.var 3) (.var 4)) [.ret (.bool false)] [],
  .frz 2,
  .fore (.one 5) (.var 2) [.assign 3 (.mt .find3 (.var 1) [.var 5,.var 3,.var 4]),.ife (.cmp .Lt (.var 3) (.int 0)) [.ret (.bool false)] [],.aug 3 .Add (.bi .len [.var 5])] [],
  .ret (.bool true)]}
noncomputable def B0:Fn:={
 names:=["a","b","n","pad","half_n","mask","b1","b2","q1","r","q2"],args:=3,
 body:=[
  .ife (.cmp .LtE (.bin .Sub (.mt .bitLength (.var 0) []) (.var 2)) (.glo 1)) [.ret (.bi .divmod [.var 0,.var 1])] [],
  .assign 3 (.bin .BitAnd (.var 2) (.int 1)),
  .ife (.var 3) [.aug 0 .LShift (.int 1),.aug 1 .LShift (.int 1),.aug 2 .Add (.int 1)] [],
  .assign 4 (.bin .RShift (.var 2) (.int 1)),
  .assign 5 (.bin .Sub (.bin .LShift (.int 1) (.var 4)) (.int 1)),
  .unpackT 6 7 (.bin .RShift (.var 1) (.var 4)) (.bin .BitAnd (.var 1) (.var 5)),
  .unpack 8 9 (.call 14 [.bin .RShift (.var 0) (.var 2),.bin .BitAnd (.bin .RShift (.var 0) (.var 4)) (.var 5),.var 1,.var 6,.var 7,.var 4]),
  .unpack 10 9 (.call 14 [.var 9,.bin .BitAnd (.var 0) (.var 5),.var 1,.var 6,.var 7,.var 4]),
  .ife (.var 3) [.aug 9 .RShift (.int 1)] [],
  .ret (.tup [.bin .BitOr (.bin .LShift (.var 8) (.var 4)) (.var 10),.var 9])]}
noncomputable def DV:Fn:={
 names:=["a","b","n","a_digits","r","q_digits","a_digit","q_digit","q"],args:=2,
 body:=[
  .assign 2 (.mt .bitLength (.var 1) []),
  .assign 3 (.call 2 [.var 0,.var 2]),
  .assign 4 (.int 0),
  .assignM 5 (.list []),
  .fore (.one 6) (.bi .reversed [.var 3]) [.unpack 7 4 (.call 1 [.bin .Add (.bin .LShift (.var 4) (.var 2)) (.var 6),.var 1,.var 2]),.append 5 (.var 7)] [],
  .reverse 5,
  .frz 5,
  .assign 8 (.call 3 [.var 5,.var 2]),
  .ret (.tup [.var 8,.var 4])]}
noncomputable def tA:Fn:={
 names:=["a","b","q","r"],args:=2,
 body:=[
  .ife (.cmp .Eq (.var 1) (.int 0)) [.stuck] [.ife (.cmp .Lt (.var 1) (.int 0)) [.unpack 2 3 (.call 5 [.un .USub (.var 0),.un .USub (.var 1)]),.ret (.tup [.var 2,.un .USub (.var 3)])] [.ife (.cmp .Lt (.var 0) (.int 0)) [.unpack 2 3 (.call 5 [.un .Invert (.var 0),.var 1]),.ret (.tup [.un .Invert (.var 2),.bin .Add (.var 1) (.un .Invert (.var 3))])] [.ret (.call 4 [.var 0,.var 1])]]]]}
noncomputable def DU:Fn:={
 names:=["flags","names","i","flag"],args:=1,
 body:=[
  .assignM 1 (.list []),
  .fore (.one 2) (.bi .range [.int 32]) [.assign 3 (.bin .LShift (.int 1) (.var 2)),.ife (.bin .BitAnd (.var 0) (.var 3)) [.append 1 (.mt .flagName (.var 3) []),.aug 0 .BitXor (.var 3),.ife (.not (.var 0)) [.brk] []] []] [.stuck],
  .frz 1,
  .ret (.mt .join (.str ", ") [.var 1])]}
noncomputable def j5:Fn:={
 names:=["self","ws","S","T","count","b","n","nt","ch"],args:=2,
 body:=[
  .setattr 0 "raw" (.var 1),
  .unpackT 2 3 (.glo 2) (.glo 3),
  .assignM 4 (.list []),
  .assigns [5,6,7] (.int 0),
  .fore (.one 8) (.attr 0 "raw") [.ife (.cmp .Eq (.var 8) (.var 2)) [.assign 6 (.bin .Add (.var 6) (.int 1)),.assign 5 (.bin .Add (.var 5) (.int 1))] [.ife (.cmp .Eq (.var 8) (.var 3)) [.assign 6 (.bin .Add (.var 6) (.int 1)),.assign 7 (.bin .Add (.var 7) (.int 1)),.ife (.cmp .GtE (.var 5) (.bi .len [.bor 4])) [.assignM 4 (.bin .Add (.bor 4) (.bin .Mult (.list [.int 0]) (.bin .Add (.bin .Sub (.var 5) (.bi .len [.bor 4])) (.int 1))))] [],.setidx 4 (.var 5) (.bin .Add (.idx (.bor 4) (.var 5)) (.int 1)),.assign 5 (.int 0)] [.brk]]] [],
  .setattr 0 "n" (.var 6),
  .setattr 0 "nt" (.var 7),
  .setattr 0 "norm" (.tup [.bi .tup [.bor 4],.var 5]),
  .setattr 0 "is_simple" (.cmp .LtE (.bi .len [.bor 4]) (.int 1))]}
noncomputable def nW:Fn:={
 names:=["self","count","trailing"],args:=1,
 body:=[
  .unpack 1 2 (.attr 0 "norm"),
  .ret (.bi .max2 [.bin .Sub (.bi .len [.var 1]) (.int 1),.var 2])]}
noncomputable def mG:Fn:={
 names:=["script","waiting","roads","x"],args:=1,
 body:=[
  .assignM 1 (.comp (.tup [.var 5,.var 4]) [(.one 4,.bi .range [.int 2,.int 6],[]),(.one 5,.bi .range [.int 1,.var 4],[])] ["high","low"] []),
  .assignM 2 (.list []),
  .fore (.one 3) (.bin .Add (.bi .lst [.slice (.var 0) none (some (.int 5))]) (.slice (.list [.int 0,.int 0,.int 0,.int 3,.int 5]) (some (.bi .len [.slice (.var 0) none (some (.int 5))])) none)) [.appendPop 2 1 (.bin .Mod (.var 3) (.bi .len [.bor 1]))] [],
  .frz 2,
  .ret (.var 2)]}
noncomputable def DS:Fn:={
 names:=["roads","rows","town","grown","row","near"],args:=1,
 body:=[
  .assign 1 (.list [.list []]),
  .fore (.one 2) (.bi .range [.int 1,.int 6]) [.assignM 3 (.list []),.fore (.one 4) (.var 1) [.assign 5 (.comp (.idx (.var 4) (.bin .Sub (.var 6) (.int 1))) [(.one 6,.bi .range [.int 1,.var 2],[.cmp .In (.tup [.var 6,.var 2]) (.var 0)])] ["other"] [0,2,4]),.extend 3 (.comp (.bin .Add (.var 4) (.list [.var 6])) [(.one 6,.bi .range [.bin .Add (.bi .max1 [.bin .Add (.list [.un .USub (.int 1)]) (.var 4)]) (.int 2)],[.cmp .NotIn (.var 6) (.var 5)])] ["c"] [4,5])] [],.frz 3,.assign 1 (.var 3)] [],
  .ret (.var 1)]}
noncomputable def DW:Fn:={
 names:=["rows","colours","total","row","ways","spent"],args:=2,
 body:=[
  .assign 2 (.int 0),
  .fore (.one 3) (.var 0) [.assign 4 (.int 1),.fore (.one 5) (.bi .range [.bin .Add (.bi .max1 [.var 3]) (.int 1)]) [.assign 4 (.bin .Mult (.var 4) (.bin .Sub (.var 1) (.var 5)))] [],.assign 2 (.bin .Add (.var 2) (.var 4))] [],
  .ret (.var 2)]}
noncomputable def mH:Fn:={
 names:=["roads","marks","low","high"],args:=1,
 body:=[
  .assign 1 (.list [.int 0,.int 1,.int 2,.int 3,.int 4,.int 5]),
  .fore (.two 2 3) (.var 0) [.assign 1 (.comp (.ite (.cmp .Eq (.var 4) (.idx (.var 1) (.var 2))) (.idx (.var 1) (.var 3)) (.var 4)) [(.one 4,.var 1,[])] ["mark"] [1,2,3])] [],
  .ret (.bin .Sub (.bi .lenset [.var 1]) (.int 1))]}
noncomputable def DT:Fn:={
 names:=["roads","ways","low","high","good","way","arcs","fewer","heads","staying"],args:=1,
 body:=[
  .assign 1 (.list [.list [.idx (.var 0) (.int 0)]]),
  .fore (.two 2 3) (.slice (.var 0) (some (.int 1)) none) [.assign 1 (.comp (.bin .Add (.var 10) (.list [.var 11])) [(.one 10,.var 1,[]),(.one 11,.list [.tup [.var 2,.var 3],.tup [.var 3,.var 2]],[])] ["way","arc"] [2,3])] [],
  .assign 4 (.int 0),
  .fore (.one 5) (.var 1) [.assign 6 (.var 5),.assign 7 (.bool true),.whil 100 (.var 7) [.assign 8 (.comp (.var 11) [(.two 10 11,.var 6,[])] ["low","high"] []),.assign 9 (.comp (.var 10) [(.one 10,.var 6,[.cmp .In (.idx (.var 10) (.int 0)) (.var 8)])] ["arc"] [8]),.assign 7 (.cmp .Lt (.bi .len [.var 9]) (.bi .len [.var 6])),.assign 6 (.var 9)],.ife (.cmp .Eq (.var 6) (.list [])) [.assign 4 (.bin .Add (.var 4) (.int 1))] []] [],
  .ret (.var 4)]}
noncomputable def mF:Fn:={
 names:=["bits","base"],args:=2,
 body:=[
  .ret (.bin .Add (.bin .Add (.str " ") (.call 6 [.bin .LShift (.var 0) (.var 1)])) (.str ","))]}
noncomputable def HM:Fn:={
 names:=["script","roads","shift","base","colours","octets","low","high","left","told","nets","k","rings","broken","ring","words","kept","lead","bits","nanny","tally","behind","longest","figures","width","number","above","below","quotient","rest","under","owing","rows"],args:=1,
 body:=[
  .assign 1 (.call 8 [.var 0]),
  .assign 2 (.bin .Mod (.bi .sum [.var 0]) (.int 59)),
  .assign 3 (.bin .Mod (.bi .len [.var 0]) (.int 8)),
  .assign 4 (.int 3),
  .ife (.cmp .Gt (.bi .len [.var 0]) (.int 5)) [.assign 4 (.bin .Add (.int 1) (.bin .Mod (.bi .abs [.idx (.var 0) (.int 5)]) (.bin .Pow (.int 10) (.int 30))))] [],
  .assignM 5 (.list []),
  .fore (.two 6 7) (.var 1) [.extend 5 (.list [.bin .Add (.bin .Add (.bin .Add (.var 6) (.var 2)) (.int 64)) (.bin .Mult (.int 128) (.bin .Mod (.bin .FloorDiv (.bi .len [.bor 5]) (.int 2)) (.int 2))),.bin .Add (.var 7) (.var 2)])] []]}
noncomputable def fLawB:Fn:={
 names:=["script","roads","shift","base","colours","octets","low","high","left","told","nets","k","rings","broken","ring","words","kept","lead","bits","nanny","tally","behind","longest","figures","width","number","above","below","quotient","rest","under","owing","rows"],args:=1,
 body:=[
  .ife (.cmp .NotEq (.var 9) (.comp (.list [.bin .Add (.var 34) (.var 2),.bin .Add (.var 33) (.var 2)]) [(.two 33 34,.var 1,[])] ["low","high"] [2])) [.ret (.bool false)] [],
  .assign 10 (.list [.tup [.int 0,.list []]]),
  .fore (.one 11) (.bi .range [.int 5]) [.assign 10 (.bin .Add (.var 10) (.comp (.tup [.bin .Add (.var 33) (.bin .Pow (.int 2) (.var 11)),.bin .Add (.var 34) (.idx (.var 9) (.var 11))]) [(.two 33 34,.var 10,[])] ["bits","ends"] [9,11]))] [],
  .assign 12 (.comp (.var 33) [(.two 33 34,.var 10,[.and (.cmp .Gt (.var 33) (.int 0)) (.cmp .Eq (.comp (.var 35) [(.one 35,.var 34,[.cmp .NotEq (.mt .count (.var 34) [.var 35]) (.int 2)])] ["town"] [34]) (.list []))])] ["bits","ends"] []),
  .assignM 13 (.list []),
  .fore (.one 14) (.var 12) [.assign 15 (.call 13 [.bin .Sub (.var 14) (.bin .Pow (.int 2) (.bin .Sub (.mt .bitLength (.var 14) []) (.int 1))),.var 3]),.append 13 (.bin .Add (.bin .Add (.str "...") (.mt .replace (.var 15) [.str ", ",.str ",... "])) (.str "..."))] [],
  .assignM 16 (.list [.int 0]),
  .assign 17 (.str "\t"),
  .fore (.one 11) (.bi .range [.int 5]) [.fore (.one 18) (.bi .lst [.bor 16]) [.assign 15 (.call 13 [.bin .Add (.var 18) (.bin .Pow (.int 2) (.var 11)),.var 3]),.frz 13,.ife (.cmp .Eq (.comp (.var 33) [(.one 33,.var 13,[.call 0 [.var 33,.var 15]])] ["one"] [15]) (.list [])) [.append 16 (.bin .Add (.var 18) (.bin .Pow (.int 2) (.var 11))),.assign 17 (.bin .Add (.bin .Add (.var 17) (.bin .Mult (.str " ") (.mt .count (.var 15) [.str ","]))) (.str "\t"))] []] []] [],
  .mkW 19 (.bin .Add (.var 17) (.str "x")),
  .unpack 20 21 (.attr 19 "norm"),
  .assign 22 (.methW 19),
  .assign 23 (.bin .Add (.bin .Mult (.list [.int 0]) (.bin .Sub (.int 5) (.var 22))) (.comp (.bin .Mult (.idx (.var 20) (.var 33)) (.bin .Pow (.un .USub (.int 1)) (.var 33))) [(.one 33,.bi .range [.var 22,.un .USub (.int 1),.un .USub (.int 1)],[])] ["k"] [20])),
  .assign 24 (.bin .Add (.bin .Mult (.int 5) (.mt .bitLength (.bin .Add (.var 4) (.int 1)) [])) (.int 1)),
  .assign 25 (.call 3 [.var 23,.var 24]),
  .assign 26 (.bin .Sub (.bin .Pow (.int 2) (.var 24)) (.var 4)),
  .assign 27 (.bin .Sub (.un .USub (.bin .Pow (.int 2) (.var 24))) (.var 4)),
  .unpack 28 29 (.call 5 [.var 25,.var 26]),
  .unpack 30 31 (.call 5 [.var 25,.var 27]),
  .assign 32 (.call 9 [.var 1]),
  .ife (.or (.cmp .NotEq (.var 21) (.int 0)) (.cmp .NotEq (.var 25) (.call 10 [.var 32,.bin .Pow (.int 2) (.var 24)]))) [.ret (.bool false)] [],
  .ife (.or (.cmp .NotEq (.var 29) (.call 10 [.var 32,.var 4])) (.cmp .NotEq (.bin .Add (.bin .Mult (.var 28) (.var 26)) (.var 29)) (.var 25))) [.ret (.bool false)] [],
  .ife (.or (.cmp .NotEq (.var 31) (.call 10 [.var 32,.un .USub (.var 4)])) (.cmp .NotEq (.bin .Add (.bin .Mult (.var 30) (.var 27)) (.var 31)) (.var 25))) [.ret (.bool false)] [],
  .ret (.and (.cmp .Eq (.var 22) (.bin .Sub (.int 5) (.call 11 [.var 1]))) (.cmp .Eq (.attr 19 "nt") (.bin .Mult (.int 2) (.call 12 [.var 1]))))]}
noncomputable def ftAdd(ft:FT)(i n:Nat)(f:Fn):FT:=fun j=>if j=i then some (n+1,fun ds=>f.run ft n ds) else ft j
noncomputable def ft0:FT:=fun υ=>none
noncomputable def ftPut(ft:FT)(i c:Nat)(G:List D→Option D):FT:=fun j=>if j=i then some (c,G) else ft j
noncomputable def d1{α:Type}(F:D→Option α):List D→Option α
 | []=>none
 | x::r=>match r with
  | []=>F x
  | _::_=>none
noncomputable def d2{α:Type}(F:D→D→Option α):List D→Option α
 | []=>none
 | x::r=>d1 (F x) r
noncomputable def dI{α:Type}(F:Int→Option α):D→Option α
 | .int a=>F a
 | _=>none
noncomputable def dL{α:Type}(F:List D→Option α):D→Option α
 | .list a=>F a
 | _=>none
noncomputable def dT{α:Type}(F:List D→Option α):D→Option α
 | .tuple a=>F a
 | _=>none
@[elab_as_elim] theorem d1E{α:Type}{F:D→Option α}{d:α}{G:List D→Prop}{l:List D}(h:d1 F l=some d)(k:∀x,F x=some d→G [x]):G l:=by
 cases l with
 | nil=>exact kon h
 | cons x r=>
  cases r with
  | nil=>exact k x h
  | cons y r=>exact kon h
@[elab_as_elim] theorem d2E{α:Type}{F:D→D→Option α}{d:α}{G:List D→Prop}{l:List D}(h:d2 F l=some d)(k:∀x y,F x y=some d→G [x,y]):G l:=by
 cases l with
 | nil=>exact kon h
 | cons x r=>exact d1E (G:=fun r=>G (x::r)) h (k x)
@[elab_as_elim] theorem dIE{α:Type}{F:Int→Option α}{d:α}{G:D→Prop}{x:D}(h:dI F x=some d)(k:∀a,F a=some d→G (.int a)):G x:=by
 cases x<;>first | exact kon h | exact k _ h
@[elab_as_elim] theorem dLE{α:Type}{F:List D→Option α}{d:α}{G:D→Prop}{x:D}(h:dL F x=some d)(k:∀a,F a=some d→G (.list a)):G x:=by
 cases x<;>first | exact kon h | exact k _ h
noncomputable def Cg(r:Option (Fl×St)):Option D:=r.bind fun p=>match p.1 with
 | .next=>(match p.2 with
  | []=>none
  | w::_=>match w with
   | .minst fs=>if fs.map (·.1)=wNames then some (.tuple (fs.map (·.2))) else none
   | _=>none)
 | .brk=>none
 | .ret _=>none
theorem yw{fs:List (String×D)}{rest:St}(h:fs.map (·.1)=wNames):Cg (some (.next,.minst fs::rest))=some (.tuple (fs.map (·.2))):=if_pos h
noncomputable def pH(ft:FT)(n:Nat)(f:Fn):List D→Option D:=d1 fun d=>Cg (dU ft n ([Var.minst [],.fro d]++aq (f.names.length-2) .u0) f.body)
noncomputable def FU(r:Option (Fl×St)):Option D:=r.bind fun p=>match p.1 with
 | .next=>none
 | .brk=>none
 | .ret d=>some d
noncomputable def Cb(ft:FT)(n:Nat)(f:Fn):List D→Option D:=d1 (dT fun ws=>FU (dU ft n ([Var.inst (wNames.zip ws)]++aq (f.names.length-1) .u0) f.body))
noncomputable def i2dN(a n:Nat):List Nat:=(bu ((bitLen a+n-1) / n)).map fun i=>a / 2^(n*i)%2^n
noncomputable def i2d:List D→Option D:=d2 fun x y=>dI (fun a=>dI (fun n=>if 0≤a∧a.natAbs<2^20000∧0<n∧n<1000∧(bitLen a+n.toNat-1) / n.toNat≤8 then some (.list ((i2dN a.toNat n.toNat).map fun(d:Nat)=> .int d)) else none) y) x
noncomputable def kK(n:Nat):List Int→Int
 | []=>0
 | d::r=>d+2^n*kK n r
theorem tP{n:Nat}:kK n []=(0):=rfl
theorem jy{n:Nat}{d r}:kK n (d::r)=(d+2^n*kK n r):=rfl
noncomputable def d2i:List D→Option D:=d2 fun x y=>dL (fun xs=>dI (fun n=>(gL xs).bind fun is=>if 0<n∧n<1000∧is.length≤8∧is.all (fun i=>decide (i.natAbs<2^5000)) then some (.int (kK n.toNat is)) else none) y) x
theorem DB{a n:Int}:i2d [.int a,.int n]=if 0≤a∧a.natAbs<2^20000∧0<n∧n<1000∧(bitLen a+n.toNat-1) / n.toNat≤8 then some (.list ((i2dN a.toNat n.toNat).map fun(d:Nat)=> .int d)) else none:=rfl
theorem d2i_mk{xs:List D}{n:Int}:d2i [.list xs,.int n]=(gL xs).bind fun is=>if 0<n∧n<1000∧is.length≤8∧is.all (fun i=>decide (i.natAbs<2^5000)) then some (.int (kK n.toNat is)) else none:=rfl
noncomputable def ftA:FT:=ftPut (ftPut ft0 2 40 i2d) 3 40 d2i
noncomputable def ftB:FT:=ftAdd (ftAdd (ftAdd ftA 0 40 AI) 1 20 B0) 6 40 DU
noncomputable def ftC:FT:=ftAdd (ftAdd ftB 13 60 mF) 4 60 DV
noncomputable def ftD:FT:=ftAdd (ftAdd (ftAdd ftC 5 80 tA) 5 90 tA) 5 100 tA
noncomputable def ftE:FT:=ftAdd (ftAdd (ftAdd (ftAdd (ftAdd ftD 8 40 mG) 9 40 DS) 10 40 DW) 11 40 mH) 12 40 DT
noncomputable def ftL:FT:=ftPut (ftPut ftE 20 42 (pH ft0 40 j5)) 21 41 (Cb ft0 40 nW)
end Pw
end
section
open PySem PySem.W PyProof.Rows PySem.Calls
set_option maxRecDepth 4000
namespace Pw
section
variable {P:Pm}{wc:Addr}{ft:FT}{n:Nat}
theorem FnOk.add(F:Facts P wc)(O:FnOk P wc ft)(Mk:MkOk P wc ft){f:Fn}{i:Nat}{nm:String}{a:Addr}{sc:Scope}{body:List Stmt}(K:FnAt P f a sc body)(hm:P.mg (aa nm)=some (.ref a))(hi:j3 i=some nm):
  FnOk P wc (ftAdd ft i n f):=by
 refine⟨fun j c G nm' hj hn=>?_,fun c G h=>?_⟩
 ·unfold ftAdd at hj
  split at hj
  ·rename_i e
   subst e
   cases hj
   rw[hi]at hn; cases hn
   refine gw K.ex fun o fd ho hdata _=>?_
   exact⟨br _,a,hm,⟨o,fd,ho,hdata⟩,fun{A Z s vs ds d} R ok r hd=>we F O Mk K R ok r hd⟩
  ·exact O.fn j c G nm' hj hn
 ·unfold ftAdd at h
  split at h
  ·rename_i e
   subst e
   cases hi
  ·exact O.run c G h
theorem MkOk.add(Mk:MkOk P wc ft){f:Fn}{i:Nat}(hi:i≠20):MkOk P wc (ftAdd ft i n f):=
 ⟨Mk.cw,fun c G h=>Mk.made c G (by unfold ftAdd at h; rw[if_neg (fun e=>hi e.symm)]at h; exact h),Mk.set⟩
end
section
variable {P:Pm}{wc:Addr}{Z Z' Z1:Heap}{s s':Shared}{A:Around}{ft:FT}{n:Nat}
end
structure ClsAt(P:Pm)(wc fI:Addr):Prop where
 makes:Makes P.M P.g0 wc
 init:Looks P.M P.g0 (typeLookup (.ref wc) "__init__") (some (.ref fI))
 bnd:∀self,Looks P.M P.g0 (bindSpecial (.ref fI) self) (.ref fI,[self])
theorem nH{M:Model}{h h':Heap}{C:Addr}(x:Makes M h C)(k:Le h h'):Makes M h' C:=
 ⟨by obtain⟨oc,od,cd,sl,e,r⟩:=x.obj; exact⟨oc,od,cd,sl,k _ _ e,r⟩,x.made.keeps k,x.base.keeps k,x.self.keeps k,x.top.keeps k,x.call.keeps k,x.typ.keeps k⟩
section
variable {P:Pm}{wc:Addr}{Z Z' Z1:Heap}{s s':Shared}{A:Around}{ft:FT}{n:Nat}
noncomputable def Pm.at(P:Pm)(x:Addr):Pm:={P with me:=x}
theorem Facts.at(F:Facts P wc)(x:Addr):Facts (P.at x) wc:=⟨F.ell,F.lim,F.cls,F.clsS,F.clsT,F.bi,F.flg,F.get⟩
theorem Ok.at(x:Addr)(k:Ok P Z s):Ok (P.at x) Z s:=⟨k.z,k.g,k.zT,k.tab,k.gens,k.os,k.tk⟩
theorem Go.back{x:Addr}(g:Go (P.at x) Z s Z' s'):Go P Z s Z' s':=⟨⟨g.ok.z,g.ok.g,g.ok.zT,g.ok.tab,g.ok.gens,g.ok.os,g.ok.tk⟩,g.le,g.keep,g.fresh⟩
theorem FnAt.at{f:Fn}{a:Addr}{sc:Scope}{body:List Stmt}(K:FnAt P f a sc body)(x:Addr):FnAt (P.at x) f a sc body:=⟨K.ex,K.fr,K.ck⟩
theorem FnOk.zero:FnOk P wc ft0:=⟨fun υ υ υ υ h=>(nomatch h),fun υ υ h=>(nomatch h)⟩
structure SetOk(P:Pm)(wc:Addr):Prop where
 cw:∀{A:Around} {s:Shared} {pos:Pos} {ts:List (Sem Value)} {Q:Value→Shared→Prop} {E:Value→Shared→Prop},Le P.g0 s.heap→
  wpAny P.M A (spliced (ts.map fun t=>(false,t))) (fun vs s1=>Le P.g0 s1.heap∧wpAny P.M A (call (.ref wc) vs) Q E s1) E s→wpAny P.M A (callWith pos (.ref wc) [] (ts.map fun t=>(false,t)) []) Q E s
 set:∀{A:Around} {Z:Heap} {s:Shared} {x dx:Addr} {fs:List (String×D)} {nm:String} {v:Value} {d:D} {Q:Unit→Shared→Prop} {E:Value→Shared→Prop} {n:Nat},Room A n→Le P.g0 s.heap→jA wc Z s.heap x dx fs→fs.lookup nm=none→nm∈wNames→Rep Z v d→
  (∀h' k,Heap.SameBut dx s.heap h'→jA wc Z h' x dx (fs++[(nm,d)])→Q () {s with heap:=h',toks:=k})→wpAny P.M A (setAttr (.ref x) (aa nm) v) Q E s
theorem MkOk.zero(T:SetOk P wc):MkOk P wc ft0:=⟨T.cw,fun υ υ h=>(nomatch h),T.set⟩
theorem SetOk.at(T:SetOk P wc)(x:Addr):SetOk (P.at x) wc:=⟨T.cw,T.set⟩
theorem ux{α β:Type}(l:List (α×β)):l=(l.map (·.1)).zip (l.map (·.2)):=by
 induction l with
 | nil=>rfl
 | cons p l ih=>exact congrArg (p::·) ih
theorem Gh{G:Option (Fl×St)→Prop}{r:Option (Fl×St)}{d:D}(h:Cg r=some d)(k:∀fs rest,fs.map (·.1)=wNames→PyData.tuple (fs.map (·.2))=d→G (some (.next,.minst fs::rest))):G r:=by
 cases r with
 | none=>exact kon h
 | some p=>
  cases p with
  | mk fl σ=>
   cases fl with
   | next=>
    cases σ with
    | nil=>exact kon h
    | cons w rest=>
     cases w with
     | minst fs=>
      have h:(if fs.map (·.1)=wNames then some (PyData.tuple (fs.map (·.2))) else none)=some d:=h
      by_cases e:fs.map (·.1)=wNames
      ·exact k fs rest e (ax.inj ((if_pos e).symm.trans h))
      ·exact kon ((if_neg e).symm.trans h)
     | _=>exact kon h
   | _=>exact kon h
theorem qw{ft:FT}{m:Nat}{f:Fn}{d a1 a2 a3 a4 a5:D}(h:pH ft m f [d]=some (.tuple [a1,a2,a3,a4,a5])):
  ∃rest,dU ft m ([Var.minst [],.fro d]++aq (f.names.length-2) .u0) f.body=some (.next,.minst [("raw",a1),("n",a2),("nt",a3),("norm",a4),("is_simple",a5)]::rest):=by
 have h:Cg (dU ft m ([Var.minst [],.fro d]++aq (f.names.length-2) .u0) f.body)=some (.tuple [a1,a2,a3,a4,a5]):=h
 refine Gh (G:=fun r=>∃rest,r=some (Fl.next,.minst [("raw",a1),("n",a2),("nt",a3),("norm",a4),("is_simple",a5)]::rest)) h fun fs rest e h=>?_
 have e:fs=[("raw",a1),("n",a2),("nt",a3),("norm",a4),("is_simple",a5)]:=by
  rw[ux fs,e,PyData.tuple.inj h]; rfl
 exact⟨rest,by rw[e]⟩
theorem vS{d:D}{k i:Nat}{ds:List D}(q:([Var.minst [],.fro d]++aq k .u0:St)[i]? =some (.mut ds)):False:=by
 refine(lF q).elim (fun q=>?_) fun q=>by cases q
 cases i with
 | zero=>cases q
 | succ i=>cases i<;>cases q
theorem mY(F:Facts P wc)(T:SetOk P wc){f:Fn}{fI:Addr}{sc:Scope}{body:List Stmt}(K:FnAt P f fI sc body)(C:ClsAt P wc fI)(h2:f.args=2)(h2':2≤f.names.length)
  (R:Room A (n+2)) (ok:Ok P Z s) {v:Value} {d a1 a2 a3 a4 a5:D} (rv:Rep Z v d) (hd:pH ft0 n f [d]=some (.tuple [a1,a2,a3,a4,a5])) {Q:Value→Shared→Prop} {E:Value→Shared→Prop}
  (h:∀y dx s' Z',Go P Z s Z' s'→jA wc Z' Z' y dx [("raw",a1),("n",a2),("nt",a3),("norm",a4),("is_simple",a5)]→Q (.ref y) s'):wpAny P.M A (call (.ref wc) [v]) Q E s:=by
 obtain⟨hh,g,dr,t,os⟩:=s
 have Y:=nH C.makes ok.g0
 refine wpAny_call (make_core (rest:=[v]) (kw:=[]) Y (C.init.keeps ok.g0) (fun self=>(C.bnd self).keeps ok.g0) (.inl rfl) ?_)
 generalize hx:hh.objs.size+1=x
 have okx:Ok (P.at x) Z ⟨hh,g,dr,t,os⟩:=ok.at x
 have g1:Go (P.at x) Z ⟨hh,g,dr,t,os⟩ Z ⟨hh.push emptyDict,g,dr,t,os⟩:=Go.push' okx emptyDict
 have g2:Go (P.at x) Z ⟨hh.push emptyDict,g,dr,t,os⟩ Z ⟨(hh.push emptyDict).push (instObj wc hh.objs.size),g,dr,t,os⟩:=Go.push' g1.ok _
 have g12:=g1.trans g2
 have e1:((hh.push emptyDict).push (instObj wc hh.objs.size)).get? x=some (instObj wc hh.objs.size):=by
  have:=aJ (h:=hh.push emptyDict) (o:=instObj wc hh.objs.size) rfl
  rw[df,hx]at this; exact this
 have e2:((hh.push emptyDict).push (instObj wc hh.objs.size)).get? hh.objs.size=some (dictOf [] 0):=aU _ (aJ _ rfl)
 have f2:hh.get? hh.objs.size=none:=get?_size hh
 have fx:hh.get? x=none:=by
  cases q:hh.get? x with
  | none=>rfl
  | some o=>exact absurd (cQ q) (by rw[←hx]; exact eM.mpr (eE _))
 obtain⟨rest,hrun⟩:=qw hd
 have R':Room (A.under (.builtin "type.__call__" ⟨.ref wc::[v],[]⟩)) (n+1):=⟨R.hd,by have:=R.depth; show A.depth+1+(n+1)<_; exact IM this,by have:=R.units; show A.units+1+8*(n+1)+80<_; exact IL this⟩
 refine lO (F.at x) FnOk.zero (MkOk.zero (T.at x)) (K.at x) R' g12.ok (b:=⟨hh,Z⟩) g12.keep (.refl _) (fun υ υ e=> .inl e) (fun c hc=>?_) (vs:=[.ref x,v]) h2.symm (nq (pre:=[Var.minst [],.fro d]) rfl h2') (fun i ds q=>vS q) (fun L h₁ hL hle i=>rg (pre:=[Var.minst [],.fro d]) h2.symm (fun i w e u hu=>?_) i) hrun fun flw s' Z' ad' env' hr hl S'=>?_
 ·cases q:hh.get? c with
  | none=>rfl
  | some o=>rw[aU _ (aU _ q)]at hc; cases hc
 ·cases i with
  | zero=>
   refine ax.inj e▸ax.inj hu▸⟨x,hh.objs.size,rfl,⟨hle _ _ e1,[],0,hle _ _ e2,fun nm=>rfl,bL _,List.nodup_nil,fun p hp=>by cases hp⟩,ok.znone f2,f2,fun q=>?_,rfl⟩
   rw[←q,e2]at hL; cases hL
  | succ i=>
   cases i with
   | zero=>exact ax.inj e▸ax.inj hu▸⟨_,rfl,rv⟩
   | succ i=>cases e
 ·
  cases flw with
  | next=>
   have hn0:∃y,f.nms[0]? =some (some y):=by
    unfold Fn.nms
    rw[aW,aR (by exact bz (by assumption))]
    exact⟨_,rfl⟩
   obtain⟨y,hy⟩:=hn0
   obtain⟨ov,r,υ⟩:=S'.slot (A:={}) hy
   obtain⟨x',dx,υ,r,hz,hB,υ,hme⟩:=r
   have hxx:x'=x:=hme
   subst hxx
   obtain⟨q1,es,m,q2,q3⟩:=id r
   have gs:=(SR.toGo (s0:=⟨hh,g,dr,t,os⟩) S').back
   have gall:Go P Z ⟨hh,g,dr,t,os⟩ Z' s':=⟨gs.ok,gs.le,fun c o hc e=>gs.keep c o hc e,gs.fresh⟩
   have hdT:dx∉P.T:=gall.ok.notT q2 (.inl nofun)
   have hxT:x'∉P.T:=gall.ok.notT q1 (.inl nofun)
   have gd:=gall.freeze q2 hB hz hdT
   have led:=dY (o:=dictOf es m) hz
   have fin:∀Z2,Go P Z ⟨hh,g,dr,t,os⟩ Z2 s'→Le Z' Z2→Z2.get? dx=some (dictOf es m)→Z2.get? x'=some (instObj wc dx)→Q (.ref x') s':=fun Z2 g2 le2 k1 k2=>
    h x' dx s' Z2 g2 (r.mono le2 (k2.trans q1.symm) (k1.trans q2.symm))
   have hd2:(hput Z' dx (dictOf es m)).get? dx=some (dictOf es m):=cM rfl
   refine⟨rfl,?_⟩
   refine(?_:Q (.ref x') s')
   cases qx:(hput Z' dx (dictOf es m)).get? x' with
   | some o=>
    have:=gd.ok.z _ _ qx
    rw[q1]at this; cases this
    exact fin _ gd led hd2 qx
   | none=>
    have gx:=gd.freeze q1 fx qx hxT
    have lex:=dY (o:=instObj wc dx) qx
    exact fin _ gx (led.trans lex) (lex _ _ hd2) (cM rfl)
  | _=>exact hr.elim
end
section
variable {P:Pm}{wc:Addr}{Z Z' Z1:Heap}{s s':Shared}{A:Around}{ft:FT}{n:Nat}
theorem l5:∀{l:List String} {fs:List (String×D)},fs.map (·.1)=l→l.zip (fs.map (·.2))=fs
 | _,[],h=>by subst h; rfl
 | _,(a,b)::r,h=>by subst h; simp only[aB,List.zip_cons_cons]; rw[l5 rfl]
theorem uB{r:Option (Fl×St)}{d:D}(h:FU r=some d):∃σ,r=some (.ret d,σ):=by
 cases r with
 | none=>exact kon h
 | some p=>
  cases p with
  | mk fl σ=>
   cases fl with
   | ret v=>exact⟨σ,by rw[ax.inj (show some v=some d from h)]⟩
   | _=>exact kon h
theorem pG(F:Facts P wc)(O:FnOk P wc ft)(Mk:MkOk P wc ft){f:Fn}{a:Addr}{sc:Scope}{body:List Stmt}(K:FnAt P f a sc body)(h2:f.args=1)(h2':1≤f.names.length)
  (R:Room A (n+1)) (ok:Ok P Z s) {x dx:Addr} {fs:List (String×D)} (r:jA wc Z Z x dx fs) (hn:fs.map (·.1)=wNames) {d:D} (hd:Cb ft n f [.tuple (fs.map (·.2))]=some d):Gv P A Z s (call (.ref a) [.ref x]) d:=by
 intro Q E h
 have hd:FU (dU ft n ([Var.inst (wNames.zip (fs.map (·.2)))]++aq (f.names.length-1) .u0) f.body)=some d:=hd
 rw[l5 hn]at hd
 generalize hσ:([Var.inst fs]++aq (f.names.length-1) .u0:St)=σ at hd
 refine dh (uB hd) fun σ2 hrun=>?_
 subst hσ
 refine wpAny_call (lO F O Mk K R ok (b:=⟨s.heap,Z⟩) (.refl _ _) (.refl _) (fun υ υ e=> .inl e) (fun c hc=>hc) (vs:=[.ref x]) h2.symm (nq (pre:=[Var.inst fs]) rfl h2') (fun i ds q=>?_) (fun L h₁ hL hle i=>rg (pre:=[Var.inst fs]) h2.symm (fun i w e v hv=>?_) i) hrun fun flw s' Z' ad' env' hr hl S'=>?_)
 ·refine(lF q).elim (fun q=>?_) fun q=>by cases q
  cases i<;>cases q
 ·cases i with
  | zero=>exact ax.inj e▸ax.inj hv▸⟨x,dx,rfl,r⟩
  | succ i=>cases e
 ·cases flw with
  | ret v=>exact h v s' Z' (SR.toGo (s0:=s) S') hr
  | _=>exact hr.elim
end
structure GoX(X:Addr)(P:Pm)(Z:Heap)(s:Shared)(Z':Heap)(s':Shared):Prop where
 ok:Ok P Z' s'
 le:Le Z Z'
 keep:∀c o,c∉P.T→c≠X→s.heap.get? c=some o→s'.heap.get? c=some o
 fresh:∀a o,Z'.get? a=some o→Z.get? a=some o∨s.heap.get? a=none
 zx:Z'.get? X=none
section
variable {P:Pm}{wc:Addr}{sc:Scope}{env:Env}{ns:Nms}{own:Nat}{b:Bs}{Z Z' Z'':Heap}{σ:St}{ad:Nat→Addr}{s s' s'':Shared}{X:Addr}
theorem Go.toX(g:Go P Z s Z' s')(h:Z'.get? X=none):GoX X P Z s Z' s':=⟨g.ok,g.le,fun c o hc υ e=>g.keep c o hc e,g.fresh,h⟩
theorem GoX.trans(x:GoX X P Z s Z' s')(y:GoX X P Z' s' Z'' s'')(hX:∃o,s.heap.get? X=some o)(hT:X∉P.T):GoX X P Z s Z'' s'':=by
 refine⟨y.ok,x.le.trans y.le,fun c o hc hx e=>y.keep c o hc hx (x.keep c o hc hx e),fun a o e=>?_,y.zx⟩
 rcases y.fresh a o e with q | q
 ·exact x.fresh a o q
 ·refine .inr ?_
  cases h:s.heap.get? a with
  | none=>rfl
  | some o'=>
   by_cases hA:a=X
   ·rw[hA,y.zx]at e; cases e
   ·by_cases hT:a∈P.T
    ·rw[y.ok.zT a hT]at e; cases e
    ·rw[x.keep a o' hT hA h]at q; cases q
theorem SR.goX(S:SR P wc sc env ns own b Z σ ad s)(L:Loose ns b Z σ ad s.heap X)(g:GoX X P Z s Z' s')(hX':∃o,s'.heap.get? X=some o∧eQ o):SR P wc sc env ns own b Z' σ ad s'∧Loose ns b Z' σ ad s'.heap X:=by
 refine bq L.ob fun o ho p=>?_
 refine bq hX' fun o' ho' p'=>?_
 have hT:X∉P.T:=S.ok.notT ho (.inl p.notNone)
 have hf:o.isFreed=false:=(ba.mp ho).2
 have hs:Heap.SameBut X s'.heap (s'.heap.update X fun υ=>o):=Heap.SameBut.update ..
 have hx:(s'.heap.update X fun υ=>o).get? X=some o:=dS (fun υ=>o) ho' hf
 have ok1:Ok P Z' {s' with heap:=s'.heap.update X fun υ=>o}:=
  ⟨fun c oc e=>(hs.2 c (fun q=>by rw[q,g.zx]at e; cases e)).trans (g.ok.z c oc e),g.ok.g,g.ok.zT,P.to1 g.ok.tab (.refl _) (fun t ht=>hs.2 t fun q=>hT (by rw[←q]; exact ht)),g.ok.gens,g.ok.os,g.ok.tk⟩
 have g1:Go P Z s Z' {s' with heap:=s'.heap.update X fun υ=>o}:=by
  refine⟨ok1,g.le,fun c oc hc e=>?_,g.fresh⟩
  by_cases q:c=X
  ·subst q; rw[ho]at e; cases e; exact hx
  ·exact(hs.2 c q).trans (g.keep c oc hc q e)
 have S1:=S.go g1
 have L1:Loose ns b Z' σ ad (s'.heap.update X fun υ=>o) X:=⟨⟨o,hx,p⟩,L.bn,g.zx,L.na⟩
 have S2:=S1.looseChange L1 (h':=s'.heap) (tk:=s'.toks) (fun c oc hc e=>(hs.2 c hc).symm.trans e) g.ok.tk
 exact⟨S2,⟨⟨o',ho',p'⟩,L.bn,g.zx,L.na⟩⟩
end
noncomputable def jz(Z h:Heap)(T:Addr)(pos:Pos)(qual:Str):Prop:=
 h.get? T=some (tabObj #[])∨∃c',h.get? T=some (tabObj #[rawInt pos.line,rawInt pos.col,.ref c'])∧Z.CodeRec (.ref c') qual
structure NestAt(P:Pm)(c T:Addr)(pos:Pos)(qual:Str):Prop where
 hd:CodeHd P.g0 c T
 mem:T∈P.T
 get:∀{Z h},P.TO Z h→jz Z h T pos qual
 put:∀{Z Z' h h'},P.TO Z h→Le Z Z'→jz Z' h' T pos qual→(∀t∈P.T,t≠T→h'.get? t=h.get? t)→P.TO Z' h'
 bi:P.g0.BuiltinsAt P.mg T
 ne:aX≠T
section
variable {P:Pm}{wc:Addr}{Z Z' Z1:Heap}{s s':Shared}{A:Around}{ft:FT}{n:Nat}
theorem pA{h h':Heap}{mg:Str→Option Value}{T:Addr}(x:h.BuiltinsAt mg T)(k:Le h h'):h'.BuiltinsAt mg T:=
 by obtain⟨bm,o,a1,a2,a3,a4,a5,r⟩:=x; exact⟨bm,o,a1,a2,a3,a4,k _ _ a5,r⟩
theorem sd{env:Env}{c T:Addr}{pos:Pos}{qual name:Str}{params:Arguments}{body:List Stmt}{scope:Scope}{clos:List (Str×Addr)}{firstLine:Nat}(N:NestAt P c T pos qual)(ok:Ok P Z s)
  (hcl:closureFor scope env=pure clos) (hge:env.globals=aX) (hcode:env.code= .ref c) {Q:Value→Shared→Prop} {E:Value→Shared→Prop}
  (h:∀f cv ctv doc s' Z',Go P Z s Z' s'→s.heap.get? f=none→Z'.get? f=some {cls:= .type "function",data:= .func (fnX name qual params body scope clos .none .none doc ((P.mg "__name__").getD .none) none cv ctv)}→
   Z'.CodeRec cv qual→Q (.ref f) s'):wpAny P.M A (makeFunction name qual params (.stmts body) scope env [] [] [] pos firstLine) Q E s:=by
 have gone:∀c,s.heap.objs.size≤c→s.heap.get? c=none:=fun c hc=>by
  cases q:s.heap.get? c with
  | none=>rfl
  | some o=>exact absurd (cQ q) (eM.mpr hc)
 have offT:∀c,s.heap.objs.size≤c→c∉P.T:=fun c hc ht=>by
  refine bq (P.to2 ok.tab c ht) fun o e υ=>?_
  rw[gone c hc]at e; cases e
 have fin:∀{s1:Shared} {Z1:Heap} {o:Obj},Go P Z s Z1 s1→s.heap.objs.size≤s1.heap.objs.size→(∃fd,o.data= .func fd)→
   ∃Z2,Go P Z s Z2 {s1 with heap:=s1.heap.push o}∧Z2.get? s1.heap.objs.size=some o∧Le Z1 Z2:=fun{s1 Z1 o} g hsz ⟨fd,hfd⟩=>by
  have hfr:o.isFreed=false:=by cases o; subst hfd; rfl
  have hz:=g.ok.znone (get?_size s1.heap)
  refine Ae _ ((g.trans (Go.push' g.ok o)).freeze (aJ _ hfr) (gone _ hsz) hz (offT _ hsz)) (cM hfr) (dY hz)
 rcases N.get ok.tab with hP | ⟨c',hP,hrec⟩
 ·refine wpAny_with_toks (n:=1) ok.tk (makeFunction_K hcl hge (P.hg.keeps ok.g0) hcode (N.hd.keeps ok.g0) hP trivial rfl N.ne (pA N.bi ok.g0) fun c' ctv doc h' tk hx hge hlt hrec hP' htk=>?_)
  refine x4_4 hrec fun c2 oc vs t e1 e2 e3 e4=>?_
  cases e1
  have hfr:oc.isFreed=false:=(ba.mp e2).2
  have hz:=ok.znone (gone _ hge)
  have hleZ:Le Z h':=fun b o e=>hx b o (fun q=>by rw[q,ok.zT T N.mem]at e; cases e) (ok.z _ _ e)
  have hrec':(hput Z c' oc).CodeRec (.ref c') qual:=⟨c',oc,vs,t,rfl,cM hfr,e3,e4⟩
  have g1:Go P Z s (hput Z c' oc) {s with heap:=h',toks:=tk}:=by
   refine⟨⟨lN hleZ e2,ok.g.trans (dY hz),fun t ht=>?_,N.put ok.tab (dY hz) (.inr ⟨c',hP',hrec'⟩) fun t ht hne=>?_,ok.gens,ok.os,htk⟩,dY hz,fun b o hb e=>hx b o (fun q=>hb (by rw[q]; exact N.mem)) e,fun b o e=>?_⟩
   ·rw[cD (fun q=>offT _ hge (by rw[←q]; exact ht))]; exact ok.zT t ht
   ·refine bq (P.to2 ok.tab t ht) fun o e υ=>?_
    rw[e]; exact hx t o hne e
   ·by_cases hb:b=c'
    ·rw[hb]; exact .inr (gone _ hge)
    ·rw[cD hb]at e; exact .inl e
  have hsz:s.heap.objs.size≤h'.objs.size:=bz (az hge hlt)
  refine mX (fin (o:={cls:= .type "function",data:= .func (fnX name qual params body scope clos .none .none doc ((P.mg "__name__").getD .none) none (.ref c') ctv)}) g1 hsz ⟨_,rfl⟩) fun Z2 g2 h2 l2=>?_
  exact h _ _ ctv doc _ Z2 g2 (gone _ hsz) h2 (hrec'.keeps l2)
 ·refine wpAny_with_toks (n:=1) ok.tk (makeFunction_hit (cv:= .ref c') hcl hge (P.hg.keeps ok.g0) hcode (N.hd.keeps ok.g0) hP (by simp[TriplesOk,rawInt]) (by simp[codeAmong,rawInt]) (pA N.bi ok.g0) fun ctv doc h' tk hx hsz htk=>?_)
  have g1:Go P Z s Z {s with heap:=h',toks:=tk}:=Go.of_le ok hx htk
  refine mX (fin (o:={cls:= .type "function",data:= .func (fnX name qual params body scope clos .none .none doc ((P.mg "__name__").getD .none) none (.ref c') ctv)}) g1 hsz ⟨_,rfl⟩) fun Z2 g2 h2 l2=>?_
  exact h _ _ ctv doc _ Z2 g2 (gone _ hsz) h2 (hrec.keeps (g1.le.trans l2))
end
noncomputable def k6(fr args rest:List String)(sc:Scope):Bool:=
 decide ((fr++args++rest).map aa).Nodup&&(fr.all fun x=>sc.names.lookup (aa x)==some .free)&&((args++rest).all fun x=>sc.names.lookup (aa x)==some .local)&&
 ((fr++args++rest).all fun x=>(!(aa x==("__debug__":Str)))&&(!(aa x==("__classdict__":Str))))&&(sc.names.all fun p=>p.2 != .cell)&&
 decide (sc.kind= .function)&& !sc.isCoroutine&& !sc.isGenerator
section
variable {P:Pm}{wc:Addr}{sc:Scope}{env:Env}{ns:Nms}{own:Nat}{b:Bs}{Z Z' Z1:Heap}{σ:St}{ad:Nat→Addr}{s s':Shared}{A:Around}{ft:FT}{n:Nat}
theorem qc{f:Addr}{o:Obj}{fd:FuncData}{body:List Stmt}{fr args rest:List String}{clos:List (Str×Addr)}{vs:List Value}{ds:List D}{σf:St}{B:Heap}(R:Room A (n+1))(ok:Ok P Z s)
  (ho:s.heap.get? f=some o) (hdata:o.data= .func fd) (hcd:s.heap.CodeRec fd.code fd.qualname) (hbody:fd.body= .stmts body) (hsc:fd.scope=sc) (hclo:fd.closure=clos) (hglob:fd.globals=aX) (hblt:fd.builtins=cE)
  (hbind:bindArgs fd ⟨vs,[]⟩=pure ((args.map aa).zip vs)) (hvl:vs.length=args.length) (ck:k6 fr args rest sc=true)
  (hB:LeX P.T B s.heap) (hBf:∀c,s.heap.get? c=none→B.get? c=none) (hσl:σf.length=fr.length) (hσm:∀(i:Nat) ds,σf[i]? ≠some (.mut ds))
  (hcells:∀(i:Nat) x,fr[i]? =some x→∃c ov,clos.lookup (aa x)=some c∧s.heap.IsCell c ov∧(∀L h₁ a,VR P wc L B Z h₁ a σf[i]? ov)∧B.get? c≠none)
  (r:RepAll Z vs ds) {RR:Result→Shared→Prop}
  (k:∀env s₁,SR P wc sc env (names (fr++args++rest)) fr.length ⟨B,Z⟩ Z (σf++ds.map .fro++aq rest.length .u0) (fun i=>i) s₁→Go P Z s Z s₁→Room (A.deeper env) n→env.cells=clos→
   wpAny P.M (A.deeper env) (execs body env) (fun fl s'=>RR (.ok (.ret (match fl with | .ret v=>v | _=> .none))) s')
    (fun e s'=>wpAny P.M (A.deeper env) (leaving env e) (fun υ s''=>RR (.error e) s'') (fun e' s''=>RR (.error e') s'') s') s₁):codeAny P.M A (.call (.ref f) ⟨vs,[]⟩) RR s:=by
 unfold k6 at ck
 simp only[aV,decide_eq_true_eq,bh,fc,beq_iff_eq,bne_iff_ne]at ck
 refine fu ck fun w48_1 hge=>?_; obtain⟨⟨⟨⟨⟨⟨hnd,hfree⟩,hloc⟩,hdd⟩,hcell⟩,hkf⟩,hco⟩:=w48_1
 have hbn:(((args.map aa).zip vs):List (Str×Value)).map (·.1)=args.map aa:=by
  rw[ti,hvl,←ag (f:=aa),List.take_length]
 have hbnd:((((args.map aa).zip vs):List (Str×Value)).map (·.1)).Nodup:=by
  rw[hbn]
  refine hnd.sublist ?_
  rw[aZ,aZ,bo]
  exact(List.sublist_append_left _ _).trans (List.sublist_append_right _ _)
 have hds:ds.length=args.length:=by rw[←hvl,r.length]
 refine codeAny_call_def (fd:=fd) (binds:=(args.map aa).zip vs) (az (aA _ _) R.depth) ho hdata (P.hlim.keeps ok.g0) hcd hbody (BindsTo.of_eq hbind) (fun x hx=>hcell x (by rw[←hsc]; exact hx)) (fun x hx=>?_) (fun h₀ hns hk₁=>?_)
  (by rw[hsc]; exact hco) (by rw[hsc]; exact hge) (by rw[hsc]; exact hkf)
 ·have:x.1∈(((args.map aa).zip vs):List (Str×Value)).map (·.1):=List.mem_map_of_mem hx
  rw[hbn]at this
  refine bq (bg.mp this) fun y hy e=>?_
  rw[hsc,←e]
  exact hloc y (cV _ hy)
 ·generalize he:callEnv fd s.heap.objs.size f=env
  have hscope:env.scope=sc:=by rw[←he,←hsc]; rfl
  have hloc':env.locals=s.heap.objs.size:=by rw[←he]; rfl
  have hcells':env.cells=clos:=by rw[←he,←hclo]; rfl
  have hko:∀y,env.kindOf y=sc.names.lookup y:=fun y=>by unfold Env.kindOf; rw[hscope]
  have g:Go P Z s Z {s with heap:=h₀,toks:=s.toks+((args.map aa).zip vs).length}:=Go.of_le ok hk₁ (aK ok.tk (aA _ _))
  have beyond:∀c,s.heap.objs.size≤c→s.heap.get? c=none:=fun c hc=>by
   cases q:s.heap.get? c with
   | none=>rfl
   | some o=>exact absurd (cQ q) (eM.mpr hc)
  refine k env _ ?_ g ⟨R.hd,by have:=R.depth; show A.depth+1+n<_; exact BK this,by have:=R.units; show A.units+3+8*n+80<_; exact Lb this⟩ hcells'
  have lenf:(σf++ds.map Var.fro).length=(fr++args).length:=by simp[hσl,hds]
  have kinds:∀(i:Nat) (y:Str),(names (fr++args++rest))[i]? =some (some y)→(i<fr.length∧∃z,fr[i]? =some z∧y=aa z∧sc.names.lookup y=some .free)∨(fr.length≤i∧sc.names.lookup y=some .local):=fun i y hy=>by
   refine bq (gA hy) fun z hz e77_1=>?_; subst e77_1
   rcases bS i fr.length with hi | hi
   ·rw[bo,cn hi]at hz
    exact .inl ⟨hi,z,hz,rfl,hfree z (bD hz)⟩
   ·rw[bo,bM hi]at hz
    exact .inr ⟨hi,hloc z (bD hz)⟩
  have nomut:∀(i:Nat) es,(σf++ds.map Var.fro++aq rest.length .u0:St)[i]? ≠some (.mut es):=fun i es h=>by
   rcases bS i σf.length with hi | hi
   ·rw[bo,cn hi]at h
    exact hσm i es h
   ·rw[bo,bM hi]at h
    have:=bD h
    rcases dm.mp this with q | q
    ·obtain⟨υ,υ,e⟩:=bg.mp q; cases e
    ·have:=List.eq_of_mem_replicate q; cases this
  refine⟨g.ok,by rw[hscope]; exact hkf,by rw[←he]; exact hglob,by rw[←he]; exact hblt,fun y hy=>by rw[hko]; exact hy,fun c oc hc e=>hk₁ _ _ (hB c oc hc e),.refl _,fun υ υ e=> .inl e,by rw[hloc']; exact ok.znone (get?_size _),by rw[hloc']; exact hBf _ (get?_size _),
   ⟨_,by rw[hloc']; exact hns,fun i y hy hk=>?_⟩,fun i y hy=>?_,fun i y hy ho=>?_,oU hnd,?_,fun i j ds1 es1 h1 υ=>absurd h1 (nomut i ds1),fun i y hy=>?_,?_,fun y hy=>by rw[hko]; exact hy,fun y hy=>by rw[hko]; exact hy⟩
  ·
   rw[hko]at hk
   rcases kinds i y hy with⟨_,z,_,_,q⟩ | ⟨hi,_⟩
   ·rw[q]at hk; cases hk
   ·refine bq (gA hy) fun z hz e1_1=>?_; subst e1_1
    rcases bS i (fr++args).length with hia | hia
    ·rw[cn (by rw[lenf]; exact hia),bM (by rw[hσl]; exact hi),aW]
     rw[cn hia,bM hi]at hz
     rw[hσl]
     have hj:i-fr.length<ds.length:=by rw[hds]; rw[ak]at hia; exact aq29 hia hi
     rw[aR hj]
     refine bq (r.get (i-fr.length) (aR hj)) fun v hv rv=>?_
     refine⟨v,ju (by rw[List.map_reverse]; exact(List.reverse_perm _).nodup_iff.mpr hbnd) (List.mem_reverse.mpr (bD (i:=i-fr.length) ?_)),rv⟩
     rw[List.getElem?_zip_eq_some]
     exact⟨by rw[aW,hz]; rfl,hv⟩
    ·rw[bM (by rw[lenf]; exact hia)]
     cases e:(aq rest.length Var.u0)[i-(σf++ds.map Var.fro).length]? with
     | none=>trivial
     | some w=>rw[List.eq_of_mem_replicate (bD e)]; trivial
  ·rcases kinds i y hy with⟨hi,z,hz,rfl,q⟩ | ⟨hi,q⟩
   ·refine x2_4 (hcells i z hz) fun c ov h1 h2 h3 h4=>?_
    refine .inr ⟨.inr (by rw[hko]; exact q),c,ov,by rw[hcells']; exact h1,h2.keeps hk₁,?_,fun q=>absurd hi (eM.mpr q),fun υ=>h4⟩
    rw[bo,cn (by rw[hσl]; exact hi)]
    exact h3 _ _ _
   ·exact .inl (by rw[hko]; exact q)
  ·rcases kinds i y hy with⟨hi,_⟩ | ⟨hi,q⟩
   ·exact absurd hi (eM.mpr ho)
   ·exact .inl (by rw[hko]; exact q)
  ·intro i j y z c hi hj oi oj ky
   rcases kinds i y hi with⟨hlt,_⟩ | ⟨_,q⟩
   ·exact absurd hlt (eM.mpr oi)
   ·rw[hko,q]at ky; cases ky
  ·refine bq (gA hy) fun z hz e29_1=>?_; subst e29_1
   exact hdd z (bD hz)
  ·unfold names; simp[hσl,hds,bP]
end
structure DefAt(P:Pm)(nms:List String)(na:Nat)(a:Addr)(sc:Scope)(body:List Stmt)(c:Addr)(q:Str):Prop where
 ex:∃o fd,P.g0.get? a=some o∧o.data= .func fd∧P.g0.CodeRec fd.code fd.qualname∧fd.body= .stmts body∧fd.scope=sc∧fd.closure=[]∧fd.globals=aX∧fd.builtins=cE∧fd.code= .ref c∧fd.qualname=q∧
  ∀vs:List Value,vs.length=na→bindArgs fd ⟨vs,[]⟩=pure ((nms.map aa).zip vs)
 fr:cT ⟨nms,na,[]⟩ sc=true
section
variable {P:Pm}{wc:Addr}{sc:Scope}{env:Env}{ns:Nms}{own:Nat}{b:Bs}{Z Z' Z1:Heap}{σ:St}{ad:Nat→Addr}{s s':Shared}{A:Around}{ft:FT}{n:Nat}
theorem tH{nms:List String}{na:Nat}{a c:Addr}{q:Str}{body:List Stmt}(K:DefAt P nms na a sc body c q)(R:Room A (n+1))(ok:Ok P Z s){vs:List Value}{ds:List D}(r:RepAll Z vs ds)(hlen:ds.length=na){RR:Result→Shared→Prop}
  (k:∀env s₁,SR P wc sc env (names nms) 0 ⟨s.heap,Z⟩ Z (ds.map .fro++aq (nms.length-na) .u0) (fun i=>i) s₁→Go P Z s Z s₁→Room (A.deeper env) n→env.code= .ref c→env.qual=q++".<locals>."→env.scope=sc→
   wpAny P.M (A.deeper env) (execs body env) (fun fl s'=>RR (.ok (.ret (match fl with | .ret v=>v | _=> .none))) s')
    (fun e s'=>wpAny P.M (A.deeper env) (leaving env e) (fun υ s''=>RR (.error e) s'') (fun e' s''=>RR (.error e') s'') s') s₁):codeAny P.M A (.call (.ref a) ⟨vs,[]⟩) RR s:=by
 refine B8 K.ex fun o fd ho hdata hcd hbody hsc hclo hglob hblt hcode hq hbind=>?_
 subst hsc
 have hvl:=r.length.trans hlen
 refine k7 (az (aA _ _) R.depth) (ok.g0 _ _ ho) hdata (P.hlim.keeps ok.g0) (hcd.keeps ok.g0) hbody (hbind vs hvl) hclo (fun p hp=>lg K.fr hp) ok.tk (fun s₁ x htk=>?_) (frC K.fr) (frG K.fr) (frF K.fr)
 have E:=AL (t:=s.toks) (wc:=wc) (b:=⟨s.heap,Z⟩) K.fr ok hvl x htk rfl rfl rfl hglob hblt (.refl _ _) (.refl _) (fun υ υ e=> .inl e) (fun c hc=>hc) (nN hlen (frA K.fr)) (fun i es e=>nM e) fun L h₁ υ υ i=>sO r hlen i
 exact k _ s₁ E.1 E.2 (il R) hcode (by rw[←hq]; rfl) rfl
theorem SR.storeCell(S:SR P wc sc env ns own b Z σ ad s){i:Nat}{x:Str}(hi:ns[i]? =some (some x))(ho:own≤i)(hl:i<σ.length)(hu:σ[i]? =some .u0)(hk:env.kindOf x=some .cell){v:Value}{Q:Unit→Shared→Prop}{E}
  (h:∀s' c,env.cells.lookup x=some c→s'.heap.IsCell c (some v)→s'.gens=s.gens→Heap.SameBut c s.heap s'.heap→Z.get? c=none→SR P wc sc env ns own b Z σ ad s'→Q () s'):wpAny P.M A (bindName env x v) Q E s:=by
 refine bq S.nss fun m hm hv=>?_
 refine wpAny_bindName ?_
 have hk0:¬(env.kindOf x=some .local):=fun q=>by rw[hk]at q; cases q
 obtain⟨υ,c,o,h1,h2,h3,h4,h5⟩:=(S.cel i x hi).resolve_left hk0
 refine fu (h4 ho) fun hz hB=>?_
 refine wpAny_storeName_cell S.kind hk h1 h2 fun h' hc hs=>h _ c h1 hc rfl hs hz ?_
 have hb:(c=env.locals∧∃m,s.heap.Ns env.locals m)∨∃o,s.heap.IsCell c o:= .inr ⟨o,h2⟩
 have keep:∀e o,e≠c→s.heap.get? e=some o→h'.get? e=some o:=fun e o q e'=>(hs.2 e q).trans e'
 have hcl:env.locals≠c:=fun q=>by
  obtain⟨υ,e1,d1⟩:=h2; obtain⟨_,_,_,e2,d2,_⟩:=hm
  rw[←q,e2]at e1; cases e1; rw[d2]at d1; cases d1
 have zk:Le Z h':=fun e o e'=>keep e o (fun q=>by rw[q,hz]at e'; cases e') (S.ok.z e o e')
 refine⟨⟨zk,S.ok.g,S.ok.zT,P.to1 S.ok.tab (.refl _) (fun t ht=>hs.2 t fun q=>S.ok.cellT h2 (by rw[←q]; exact ht)),S.ok.gens,S.ok.os,S.ok.tk⟩,S.kind,S.glob,S.blt,S.gl,fun e o hT e'=>keep e o (fun q=>by rw[q,hB]at e'; cases e') (S.base e o hT e'),S.zle,S.zb,S.lz,S.lb,⟨m,hm.sameBut hs hcl,fun j y hj hky=>?_⟩,fun j y hj=>?_,S.ownk,S.nd,S.cd,S.ai,S.dd,S.len,S.cf,S.lc⟩
 ·exact(hv j y hj hky).same hs hb
 ·rcases S.cel j y hj with q | ⟨k',c',o',g1,g2,g3,g4,g5⟩
  ·exact .inl q
  ·by_cases hji:j=i
   ·subst hji
    have:y=x:=by rw[hi]at hj; exact(ax.inj (ax.inj hj)).symm
    subst this
    refine .inr ⟨k',c,some v,h1,hc,?_,h4,h5⟩
    rw[hu]; trivial
   ·have hne:c'≠c:=fun q=>by
     subst q
     by_cases hoj:own≤j
     ·rcases S.ownk j y hj hoj with q2 | q2
      ·rcases k' with k' | k'<;>(rw[q2]at k'; cases k')
      ·exact hji (S.cd j i y x c' hj hi hoj ho q2 hk g1 h1)
     ·exact g5 (Nat.lt_of_not_le hoj) hB
    exact .inr ⟨k',c',o',g1,g2.sameBut hs hne,g3.same hs hb,g4,g5⟩
theorem SR.goXm(S:SR P wc sc env ns own b Z σ ad s){i:Nat}{x:Str}{ds es:List D}(hi:ns[i]? =some (some x))(hd:σ[i]? =some (.mut ds))(g:GoX (ad i) P Z s Z' s'){us:Array Value}(hl:s'.heap.PlainList (ad i) us)(hr:RepAll Z' us.toList es):
  SR P wc sc env ns own b Z' (σ.set i (.mut es)) ad s':=by
 refine bq (S.slot (A:={}) hi) fun ov hv υ=>?_
 rw[hd]at hv
 obtain⟨vs,υ,⟨m,ho⟩,υ,z,nb⟩:=hv
 have hT:ad i∉P.T:=S.ok.listT ⟨m,ho⟩
 refine dh (id hl) fun m' ho'=>?_
 have hs:Heap.SameBut (ad i) s'.heap (s'.heap.update (ad i) fun υ=>{cls:= .type "list",data:= .seq vs m}):=Heap.SameBut.update ..
 have hx:(s'.heap.update (ad i) fun υ=>{cls:= .type "list",data:= .seq vs m}).get? (ad i)=some {cls:= .type "list",data:= .seq vs m}:=dS (fun υ=>_) ho' rfl
 have ok1:Ok P Z' {s' with heap:=s'.heap.update (ad i) fun υ=>{cls:= .type "list",data:= .seq vs m}}:=
  ⟨fun c oc e=>(hs.2 c (fun q=>by rw[q,g.zx]at e; cases e)).trans (g.ok.z c oc e),g.ok.g,g.ok.zT,P.to1 g.ok.tab (.refl _) (fun t ht=>hs.2 t fun q=>hT (by rw[←q]; exact ht)),g.ok.gens,g.ok.os,g.ok.tk⟩
 have g1:Go P Z s Z' {s' with heap:=s'.heap.update (ad i) fun υ=>{cls:= .type "list",data:= .seq vs m}}:=by
  refine⟨ok1,g.le,fun c oc hc e=>?_,g.fresh⟩
  by_cases q:c=ad i
  ·subst q; rw[ho]at e; cases e; exact hx
  ·exact(hs.2 c q).trans (g.keep c oc hc q e)
 have S1:=S.go g1
 exact S1.change (h':=s'.heap) (tk:=s'.toks) hi hd g.ok.tk ⟨hs.1.symm,fun c hc=>(hs.2 c hc).symm⟩ hl hr
end
noncomputable def digs(n x k:Nat):List Nat:=(bu k).map fun i=>x / 2^(n*i)%2^n
theorem j7(n x k:Nat):(digs n x k).length=k:=by simp[digs]
theorem qd(n x m k:Nat):digs n x (m+k)=digs n (x%2^(n*m)) m++digs n (x / 2^(n*m)) k:=by
 unfold digs
 rw[List.range_add,aZ,bw]
 congr 1
 ·refine bQ fun i hi=>?_
  have hi:=fj.mp hi
  have e:n*m=n*i+(n+n*(m-i-1)):=by
   have:m=i+(1+(m-i-1)):=by exact aq54 hi
   calc n*m=n*(i+(1+(m-i-1))):=by rw[←this]
    _=_:=by rw[d7,d7,eC]
  rw[e,d6,←Nat.mod_mul_right_div_self x,←Nat.mod_mul_right_div_self (x%_)]
  rw[←d6]
  congr 1
  rw[←d6,show n*i+(n+n*(m-i-1))=(n*i+n)+n*(m-i-1) by exact aq55,d6 (m:=n*i+n),Nat.mod_mul_right_mod]
 ·refine bQ fun i υ=>?_
  simp only[Function.comp]
  rw[Nat.div_div_eq_div_mul,←d6,d7]
theorem wN{n x:Nat}(h:x<2^n):digs n x 1=[x]:=by
 unfold digs
 simp[eF h]
theorem xw(x k:Nat):x&&&(x / 2^k*2^k)=x / 2^k*2^k:=by
 refine Nat.eq_of_testBit_eq fun i=>?_
 rw[Nat.testBit_and,Nat.testBit_mul_two_pow]
 by_cases h:k≤i
 ·rw[Nat.testBit_div_two_pow,show i-k+k=i by exact aq56 h]
  simp[h]
 ·simp[h]
theorem uy(x k:Nat):Builtin.bitXor (x:Int) ((x / 2^k*2^k:Nat):Int)=((x%2^k:Nat):Int):=by
 rw[bitXor_and]
 have e:aO (x:Int) ((x / 2^k*2^k:Nat):Int)=((x / 2^k*2^k:Nat):Int):=by
  unfold aO
  simp only[aN,decide_true,aG]
  rw[xw]
 rw[e]
 have:=ek x (2^k)
 rw[bx]at this
 exact aq57 this
noncomputable def jB(n x L k:Nat)(ds:List D):List D:=ds.take L++((digs n x k).map (fun(d:Nat)=>PyData.int d)++ds.drop (L+k))
theorem jG{n x L k:Nat}{a b c:List D}(ha:a.length=L)(hb:b.length=k):jB n x L k (a++(b++c))=a++((digs n x k).map (fun(d:Nat)=>PyData.int d)++c):=by
 unfold jB
 rw[List.take_left' ha,←bo a b c,List.drop_left' (by rw[ak,ha,hb])]
theorem HX{ds:List D}{L m:Nat}(h:L+m≤ds.length):∃a b c,ds=a++(b++c)∧a.length=L∧b.length=m:=
 ⟨ds.take L,(ds.drop L).take m,(ds.drop L).drop m,by rw[List.take_append_drop,List.take_append_drop],by rw[List.length_take]; exact aq58 h,by rw[List.length_take,List.length_drop]; exact aq59 h⟩
theorem mh{n x L k:Nat}{ds:List D}(h:L+k≤ds.length):(jB n x L k ds).length=ds.length:=by
 obtain⟨a,b,c,rfl,ha,hb⟩:=HX h
 rw[jG ha hb]
 simp[j7,hb]
theorem qV{n x L m k:Nat}{ds:List D}(h:L+(m+k)≤ds.length):jB n (x / 2^(n*m)) (L+m) k (jB n (x%2^(n*m)) L m ds)=jB n x L (m+k) ds:=by
 obtain⟨a,b,c,rfl,ha,hb⟩:=HX h
 obtain⟨b1,b2,b3,rfl,h1,h2⟩:=HX (ds:=b) (L:=m) (m:=k) (by exact aq60 hb)
 have h3:b3=[]:=by
  have:b3.length=0:=by simp only[ak]at hb; exact aq61 hb h1 h2
  exact bX.mp this
 subst h3
 rw[List.append_nil,jG (k:=m+k) ha (by simp[h1,h2]),qd,aZ]
 rw[bo b1 b2 c,jG (k:=m) ha h1]
 rw[←bo a,jG (k:=k) (by simp[ha,j7]) h2]
 simp
theorem qW{n x L:Nat}{ds:List D}(hL:L<ds.length)(hx:x<2^n):jB n x L 1 ds=ds.set L (.int (x:Nat)):=by
 unfold jB
 rw[wN hx,List.set_eq_take_append_cons_drop,if_pos hL]
 rfl
theorem fZ{a b:Int}(ha:a.natAbs<2^30000)(hb:b.natAbs<2^30000):iJ a b=true:=by
 have k:2^30000≤2^40000:=aY (by decide) (by decide)
 unfold iJ
 rw[decide_eq_true (aK ha k),decide_eq_true (aK hb k)]
 rfl
theorem fG{a:Nat}(h:a<1073741824):a<2^30000:=aK h (show 2^30≤2^30000 from aY (by decide) (by decide))
theorem RepAll.cons_inv'{Z:Heap}{vs:List Value}{d:D}{ds:List D}(h:RepAll Z vs (d::ds)):∃v ws,vs=v::ws∧Rep Z v d∧RepAll Z ws ds:=by
 cases h with | cons a b=>exact⟨_,_,rfl,a,b⟩
structure InAt(Z:Heap)(f:Addr)(args:List String)(sc:Scope)(body:List Stmt)(clos:List (Str×Addr)):Prop where
 ex:∃o fd,Z.get? f=some o∧o.data= .func fd∧Z.CodeRec fd.code fd.qualname∧fd.body= .stmts body∧fd.scope=sc∧fd.closure=clos∧fd.globals=aX∧fd.builtins=cE∧
  ∀vs:List Value,vs.length=args.length→bindArgs fd ⟨vs,[]⟩=pure ((args.map aa).zip vs)
theorem InAt.le{Z Z':Heap}{f:Addr}{args:List String}{sc:Scope}{body:List Stmt}{clos:List (Str×Addr)}(x:InAt Z f args sc body clos)(k:Le Z Z'):InAt Z' f args sc body clos:=
 by obtain⟨o,fd,h1,h2,h3,r⟩:=x.ex; exact⟨o,fd,k _ _ h1,h2,h3.keeps k,r⟩
theorem InAt.fn{Z Z':Heap}{f:Addr}{args:List String}{sc:Scope}{body:List Stmt}{clos:List (Str×Addr)}(x:InAt Z f args sc body clos)(k:Le Z Z'):∃o fd,Z'.get? f=some o∧o.data= .func fd:=
 by obtain⟨o,fd,h,d,_⟩:=x.ex; exact⟨o,fd,k _ _ h,d⟩
section
variable {P:Pm}{wc:Addr}{sc:Scope}{env:Env}{ns:Nms}{own:Nat}{b:Bs}{Z Z' Z1 Z0:Heap}{σ:St}{ad:Nat→Addr}{s s' s0:Shared}{A:Around}{ft:FT}{n:Nat}{X:Addr}
theorem SR.readCell(S:SR P wc sc env ns own b Z σ ad s){x:Str}{c:Addr}{v:Value}(hx:sc.names.lookup x=some .cell∨sc.names.lookup x=some .free)(hc:env.cells.lookup x=some c)(hv:s.heap.IsCell c (some v)){pos:Pos}{Q:Value→Shared→Prop}{E:Value→Shared→Prop}(h:Q v s)
  (hd:(x==("__debug__":Str))=false:=by decide+kernel) (hd2:(x==("__classdict__":Str))=false:=by decide+kernel):wpAny P.M A (eval (.Name x pos) env) Q E s:=by
 refine wpAny_Name ?_ hd
 rcases S.cf x hx with k | k
 ·exact wpAny_loadName_cell S.kind k hc hv h
 ·exact wpAny_loadName_free S.kind k hc hv h hd2
theorem Loose.go(L:Loose ns b Z σ ad s.heap X)(ok:Ok P Z s)(g:Go P Z s Z' s'):Loose ns b Z' σ ad s'.heap X:=by
 refine bq L.ob fun o e p=>?_
 refine⟨⟨o,g.keep _ _ (ok.notT e (.inl p.notNone)) e,p⟩,L.bn,?_,L.na⟩
 cases q:Z'.get? X with
 | none=>rfl
 | some o'=>
  rcases g.fresh _ _ q with q' | q'
  ·rw[L.zn]at q'; cases q'
  ·rw[e]at q'; cases q'
theorem SR.expose{h0:Heap}(S:SR P wc sc env ns own ⟨h0,Z0⟩ Z σ ad s){o:Obj}(hz0:Z0.get? X=none)(ho:h0.get? X=some o)(p:eQ o)(hT:X∉P.T):
  SR P wc sc env ns own ⟨hideAll h0 [X],Z0⟩ Z σ ad s∧Loose ns ⟨hideAll h0 [X],Z0⟩ Z σ ad s.heap X∧s.heap.get? X=some o:=by
 have hX:s.heap.get? X=some o:=S.base X o hT ho
 have hn:∀c,h0.get? c=none→(hideAll h0 [X]).get? c=none:=fun c e=>by
  cases q:(hideAll h0 [X]).get? c with
  | none=>rfl
  | some o'=>rw[of_hideAll _ q]at e; cases e
 have hz:Z.get? X=none:=by
  cases e:Z.get? X with
  | none=>rfl
  | some o'=>
   rcases S.zb X o' e with q | q
   ·have q':Z0.get? X=some o':=q
    rw[hz0]at q'; cases q'
   ·have q':h0.get? X=none:=q
    rw[ho]at q'; cases q'
 refine bq S.nss fun m hm hv=>?_
 have kv:∀i ov,VR P wc env.locals h0 Z s.heap (ad i) σ[i]? ov→VR P wc env.locals (hideAll h0 [X]) Z s.heap (ad i) σ[i]? ov:=fun i ov r=>
  r.base (fun υ υ h=>hn _ h) (fun υ υ υ υ h=>hn _ h)
 have na:∀(i:Nat) (ds:List D) ov,σ[i]? =some (.mut ds)→VR P wc env.locals h0 Z s.heap (ad i) σ[i]? ov→ad i≠X:=fun i ds ov e r q=>by
  rw[e]at r
  obtain⟨vs,υ,υ,υ,υ,h⟩:=r
  rw[q,ho]at h; cases h
 refine ur (⟨S.ok,S.kind,S.glob,S.blt,S.gl,fun c o' hc e=>S.base c o' hc (of_hideAll _ e),S.zle,fun a o' e=>?_,S.lz,hn _ S.lb,⟨m,hm,fun i x hi hx=>kv i _ (hv i x hi hx)⟩,fun i x hi=>?_,S.ownk,S.nd,S.cd,S.ai,S.dd,S.len,S.cf,S.lc⟩) (⟨⟨o,hX,p⟩,hideAll_none _ (.head _),hz,fun i x ds hi e=>?_⟩) hX
 ·rcases S.zb a o' e with q | q
  ·exact .inl q
  ·exact .inr (hn _ q)
 ·rcases S.cel i x hi with q | ⟨k,c,ov,h1,⟨oc,h2,hd⟩,h3,h4,h5⟩
  ·exact .inl q
  ·refine .inr ⟨k,c,ov,h1,⟨oc,h2,hd⟩,kv i _ h3,fun hh=>⟨(h4 hh).1,hn _ (h4 hh).2⟩,fun hh=>?_⟩
   have h6:h0.get? c≠none:=h5 hh
   cases e:h0.get? c with
   | none=>exact absurd e h6
   | some o'=>
    show(hideAll h0 [X]).get? c≠none
    rw[hideAll_get [X] e (fun q=>by
     have q:=ay.mp q
     subst q; rw[hX]at h2; cases h2; exact p.notCell hd)]
    nofun
 ·refine bq (S.slot (A:={}) hi) fun ov r υ=>?_
  exact na i ds ov e r
theorem SR.toGoX(S:SR P wc sc env ns own ⟨hideAll s0.heap [X],Z0⟩ Z σ ad s)(hz:Z.get? X=none):GoX X P Z0 s0 Z s:=by
 refine⟨S.ok,S.zle,fun c o hc hx e=>S.base c o hc (hideAll_get [X] e (fun q=>hx (ay.mp q))),fun a o e=>?_,hz⟩
 rcases S.zb a o e with q | q
 ·exact .inl q
 ·refine .inr ?_
  cases e':s0.heap.get? a with
  | none=>rfl
  | some o'=>
   by_cases hA:a=X
   ·rw[hA,hz]at e; cases e
   ·have q':(hideAll s0.heap [X]).get? a=none:=q
    rw[hideAll_get [X] e' (fun h=>hA (ay.mp h))]at q'; cases q'
theorem SR.asg(H:eU P wc ft n)(R:Room A n){k i:Nat}{ie:IE}{v:Expr}{x:Str}{p q:Pos}{d:D}(hc:ckE k ns sc ie v=true)(hd:evE ft n σ ie=some d)(hi:ns[i]? =some (some x))(ho:own≤i)(S:SR P wc sc env ns own b Z σ ad s)
  {Q:Flow→Shared→Prop} {E:Value→Shared→Prop} (h:∀s' Z' ad',Le Z Z'→SR P wc sc env ns own b Z' (σ.set i (.fro d)) ad' s'→Q .next s')
  (hnc:∀a c d f,ie≠ .comp a c d f:=by intro _ _ _ _ h; cases h) (hb:isBor ie=false:=by rfl):wpAny P.M A (exec (.Assign [.Name x p] v q) env) Q E s:=
 dD (ew (gD hc hnc) _ _) (H R hc hd S fun υ υ Z1 g1 υ r1=>(S.go g1).bindFro hi ho (r1 hb) fun s2 ad2 S2=>h s2 Z1 ad2 g1.le S2)
theorem SR.callCell(H:eU P wc ft n)(R:Room A n){k:Nat}{es:List IE}{xs:List Expr}{ds:List D}{x:Str}{c f:Addr}{np pos:Pos}(ha:gO (ckE k ns sc) es xs=true)(hd:es.mapM (evE ft n σ)=some ds)(S:SR P wc sc env ns own b Z σ ad s)
  (hx:sc.names.lookup x=some .cell∨sc.names.lookup x=some .free) (hc:env.cells.lookup x=some c) (hv:s.heap.IsCell c (some (.ref f))) (hf:∃o fd,Z.get? f=some o∧o.data= .func fd)
  {Q:Value→Shared→Prop} {E:Value→Shared→Prop} (h:∀vs s1 Z1,Go P Z s Z1 s1→RepAll Z1 vs ds→wpAny P.M A (call (.ref f) vs) Q E s1)
  (hb:(es.all fun e=> !isBor e)=true:=by rfl) (hdb:(x==("__debug__":Str))=false:=by decide+kernel) (hd2:(x==("__classdict__":Str))=false:=by decide+kernel):wpAny P.M A (eval (.Call (.Name x np) xs [] pos) env) Q E s:=by
 refine x2_2 hf fun o fd ho hfd=>?_
 refine wpAny_Call_ofName (S.readCell hx hc hv ?_ hdb hd2)
 rw[bF (eH ha),args_two,kw_nil]
 refine gY (first:=[]) hfd ?_
 refine du H R ha hd S fun vs s1 Z1 g1 υ r1=>⟨g1.ok.z _ _ (g1.le _ _ ho),?_⟩
 exact h vs s1 Z1 g1 (r1 hb)
theorem mJ{e:Expr}{q:Pos}(S:SR P wc sc env ns own b Z σ ad s)(hn:ja e=true){Q:Flow→Shared→Prop}{E:Value→Shared→Prop}(h:wpAny P.M A (eval e env) (fun v s'=>v= .none∧Q .next s') E s):wpAny P.M A (exec (.Expr e q) env) Q E s:=by
 refine wpAny_Expr (wpAny_mono h (fun v s' hv=>?_) fun υ υ e=>e) ?_ (ew hn _ _)
 ·obtain⟨rfl,hq⟩:=hv; exact hq
 ·unfold interactive; rw[S.kind]; rfl
theorem uJ{α:Type}{p:Nat→α→Prop}{a b c:α}(h0:p 0 a)(h1:p 1 b)(h2:p 2 c):∀(i:Nat) x,[a,b,c][i]? =some x→p i x:=by
 intro i x h
 match i,h with
 | 0,h=>cases h; exact h0
 | 1,h=>cases h; exact h1
 | 2,h=>cases h; exact h2
 | _+3,h=>cases h
theorem oA{h:Heap}{c:Addr}{v:Option Value}(C:h.IsCell c v):h.get? c≠none:=fun q=>by
 refine bq C fun υ e υ=>?_
 rw[q]at e; cases e
theorem InAt.call{f:Addr}{body:List Stmt}{a b c:String}{args rest:List String}{clos:List (Str×Addr)}{u v w:Var}{ds:List D}{vs:List Value}(IN:InAt Z f args sc body clos)(R:Room A (n+1))(ok:Ok P Z s)(hvl:vs.length=args.length)
  (ck:k6 [a,b,c] args rest sc=true) (hm:∀(i:Nat) x,[u,v,w][i]? =some x→∀ds,x≠ .mut ds)
  (hc:∀(i:Nat) x,[a,b,c][i]? =some x→∃c ov,clos.lookup (aa x)=some c∧s.heap.IsCell c ov∧(∀L h₁ a,VR P wc L s.heap Z h₁ a [u,v,w][i]? ov)) (r:RepAll Z vs ds) {Q:Value→Shared→Prop} {E:Value→Shared→Prop}
  (k:∀env s₁ q e,SR P wc sc env (names ([a,b,c]++args++rest)) 3 ⟨s.heap,Z⟩ Z ([u,v,w]++ds.map .fro++aq rest.length .u0) (fun i=>i) s₁→Room (A.deeper env) n→env.cells=clos→(∀s',Q .none s'→q .next s')→(∀v s',Q v s'→q (.ret v) s')→
   wpAny P.M (A.deeper env) (execs body env) q e s₁):wpAny P.M A (call (.ref f) vs) Q E s:=by
 refine Gd IN.ex fun o fd ho hdata hcd hbody hsc hclo hglob hblt hbind=>?_
 exact wpAny_call (qc R ok (ok.z _ _ ho) hdata (hcd.keeps ok.z) hbody hsc hclo hglob hblt (hbind vs hvl) hvl ck (.refl _ _) (fun υ e=>e) rfl (fun i ds e=>hm i _ e ds rfl) (fun i x h=>by obtain⟨c,ov,h1,h2,h3⟩:=hc i x h; exact⟨c,ov,h1,h2,h3,oA h2⟩) r
  fun env s₁ S υ R' hcl=>k env s₁ _ _ S R' hcl (fun υ h=>h) fun υ υ h=>h)
theorem ir{fr args rest:List String}(h:k6 fr args rest sc=true){x:String}(hx:x∈fr):sc.names.lookup (aa x)=some .free:=
 bA8 h fun υ h υ υ υ υ υ υ=>beq_iff_eq.mp (bh.mp h x hx)
noncomputable def oB(ns:Nms)(sc:Scope)(x:String)(ie:IE)(st:Stmt):Prop:=∃p v q,st= .Assign [.Name (aa x) p] v q∧ckE 20 ns sc ie v=true
noncomputable def pE(ns:Nms)(sc:Scope)(x:String)(es:List IE)(e:Expr):Prop:=∃p xs q,e= .Call (.Name (aa x) p) xs [] q∧gO (ckE 20 ns sc) es xs=true
noncomputable def mT(ns:Nms)(sc:Scope)(x:String)(es:List IE)(st:Stmt):Prop:=∃p xs q r,st= .Expr (.Call (.Name (aa x) p) xs [] q) r∧gO (ckE 20 ns sc) es xs=true
noncomputable def F7(ns:Nms)(sc:Scope)(ie:IE)(th:List Stmt)(st:Stmt):Prop:=∃t p,st= .If t th [] p∧ckE 20 ns sc ie t=true
noncomputable def BS(ns:Nms)(sc:Scope)(ie:IE)(st:Stmt):Prop:=∃e p,st= .Return (some e) p∧ckE 20 ns sc ie e=true
section
variable {x:String}{ie:IE}{st:Stmt}{i:Nat}{d:D}{r:List Stmt}{Q:Flow→Shared→Prop}{E:Value→Shared→Prop}
theorem SR.asgS(S:SR P wc sc env ns own b Z σ ad s)(H:eU P wc ft n)(R:Room A n)(hs:oB ns sc x ie st)(hd:evE ft n σ ie=some d)(i:Nat)(hi:ns[i]? =some (some (aa x)))(ho:own≤i)
  (h:∀s' Z' ad',Le Z Z'→SR P wc sc env ns own b Z' (σ.set i (.fro d)) ad' s'→wpAny P.M A (execs r env) Q E s')
  (hnc:∀a c d f,ie≠ .comp a c d f:=by intro _ _ _ _ h; cases h) (hb:isBor ie=false:=by rfl):wpAny P.M A (execs (st::r) env) Q E s:=
 by
 refine uz hs fun υ υ υ e54_1 hc=>?_; subst e54_1
 exact wpAny_execs_cons (SR.asg H R hc hd hi ho S h hnc hb)
theorem SR.ifS(S:SR P wc sc env ns own b Z σ ad s)(HT:jN P wc ft n)(R:Room A n){th:List Stmt}{t:Bool}(hs:F7 ns sc ie th st)(ht:fN ft n σ ie=some t)
  (h1:t=true→∀s' Z',Go P Z s Z' s'→SR P wc sc env ns own b Z' σ ad s'→wpAny P.M A (execs th env) (fun f s'=>match f with | .next=>wpAny P.M A (execs r env) Q E s' | f=>Q f s') E s')
  (h2:t=false→∀s' Z',Go P Z s Z' s'→SR P wc sc env ns own b Z' σ ad s'→wpAny P.M A (execs r env) Q E s'):wpAny P.M A (execs (st::r) env) Q E s:=by
 refine x2_2 hs fun e p e59_1 hc=>?_; subst e59_1
 refine wpAny_execs_cons (wpAny_bind (wpAny_standAt (wpAny_bind (HT R hc ht S fun s' Z' g=>?_))))
 cases t
 ·exact wpAny_execs_nil (env:=env) (h2 rfl s' Z' g (S.go g))
 ·exact h1 rfl s' Z' g (S.go g)
theorem SR.evI(S:SR P wc sc env ns own b Z σ ad s)(H:eU P wc ft n)(R:Room A n){k:Nat}{e:Expr}{x:Int}(hc:ckE k ns sc ie e=true)(hd:evE ft n σ ie=some (.int x)){Q:Value→Shared→Prop}
  (h:∀t s' Z',Go P Z s Z' s'→SR P wc sc env ns own b Z' σ ad s'→Q (.int x t) s') (hb:isBor ie=false:=by rfl):wpAny P.M A (eval e env) Q E s:=
 H R hc hd S fun υ s' Z' g υ r=>by obtain⟨t,e⟩:=(r hb).int_inv; exact e▸h t s' Z' g (S.go g)
theorem FW{e:Expr}{p:Pos}(h:wpAny P.M A (eval e env) (fun v s'=>Q (.ret v) s') E s):wpAny P.M A (execs (.Return (some e) p::r) env) Q E s:=
 wpAny_execs_cons (wpAny_bind (wpAny_standAt (wpAny_bind (wpAny_mono h (fun υ υ h=>aD h) fun υ υ e=>e))))
end
theorem RepAll.ints2{vs:List Value}{i j:Int}(r:RepAll Z vs [.int i,.int j]):∃a b,vs=[.int i a,.int j b]:=by
 obtain⟨υ,υ,rfl,q1,r⟩:=r.cons_inv'
 obtain⟨υ,υ,rfl,q2,r⟩:=r.cons_inv'
 cases r
 obtain⟨υ,rfl⟩:=q1.int_inv
 obtain⟨υ,rfl⟩:=q2.int_inv
 exact⟨_,_,rfl⟩
theorem RepAll.ints3{vs:List Value}{i j k:Int}(r:RepAll Z vs [.int i,.int j,.int k]):∃a b c,vs=[.int i a,.int j b,.int k c]:=by
 obtain⟨υ,υ,rfl,q1,r⟩:=r.cons_inv'
 obtain⟨υ,υ,rfl⟩:=r.ints2
 obtain⟨υ,rfl⟩:=q1.int_inv
 exact⟨_,_,_,rfl⟩
section
variable {x:String}{es:List IE}{f c:Addr}{i j l:Int}
theorem SR.callE2(S:SR P wc sc env ns own b Z σ ad s)(H:eU P wc ft n)(R:Room A n){e:Expr}(hs:pE ns sc x es e)(hd:es.mapM (evE ft n σ)=some [.int i,.int j])(hx:sc.names.lookup (aa x)=some .cell∨sc.names.lookup (aa x)=some .free)
  (hc:env.cells.lookup (aa x)=some c) (hv:s.heap.IsCell c (some (.ref f))) (hf:∃o fd,Z.get? f=some o∧o.data= .func fd) {Q:Value→Shared→Prop} {E:Value→Shared→Prop}
  (h:∀a b' s1 Z1,Go P Z s Z1 s1→SR P wc sc env ns own b Z1 σ ad s1→wpAny P.M A (call (.ref f) [.int i a,.int j b']) Q E s1)
  (hb:(es.all fun e=> !isBor e)=true:=by rfl) (hdb:(aa x==("__debug__":Str))=false:=by decide+kernel) (hd2:(aa x==("__classdict__":Str))=false:=by decide+kernel):wpAny P.M A (eval e env) Q E s:=
 by
 refine uz hs fun υ υ υ e91_1 ha=>?_; subst e91_1
 exact SR.callCell H R ha hd S hx hc hv hf (fun υ s1 Z1 g r=>by obtain⟨_,_,rfl⟩:=r.ints2; exact h _ _ s1 Z1 g (S.go g)) hb hdb hd2
theorem SR.callS3(S:SR P wc sc env ns own b Z σ ad s)(H:eU P wc ft n)(R:Room A n){st:Stmt}{r:List Stmt}(hs:mT ns sc x es st)(hd:es.mapM (evE ft n σ)=some [.int i,.int j,.int l])(hx:sc.names.lookup (aa x)=some .cell∨sc.names.lookup (aa x)=some .free)
  (hc:env.cells.lookup (aa x)=some c) (hv:s.heap.IsCell c (some (.ref f))) (hf:∃o fd,Z.get? f=some o∧o.data= .func fd) {Q:Flow→Shared→Prop} {E:Value→Shared→Prop}
  (h:∀a b' c' s1 Z1,Go P Z s Z1 s1→SR P wc sc env ns own b Z1 σ ad s1→wpAny P.M A (call (.ref f) [.int i a,.int j b',.int l c']) (fun v s'=>v= .none∧wpAny P.M A (execs r env) Q E s') E s1)
  (hb:(es.all fun e=> !isBor e)=true:=by rfl) (hdb:(aa x==("__debug__":Str))=false:=by decide+kernel) (hd2:(aa x==("__classdict__":Str))=false:=by decide+kernel):wpAny P.M A (execs (st::r) env) Q E s:=
 by
 refine FN hs fun υ υ υ υ e1_1 ha=>?_; subst e1_1
 exact wpAny_execs_cons (mJ S rfl (SR.callCell H R ha hd S hx hc hv hf (fun υ s1 Z1 g r=>by obtain⟨_,_,_,rfl⟩:=r.ints3; exact h _ _ _ s1 Z1 g (S.go g)) hb hdb hd2))
end
end
noncomputable def nI:List String:=["a_digits","n","inner"]++["x","L","R"]++["mid","shift","upper","lower"]
noncomputable def tI:IE:= .cmp .Eq (.bin .Add (.var 4) (.int 1)) (.var 5)
noncomputable def midI:IE:= .bin .RShift (.bin .Add (.var 4) (.var 5)) (.int 1)
noncomputable def shI:IE:= .bin .Mult (.bin .Sub (.var 6) (.var 4)) (.var 1)
noncomputable def upI:IE:= .bin .RShift (.var 3) (.var 7)
noncomputable def loI:IE:= .bin .BitXor (.var 3) (.bin .LShift (.var 8) (.var 7))
noncomputable def Oy(sc:Scope)(st:Stmt):Prop:=∃a p q l r u v,F7 (names nI) sc tI [.Assign [.Subscript (.Name (aa "a_digits") a) l p] r q,.Return none u] st∧ckE 20 (names nI) sc (.var 4) l=true∧ckE 20 (names nI) sc (.var 3) r=true∧ja r=v∧v=true
structure ShI(sc:Scope)(body:List Stmt):Prop where
 ck:k6 ["a_digits","n","inner"] ["x","L","R"] ["mid","shift","upper","lower"] sc=true
 ex:∃a b c d e f g,body=[a,b,c,d,e,f,g]∧Oy sc a∧oB (names nI) sc "mid" midI b∧oB (names nI) sc "shift" shI c∧oB (names nI) sc "upper" upI d∧oB (names nI) sc "lower" loI e∧
  mT (names nI) sc "inner" [.var 9,.var 4,.var 6] f∧mT (names nI) sc "inner" [.var 8,.var 6,.var 5] g
theorem ph(a b:Nat):(a:Int).fdiv (b:Int)=((a / b:Nat):Int):=by
 rw[Int.fdiv_eq_ediv_of_nonneg _ (aN b)]; rfl
theorem tD{ft:FT}{n i:Nat}{σ:St}{d:D}(h:σ[i]? =some (.fro d)):evE ft (n+1) σ (.var i)=some d:=Pl.aF h
section
variable {ft:FT}{σ:St}{x L R n m sh up i j k l:Nat}
theorem qS{a k:Nat}:dO .RShift (.int a) (.int k)=some (.int ((a / 2^k:Nat):Int)):=by
 rw[Pl.Ij (aN k),aG,show((2:Int)^k)=((2^k:Nat):Int) by simp,ph]
theorem lI{a k:Nat}(ha:a<1073741824)(hk:k<1073741824):dO .Mult (.int a) (.int k)=some (.int ((a*k:Nat):Int)):=by
 rw[Pl.BE (fZ (by rw[aT]; exact fG ha) (by rw[aT]; exact fG hk)),b0]
theorem gG{a k:Nat}(h:k≤a):dO .Sub (.int a) (.int k)=some (.int ((a-k:Nat):Int)):=congrArg (fun i=>some (PyData.int i)) (Int.ofNat_sub h).symm
theorem ev_t(hL:σ[i]? =some (.fro (.int (L:Nat))))(hR:σ[j]? =some (.fro (.int (R:Nat)))):fN ft 4 σ (.cmp .Eq (.bin .Add (.var i) (.int 1)) (.var j))=some (decide (L+1=R)):=by
 refine(Pl.fF (Pl.ei (Pl.cm (Pl.aF hL) Pl.cO rfl) (Pl.aF hR) rfl) rfl).trans (congrArg some ?_)
 rw[bJ,beq_iff_eq,decide_eq_true_iff]
 exact Int.ofNat_inj (m:=L+1)
theorem yc(hL:σ[i]? =some (.fro (.int (L:Nat))))(hR:σ[j]? =some (.fro (.int (R:Nat)))):evE ft 4 σ (.bin .RShift (.bin .Add (.var i) (.var j)) (.int 1))=some (.int (((L+R) / 2:Nat):Int)):=
 Pl.cm (Pl.cm (Pl.aF hL) (Pl.aF hR) rfl) Pl.cO (qS (a:=L+R) (k:=1))
theorem DY(hL:σ[i]? =some (.fro (.int (L:Nat))))(hM:σ[j]? =some (.fro (.int (m:Nat))))(hn:σ[k]? =some (.fro (.int (n:Nat))))(h:L≤m)(hm:m<1073741824)(hn':n<1073741824):evE ft 4 σ (.bin .Mult (.bin .Sub (.var j) (.var i)) (.var k))=some (.int (((m-L)*n:Nat):Int)):=
 Pl.cm (Pl.cm (Pl.aF hM) (Pl.aF hL) (gG h)) (Pl.aF hn) (lI (az (eK _ _) hm) hn')
theorem DX(hx:σ[3]? =some (.fro (.int (x:Nat))))(hs:σ[7]? =some (.fro (.int (sh:Nat)))):evE ft 4 σ upI=some (.int ((x / 2^sh:Nat):Int)):=Pl.cm (Pl.aF hx) (Pl.aF hs) qS
theorem DZ(hx:σ[3]? =some (.fro (.int (x:Nat))))(hs:σ[7]? =some (.fro (.int (sh:Nat))))(hu:σ[8]? =some (.fro (.int ((x / 2^sh:Nat):Int))))(hsh:sh<10000)(hb:x<2^20000):evE ft 4 σ loI=some (.int ((x%2^sh:Nat):Int)):=by
 refine Pl.cm (y:= .int ((x / 2^sh*2^sh:Nat):Int)) (Pl.aF hx) (Pl.cm (Pl.aF hu) (Pl.aF hs) ?_) ?_
 ·rw[Pl.xn ⟨aN _,by exact EP hsh,fZ (by rw[aT]; exact az (Nat.div_le_self _ _) (aK hb (aY (by decide) (by decide)))) (fG (by decide))⟩,aG]
  simp
 ·exact congrArg (fun i=>some (PyData.int i)) (uy x sh)
theorem half{L R M p:Nat}(hM:(L+R) / 2=M)(h:L<R)(hl:¬L+1=R)(hk:R-L≤2*p)(hp:p≤4):L<M∧M<R∧M-L≤4∧M-L≤p∧R-M≤p:=by
 have h1:=ek (L+R) 2
 have h2:=eN (L+R) (show 2>0 by decide)
 rw[hM]at h1
 clear hM
 generalize(L+R)%2=r at h1 h2
 refine⟨by exact aq63 h1 h2 hl h,by exact aq64 h1 h,by exact aq65 h1 hk hp,by exact aq66 h1 hk,by exact aq67 h1 h2 hk⟩
end
section
variable {P:Pm}{wc:Addr}{sc:Scope}{Z Z':Heap}{s s':Shared}{A:Around}{n:Nat}
theorem vV{env:Env}{σ:St}{ad:Nat→Addr}{s0:Shared}{Z0:Heap}{X cA:Addr}{a p q u:Pos}{l r:Expr}{x L:Nat}{vs:Array Value}{ds:List D}(S:SR P wc sc env (names nI) 3 ⟨s0.heap,Z0⟩ Z σ ad s)(H:eU P wc ft0 4)(R:Room A 4)
  (kl:ckE 20 (names nI) sc (.var 4) l=true) (kr:ckE 20 (names nI) sc (.var 3) r=true) (hn:ja r=true) (fA:sc.names.lookup (aa "a_digits")=some .free) (hc:env.cells.lookup (aa "a_digits")=some cA)
  (CA:∀{h':Heap},LeX P.T s0.heap h'→h'.IsCell cA (some (.ref X))) (ok:Ok P Z0 s0) (hl:s0.heap.PlainList X vs) (hr:RepAll Z0 vs.toList ds) (hz:Z0.get? X=none) (hx:σ[3]? =some (.fro (.int x))) (hL:σ[4]? =some (.fro (.int L))) (hd:L<ds.length) (hd6:ds.length≤64)
  {Q:Flow→Shared→Prop} {E:Value→Shared→Prop} (h:∀s' Z' vs',GoX X P Z0 s0 Z' s'→s'.heap.PlainList X vs'→RepAll Z' vs'.toList (ds.set L (.int x))→Q (.ret .none) s'):
  wpAny P.M A (execs [.Assign [.Subscript (.Name (aa "a_digits") a) l p] r q,.Return none u] env) Q E s:=by
 refine wpAny_execs_cons (wpAny_Assign_Subscript (H R kr (tD hx) S fun v s3 Z3 g3 υ r3=>?_) (ew hn _ _))
 refine(S.go g3).readCell (.inr fA) hc (CA (S.go g3).base) ((S.go g3).evI H R kl (tD hL) fun t4 s4 Z4 g4 S4=>?_)
 refine dh hl fun m hl=>?_
 refine lq (S4.expose hz hl (cG ⟨m,hl⟩ hl) (ok.listT ⟨m,hl⟩)) fun S5 L5 hX5=>?_
 have hs:=dk (hr.le S4.zle)
 refine iF ⟨m,hX5⟩ (aN _) (by rw[show(2:Int)^63=9223372036854775808 by decide]; exact aq68 hd hd6) (by exact aq69 hd hs) fun h' hl' hsb=>?_
 have S6:=S5.looseChange L5 (h':=h') (tk:=s4.toks) (fun c o' hc e=>(hsb.2 c hc).trans e) S4.ok.tk
 refine wpAny_execs_cons (wpAny_Return_none (h _ _ _ (S6.toGoX L5.zn) hl' ?_))
 have:=(hr.le S4.zle).set L ((r3 rfl).le g4.le)
 rw[aG,Array.toList_setIfInBounds]
 exact this
theorem DC{n x L M R:Nat}(hx:x<2^(n*(R-L)))(h1:L≤M)(h2:M≤R):x / 2^((M-L)*n)<2^(n*(R-M)):=by
 rw[Nat.div_lt_iff_lt_mul (dp _),←d6,bx (M-L),←d7,show R-M+(M-L)=R-L by exact aq70 h1 h2]; exact hx
theorem o7{env:Env}{ns:Nms}{own:Nat}{σ:St}{ad:Nat→Addr}{s0:Shared}{Z0:Heap}{X cI f:Addr}{vs:Array Value}{ds ds':List D}{es:List IE}{i j l:Int}{st:Stmt}{r:List Stmt}(S:SR P wc sc env ns own ⟨hideAll s0.heap [X],Z0⟩ Z σ ad s)
  (L:Loose ns ⟨hideAll s0.heap [X],Z0⟩ Z σ ad s.heap X) (hl:s.heap.PlainList X vs) (hr:RepAll Z vs.toList ds) (H:eU P wc ft0 n) (R:Room A n) (kc:mT ns sc "inner" es st) (hd:es.mapM (evE ft0 n σ)=some [.int i,.int j,.int l]) (fI:sc.names.lookup (aa "inner")=some .free)
  (hc:env.cells.lookup (aa "inner")=some cI) (CI:∀{h':Heap},LeX P.T (hideAll s0.heap [X]) h'→h'.IsCell cI (some (.ref f))) (hf:∃o fd,Z.get? f=some o∧o.data= .func fd) {Q:Flow→Shared→Prop} {E:Value→Shared→Prop}
  (ih:∀a b c s1 Z1,Le Z Z1→Ok P Z1 s1→LeX P.T (hideAll s0.heap [X]) s1.heap→s1.heap.PlainList X vs→RepAll Z1 vs.toList ds→Z1.get? X=none→∀{Q:Value→Shared→Prop} {E:Value→Shared→Prop},(∀s' Z' vs',GoX X P Z1 s1 Z' s'→s'.heap.PlainList X vs'→RepAll Z' vs'.toList ds'→Q .none s')→
   wpAny P.M A (call (.ref f) [.int i a,.int j b,.int l c]) Q E s1)
  (h:∀s' Z' vs',Le Z Z'→SR P wc sc env ns own ⟨hideAll s0.heap [X],Z0⟩ Z' σ ad s'→Loose ns ⟨hideAll s0.heap [X],Z0⟩ Z' σ ad s'.heap X→s'.heap.PlainList X vs'→RepAll Z' vs'.toList ds'→wpAny P.M A (execs r env) Q E s')
  (hb:(es.all fun e=> !isBor e)=true:=by rfl):wpAny P.M A (execs (st::r) env) Q E s:=by
 refine S.callS3 H R kc hd (.inr fI) hc (CI S.base) hf (fun a b c s1 Z1 g S1=>?_) hb
 have L1:=L.go S.ok g
 refine dh hl fun m hl=>?_
 refine ih a b c s1 Z1 g.le g.ok S1.base ⟨m,g.keep _ _ (S.ok.listT ⟨m,hl⟩) hl⟩ (hr.le g.le) L1.zn fun s2 Z2 vs2 g2 hl2 hr2=>⟨rfl,?_⟩
 refine dh hl2 fun m2 hl2=>?_
 refine fu (S1.goX L1 g2 ⟨_,hl2,cG ⟨m2,hl2⟩ hl2⟩) fun S2 L2=>?_
 exact h s2 Z2 vs2 (g.le.trans g2.le) S2 L2 ⟨m2,hl2⟩ hr2
theorem sU(F:Facts P wc){body:List Stmt}(Sh:ShI sc body){f cA cN cI X:Addr}{clos:List (Str×Addr)}(h1:clos.lookup (aa "a_digits")=some cA)(h2:clos.lookup (aa "n")=some cN)(h3:clos.lookup (aa "inner")=some cI)
  (hn0:n<1000) {tn:Tok}:∀(k:Nat),k≤3→∀{A:Around} {Z:Heap} {s:Shared} {x L R:Nat} {tx tL tR:Tok} {ds:List D} {vs:Array Value},R-L≤2^k→L<R→R≤ds.length→ds.length≤64→x<2^(n*(R-L))→x<2^20000→
   Room A (k+7)→Ok P Z s→InAt Z f ["x","L","R"] sc body clos→s.heap.IsCell cA (some (.ref X))→s.heap.IsCell cN (some (.int n tn))→s.heap.IsCell cI (some (.ref f))→s.heap.PlainList X vs→RepAll Z vs.toList ds→Z.get? X=none→
   ∀{Q:Value→Shared→Prop} {E:Value→Shared→Prop},(∀s' Z' vs',GoX X P Z s Z' s'→s'.heap.PlainList X vs'→RepAll Z' vs'.toList (jB n x L (R-L) ds)→Q .none s')→wpAny P.M A (call (.ref f) [.int x tx,.int L tL,.int R tR]) Q E s:=by
 have H:eU P wc ft0 4:=(cK F FnOk.zero 4).1
 have HT:jN P wc ft0 4:=(cK F FnOk.zero 4).2
 have fA:=ir Sh.ck (.head _)
 have fI:=ir Sh.ck (.tail _ (.tail _ (.head _)))
 intro k
 induction k using Nat.strongRecOn with
 | ind k ih=>
 intro hk3 A Z s x L R tx tL tR ds vs hk hLR hRd hd64 hx hxb Rm ok IN CA CN CI hl hr hz Q E h
 have cellK:∀{h':Heap} {c:Addr} {v:Option Value},LeX P.T (hideAll s.heap [X]) h'→s.heap.IsCell c v→h'.IsCell c v:=fun kk C=>by
  have hc:=ok.cellT C
  refine bq C fun oc e hd=>?_
  refine dh hl fun m e'=>?_
  exact⟨oc,kk _ _ hc (hideAll_get [X] e (fun q=>by
   rw[ay.mp q,e']at e; cases e; cases hd)),hd⟩
 refine IN.call (wc:=wc) (ds:=[.int x,.int L,.int R]) (u:= .u0) (v:= .fro (.int n)) (w:= .u0) Rm ok rfl Sh.ck (uJ nofun nofun nofun)
  (uJ ⟨cA,_,h1,CA,fun υ υ υ=>trivial⟩ ⟨cN,_,h2,CN,fun υ υ υ=>⟨_,rfl,.int _ _⟩⟩ ⟨cI,_,h3,CI,fun υ υ υ=>trivial⟩) (.cons (.int _ _) (.cons (.int _ _) (.cons (.int _ _) .nil))) fun env s₁ QQ EE S Rj hcl hn hq=>?_
 have Rm':Room (A.deeper env) 4:=Rj.mono (by exact aq71)
 have h3:env.cells.lookup (aa "inner")=some cI:=by rw[hcl]; exact h3
 refine x7_8 Sh.ex fun υ υ υ υ υ υ υ e17_1 kt km kh ku kw kc kd=>?_; subst e17_1
 refine x7_5 kt fun υ υ υ υ υ υ υ kt kl kx e18_1 kn=>?_; subst e18_1
 refine S.ifS HT Rm' kt (ev_t (L:=L) (R:=R) rfl rfl) (fun hb s2 Z2 g2 S2=>?_) fun hb s2 Z2 g2 S2=>?_
 ·have hb:=of_decide_eq_true hb
  refine vV S2 H Rm' kl kx kn fA (by rw[hcl]; exact h1) (fun kk=>cellK (fun c o' hc e=>kk c o' hc (of_hideAll _ e)) CA) ok hl hr hz rfl rfl (by exact IJ hb hRd) hd64 fun s' Z' vs' g hl' hr'=>hq _ _ (h _ _ _ g hl' ?_)
  rw[show R-L=1 by exact II hb,qW (by exact IJ hb hRd) (by rw[show R-L=1 by exact II hb,eC]at hx; exact hx)]
  exact hr'
 ·have hb:=of_decide_eq_false hb
  obtain⟨j,rfl⟩:∃j,k=j+1:=by
   cases k with
   | zero=>exact absurd (show R-L≤1 from hk) (by exact aq74 hb hLR)
   | succ j=>exact⟨j,rfl⟩
  refine dh (⟨_,rfl⟩:∃M,(L+R) / 2=M) fun M hM=>?_
  have hML:=half hM hLR hb (p:=2^j) (by rw[cC,bx]at hk; exact hk) (aY (n:=2) (by decide) (Nat.le_of_succ_le_succ hk3):2^j≤2^2)
  have hsh:(M-L)*n<10000:=az (cX n hML.2.2.1) (by exact aq75 hn0)
  refine S2.asgS H Rm' km (hM▸yc (L:=L) (R:=R) rfl rfl) 6 rfl (by decide) fun s3 Z3 ad3 le3 S3=>?_
  refine S3.asgS H Rm' kh (DY (L:=L) (m:=M) (n:=n) rfl rfl rfl (bz hML.1) (by exact aq76 hML hRd hd64) (by exact aq77 hn0)) 7 rfl (by decide) fun s4 Z4 ad4 le4 S4=>?_
  refine S4.asgS H Rm' ku (DX (x:=x) (sh:=(M-L)*n) rfl rfl) 8 rfl (by decide) fun s5 Z5 ad5 le5 S5=>?_
  refine S5.asgS H Rm' kw (DZ (x:=x) (sh:=(M-L)*n) rfl rfl rfl hsh hxb) 9 rfl (by decide) fun s6 Z6 ad6 le6 S6=>?_
  have z6:Le Z Z6:=(((g2.le.trans le3).trans le4).trans le5).trans le6
  refine dh hl fun m hl=>?_
  refine lq (S6.expose hz hl (cG ⟨m,hl⟩ hl) (ok.listT ⟨m,hl⟩)) fun S7 L7 hl7=>?_
  refine o7 S7 L7 ⟨m,hl7⟩ (hr.le z6) H Rm' kc (i:=(x%2^((M-L)*n):Nat)) (j:=L) (l:=M) rfl fI h3 (fun kk=>cellK kk CI) (IN.fn z6)
   (fun υ υ υ s1 Z1 z ok1 b1 hl1 hr1 zn υ υ h'=>ih j (bZ j) (by exact uv hk3) hML.2.2.2.1 hML.1 (by exact aq79 hML hRd) hd64 (by rw[bx n]; exact eN _ (dp _)) (az (Nat.mod_le _ _) hxb) (Rj.mono (by exact F2)) ok1 (IN.le (z6.trans z)) (cellK b1 CA) (cellK b1 CN) (cellK b1 CI) hl1 hr1 zn h') fun s8 Z8 vs8 z8 S8 L8 hl8 hr8=>?_
  have e8:(jB n (x%2^((M-L)*n)) L (M-L) ds).length=ds.length:=mh (by exact aq81 hML hRd)
  refine o7 S8 L8 hl8 hr8 H Rm' kd (i:=(x / 2^((M-L)*n):Nat)) (j:=M) (l:=R) rfl fI h3 (fun kk=>cellK kk CI) (IN.fn (z6.trans z8))
   (fun υ υ υ s1 Z1 z ok1 b1 hl1 hr1 zn υ υ h'=>ih j (bZ j) (by exact uv hk3) hML.2.2.2.2 hML.2.1 (by rw[e8]; exact hRd) (by rw[e8]; exact hd64) (DC hx (bz hML.1) (bz hML.2.1)) (az (Nat.div_le_self _ _) hxb) (Rj.mono (by exact F2)) ok1 (IN.le ((z6.trans z8).trans z)) (cellK b1 CA) (cellK b1 CN) (cellK b1 CI) hl1 hr1 zn h') fun s9 Z9 vs9 z9 S9 L9 hl9 hr9=>?_
  refine wpAny_execs_nil (hn _ (h _ _ _ (S9.toGoX L9.zn) hl9 ?_))
  have e2:=qV (n:=n) (x:=x) (L:=L) (m:=M-L) (k:=R-M) (ds:=ds) (by exact aq82 hML hRd)
  rw[bx n,show L+(M-L)=M by exact aq83 hML,show M-L+(R-M)=R-L by exact aq84 hML]at e2
  rw[←e2]; exact hr9
end
noncomputable def nO:List String:=["a","n","a_digits","inner"]
noncomputable def kE:IE:= .bin .FloorDiv (.bin .Sub (.bin .Add (.mt .bitLength (.var 0) []) (.var 1)) (.int 1)) (.var 1)
structure NestCk(sc scI:Scope)(bodyI:List Stmt)(params:Arguments)(args:List String)(x1:String):Prop where
 kI:sc.names.lookup (aa "inner")=some .cell
 kA:sc.names.lookup (aa x1)=some .cell
 kN:sc.names.lookup (aa "n")=some .cell
 clos:∀env:Env,∀a b c,env.cells.lookup (aa x1)=some a→env.cells.lookup (aa "n")=some b→env.cells.lookup (aa "inner")=some c→closureFor scI env=pure [(aa "n",b),(aa "inner",c),(aa x1,a)]
 pm:params.defaults=[]∧params.kw_defaults=[]∧(∀env,annTrees params none env=[])
 bind:∀name qual clos doc pm cv ctv,∀vs:List Value,vs.length=args.length→bindArgs (fnX name qual params bodyI scI clos .none .none doc pm none cv ctv) ⟨vs,[]⟩=pure ((args.map aa).zip vs)
noncomputable def FK(ns:Nms)(sc:Scope)(x:String)(a c:IE)(st:Stmt):Prop:=∃p l q r t,st= .Assign [.Name (aa x) p] (.BinOp l .Mult r q) t∧ckE 20 ns sc a l=true∧ckE 20 ns sc c r=true
structure ShO(sc scI:Scope)(body bodyI:List Stmt)(params:Arguments)(posI:Pos):Prop where
 nc:NestCk sc scI bodyI params ["x","L","R"] "a_digits"
 ex:∃s1 s3 c s4,body=[s1,.FunctionDef (aa "inner") params bodyI [] none [] scI none (aa "inner") posI,s3,s4]∧FK (names nO) sc "a_digits" (.list [.int 0]) kE s1∧
  F7 (names nO) sc (.var 0) [c] s3∧mT (names nO) sc "inner" [.var 0,.int 0,.bi .len [.bor 2]] c∧BS (names nO) sc (.var 2) s4
section
variable {P:Pm}{wc:Addr}{sc:Scope}{env:Env}{ns:Nms}{own:Nat}{b:Bs}{Z Z':Heap}{σ:St}{ad:Nat→Addr}{s s':Shared}{A:Around}{n:Nat}
theorem tC{name:Str}{params:Arguments}{body:List Stmt}{scope:Scope}{pos:Pos}(hp:params.defaults=[]∧params.kw_defaults=[]∧(∀env,annTrees params none env=[])){Q:Flow→Shared→Prop}{E:Value→Shared→Prop}
  (h:wpAny P.M A (makeFunction name (qualnameIn env name name) params (.stmts body) scope env [] [] [] pos pos.line) (fun v s'=>wpAny P.M A (bindName env name v) (fun υ=>Q .next) E s') E s):
  wpAny P.M A (exec (.FunctionDef name params body [] none [] scope none name pos) env) Q E s:=by
 rw[exec_def]
 refine wpAny_bind (wpAny_standAt (wpAny_bind (wpAny_holding ?_)))
 rw[defaultsOf_eq,hp.1,hp.2.1,hp.2.2]
 refine wpAny_bind (aD ?_)
 refine wpAny_bind (wpAny_holding (aD ?_))
 refine wpAny_holding (wpAny_bind (aD ?_))
 exact wpAny_mono h (fun v s' h'=>wpAny_bind (wpAny_standAt (wpAny_bind (wpAny_mono h' (fun υ υ h''=>aD h'') fun υ υ x=>x)))) fun υ υ x=>x
theorem HN{ft:FT}{σ:St}{a n:Nat}(ha:σ[0]? =some (.fro (.int (a:Nat))))(hn:σ[1]? =some (.fro (.int (n:Nat))))(h0:0<n)(h1:n<1000):evE ft 6 σ kE=some (.int (((bitLen a+n-1) / n:Nat):Int)):=by
 refine Pl.cm (Pl.cm (Pl.cm (Pl.qt (Pl.aF ha) rfl rfl) (Pl.aF hn) rfl) Pl.cO rfl) (Pl.aF hn) ((Pl.xp ⟨by exact B4 h0,by rw[aT]; exact aK h1 (by decide)⟩).trans ?_)
 rw[show((bitLen a:Int)+(n:Int)-1)=((bitLen a+n-1:Nat):Int) by exact aq86 h0,ph]
theorem sf(a:Nat):a<2^bitLen (a:Int):=by
 unfold bitLen
 by_cases h:a=0
 ·subst h; simp
 ·rw[if_neg (by exact F1 h)]
  simpa using Nat.lt_log2_self (n:=a)
theorem se{a n:Nat}(h0:0<n):a<2^(n*((bitLen (a:Int)+n-1) / n)):=by
 refine aK (sf a) (aY (by decide) ?_)
 have:=ek (bitLen (a:Int)+n-1) n
 have:=eN (bitLen (a:Int)+n-1) h0
 lia -abstractProof
theorem SR.cellAt(S:SR P wc sc env ns own b Z σ ad s){i:Nat}{x:Str}(hi:ns[i]? =some (some x))(hk:sc.names.lookup x=some .cell):∃c o,env.cells.lookup x=some c∧s.heap.IsCell c o∧VR P wc env.locals b.B Z s.heap (ad i) σ[i]? o:=by
 rcases S.cel i x hi with q | ⟨_,c,o,h1,h2,h3,_⟩
 ·rcases S.cf x (.inl hk) with k | k<;>(rw[q]at k; cases k)
 ·exact uo c o h1 h2 h3
theorem SR.cellFro(S:SR P wc sc env ns own b Z σ ad s){i:Nat}{x:Str}(hi:ns[i]? =some (some x))(hk:sc.names.lookup x=some .cell){c:Addr}(hc:env.cells.lookup x=some c){d:D}(hd:σ[i]? =some (.fro d)):∃v,s.heap.IsCell c (some v)∧Rep Z v d:=by
 refine gw (S.cellAt hi hk) fun c' o h1 h2 h3=>?_
 rw[hc]at h1; cases h1
 rw[hd]at h3
 obtain⟨v,rfl,r⟩:=h3
 exact gX v h2 r
theorem SR.cellMut(S:SR P wc sc env ns own b Z σ ad s){i:Nat}{x:Str}(hi:ns[i]? =some (some x))(hk:sc.names.lookup x=some .cell){c:Addr}(hc:env.cells.lookup x=some c){ds:List D}(hd:σ[i]? =some (.mut ds)):
  ∃vs,s.heap.IsCell c (some (.ref (ad i)))∧s.heap.PlainList (ad i) vs∧RepAll Z vs.toList ds∧Z.get? (ad i)=none:=by
 refine gw (S.cellAt hi hk) fun c' o h1 h2 h3=>?_
 rw[hc]at h1; cases h1
 rw[hd]at h3
 obtain⟨vs,rfl,l,r,z,υ⟩:=h3
 exact FZ vs h2 l r z
theorem Go.cell{c:Addr}{v:Option Value}(g:Go P Z s Z' s')(ok:Ok P Z s)(C:s.heap.IsCell c v):s'.heap.IsCell c v:=by
 have hc:=ok.cellT C
 refine bq C fun o e dd=>?_
 exact gX o (g.keep _ _ hc e) dd
theorem rV{c T:Addr}{posI:Pos}{q:Str}{scI:Scope}{bodyI:List Stmt}{params:Arguments}{args:List String}{x1:String}{iA iN iI:Nat}{r:List Stmt}{Q:Flow→Shared→Prop}{E:Value→Shared→Prop}(N:NestAt P c T posI ((q++".<locals>.")++aa "inner"))
  (C:NestCk sc scI bodyI params args x1) (S:SR P wc sc env ns 0 b Z σ ad s) (hA:ns[iA]? =some (some (aa x1))) (hN:ns[iN]? =some (some (aa "n"))) (hI:ns[iI]? =some (some (aa "inner"))) (hu:σ[iI]? =some .u0)
  (hcode:env.code= .ref c) (hqual:env.qual=q++".<locals>.") (hscope:env.scope=sc)
  (h:∀f cA cN cI s' Z',SR P wc sc env ns 0 b Z' σ ad s'→InAt Z' f args scI bodyI [(aa "n",cN),(aa "inner",cI),(aa x1,cA)]→s'.heap.IsCell cI (some (.ref f))→env.cells.lookup (aa x1)=some cA→env.cells.lookup (aa "n")=some cN→
   env.cells.lookup (aa "inner")=some cI→wpAny P.M A (execs r env) Q E s'):wpAny P.M A (execs (.FunctionDef (aa "inner") params bodyI [] none [] scI none (aa "inner") posI::r) env) Q E s:=by
 refine x2_2 (S.cellAt hA C.kA) fun cA υ hcA υ=>?_
 refine x2_2 (S.cellAt hN C.kN) fun cN υ hcN υ=>?_
 refine x2_2 (S.cellAt hI C.kI) fun cI υ hcI υ=>?_
 have hko:env.kindOf (aa "inner")=some .cell:=by unfold Env.kindOf; rw[hscope]; exact C.kI
 have hqn:qualnameIn env (aa "inner") (aa "inner")=(q++".<locals>.")++aa "inner":=by
  unfold qualnameIn
  rw[hko,hqual]; rfl
 refine wpAny_execs_cons (tC C.pm (hqn▸?_))
 refine sd N S.ok (C.clos env cA cN cI hcA hcN hcI) S.glob hcode fun f cv ctv doc s6 Z6 g6 υ hfz hrec=>?_
 have hl:iI<σ.length:=by
  rcases bS iI σ.length with q | q
  ·exact q
  ·rw[bj q]at hu; cases hu
 refine(S.go g6).storeCell hI (bK _) hl hu hko fun s7 cI' hI' CI υ υ υ S7=>?_
 rw[hcI]at hI'; cases hI'
 exact h f cA cN cI s7 Z6 S7 ⟨_,_,hfz,rfl,hrec,rfl,rfl,rfl,rfl,rfl,fun vs hv=>C.bind _ _ _ _ _ _ _ vs hv⟩ CI hcA hcN hcI
theorem DefAt.call{nms:List String}{na:Nat}{a c:Addr}{q:Str}{body:List Stmt}(K:DefAt P nms na a sc body c q)(R:Room A (n+1))(ok:Ok P Z s){vs:List Value}{ds:List D}(r:RepAll Z vs ds)(hlen:ds.length=na){Q:Value→Shared→Prop}{E:Value→Shared→Prop}
  (k:∀env s₁ q' e,SR P wc sc env (names nms) 0 ⟨s.heap,Z⟩ Z (ds.map .fro++aq (nms.length-na) .u0) (fun i=>i) s₁→Room (A.deeper env) n→env.code= .ref c→env.qual=q++".<locals>."→env.scope=sc→(∀v s',Q v s'→q' (.ret v) s')→
   wpAny P.M (A.deeper env) (execs body env) q' e s₁):wpAny P.M A (call (.ref a) vs) Q E s:=
 wpAny_call (tH K R ok r hlen fun env s₁ S υ R' h1 h2 h3=>k env s₁ _ _ S R' h1 h2 h3 fun υ υ h=>h)
end
section
variable {P:Pm}{wc:Addr}{sc scI:Scope}{Z Z':Heap}{s s':Shared}{A:Around}
theorem Ac{ds:List D}{d:D}(h:i2d ds=some d):∃x n:Nat,ds=[.int x,.int n]∧x<2^20000∧0<n∧n<1000∧(bitLen (x:Int)+n-1) / n≤8∧d= .list ((digs n x ((bitLen (x:Int)+n-1) / n)).map fun(d:Nat)=> .int d):=by
 refine d2E h fun y z h=>?_
 refine dIE (x:=y) h fun a h=>?_
 refine dIE (x:=z) h fun n h=>?_
 by_cases hc:0≤a∧a.natAbs<2^20000∧0<n∧n<1000∧(bitLen a+n.toNat-1) / n.toNat≤8
 ·have h:=ax.inj ((if_pos hc).symm.trans h)
  refine FQ hc fun h0 h1 h2 h3 h4=>?_
  refine dh (Int.eq_ofNat_of_zero_le h0) fun x ex=>?_
  refine dh (Int.eq_ofNat_of_zero_le (eu h2)) fun m em=>?_
  subst ex em
  exact⟨x,m,rfl,h1,Int.natCast_pos.mp h2,bN.mp h3,h4,h.symm⟩
 ·exact kon ((if_neg hc).symm.trans h)
theorem SR.mulS{nms:List String}{b:Bs}{σ:St}{env:Env}{ad:Nat→Addr}{x:String}{ie:IE}{st:Stmt}{r:List Stmt}{k i:Nat}(S:SR P wc sc env (names nms) 0 b Z σ ad s)(F:Facts P wc)(R:Room A 6)(hs:FK (names nms) sc x (.list [.int 0]) ie st)(he:evE ft0 6 σ ie=some (.int k))(hb:isBor ie=false)(hk:k≤8)
  (hi:(names nms)[i]? =some (some (aa x))) {Q:Flow→Shared→Prop} {E:Value→Shared→Prop} (h:∀s' Z' ad',SR P wc sc env (names nms) 0 b Z' (σ.set i (.mut (aq k (.int 0)))) ad' s'→wpAny P.M A (execs r env) Q E s'):wpAny P.M A (execs (st::r) env) Q E s:=by
 refine x5_3 hs fun υ l υ υ υ e25_1 kl kr=>?_; subst e25_1
 have H:∀m,eU P wc ft0 m:=fun m=>(cK F FnOk.zero m).1
 refine bq (oT (H 5) (R.mono (by decide)) kl (d:= .list [.int 0]) rfl S) fun l0 el0 nl=>?_
 cases el0
 refine wpAny_execs_cons (dD (ew rfl _ _) (wpAny_BinOp (nl _ _ fun aL s2 Z2 vs2 g2 hl2 hr2 h02 hz2=>?_)))
 refine SR.evI (S.go g2) (H 6) R kr he (fun t s3 Z3 g3 S3=>?_) hb
 have hl3:s3.heap.PlainList aL vs2:=by
  refine dh hl2 fun m e=>?_
  exact⟨m,g3.keep _ _ (g2.ok.listT ⟨m,e⟩) e⟩
 refine iK hl3 (hr2.le g3.le) ⟨by exact aq89 hk,by decide,by exact aq90⟩ fun oL lL hof hl4 hr4=>?_
 refine F6.push (P:=P) (Q:=fun u s3=>wpAny P.M _ (bindName env _ u) (fun υ=>_) _ s3) (g2.trans g3) hl4 hr4 (k:=s3.toks) g3.ok.tk fun aM s4 Z4 vs4 g4 hl4 hr4 h04 hz4=>?_
 refine S.bindMut g4 (jh _) hi hl4 hr4 h04 hz4 fun s5 ad5 S5=>h s5 Z4 ad5 ?_
 rw[aG,List.flatten_replicate_singleton]at S5
 exact S5
theorem SR.retMut{ns:Nms}{s0:Shared}{Z0:Heap}{σ:St}{env:Env}{ad:Nat→Addr}{i:Nat}{x:Str}{st:Stmt}{ds:List D}(S:SR P wc sc env ns 0 ⟨s0.heap,Z0⟩ Z σ ad s)(H:eU P wc ft0 3)(R:Room A 3)(hs:BS ns sc (.var i) st)(hi:ns[i]? =some (some x))(hd:σ[i]? =some (.mut ds))
  {Q:Flow→Shared→Prop} {E:Value→Shared→Prop} (h:∀v s' Z',Go P Z0 s0 Z' s'→Rep Z' v (.list ds)→Q (.ret v) s'):wpAny P.M A (execs [st] env) Q E s:=by
 refine x2_2 hs fun υ υ e41_1 kv=>?_; subst e41_1
 refine bq (S.freeze hi hd) fun Z' υ S'=>?_
 have hl:i<σ.length:=by
  rcases bS i σ.length with q | q
  ·exact q
  ·rw[bj q]at hd; cases hd
 exact FW (H R kv (Pl.aF (List.getElem?_set_self hl)) S' fun v s1 Z1 g1 υ r1=>h v s1 Z1 (S'.go g1).toGo (r1 rfl))
theorem Dh{x n k:Nat}(h0:0<n)(hk:(bitLen (x:Int)+n-1) / n=k):x<2^(n*(k-0)):=by
 subst hk; exact se h0
theorem Dl{x n k:Nat}(h0:0<n)(hk:(bitLen (x:Int)+n-1) / n=k)(hx:x≠0):0<k:=by
 have h:=Dh h0 hk
 rcases Nat.eq_zero_or_pos k with q | q
 ·subst q; exact absurd (Nat.lt_one_iff.mp h) hx
 ·exact q
theorem zP{n k:Nat}(hk:(bitLen ((0:Nat):Int)+n-1) / n=k)(h0:0<n):k=0:=by
 rw[←hk]
 exact dP (show 0+n-1<n by exact aq91 h0)
theorem qX{n x k:Nat}:jB n x 0 (k-0) (aq k (.int 0))=(digs n x k).map fun(d:Nat)=>PyData.int d:=by
 unfold jB
 rw[List.take_zero,Nat.sub_zero,cR,List.drop_of_length_le (by rw[bG]; exact bL _)]
 simp
theorem sT(F:Facts P wc){body bodyI:List Stmt}{params:Arguments}{posI:Pos}{a c T:Addr}{q:Str}(Sh:ShI scI bodyI)(So:ShO sc scI body bodyI params posI)(K:DefAt P nO 2 a sc body c q)(N:NestAt P c T posI ((q++".<locals>.")++aa "inner"))
  (R:Room A 20) (ok:Ok P Z s) {vs:List Value} {ds:List D} {d:D} (r:RepAll Z vs ds) (hd:i2d ds=some d):Gv P A Z s (call (.ref a) vs) d:=by
 intro Q E h
 refine Ge (Ac hd) fun x n e67_1 hx2 hn0 hn1 hk8 e67_2=>?_; subst e67_1; subst e67_2
 refine x4_5 So.ex fun υ υ υ υ e68_1 k1 k3 kc k4=>?_; subst e68_1
 have H:∀m,eU P wc ft0 m:=fun m=>(cK F FnOk.zero m).1
 refine K.call (wc:=wc) (n:=19) R ok r rfl fun env s₁ q' e S R hcode hqual hscope hq=>?_
 refine dh (⟨_,rfl⟩:∃k,(bitLen (x:Int)+n-1) / n=k) fun k hk=>?_
 rw[hk]at hk8 h
 refine S.mulS F (R.mono (by decide)) k1 (hk▸HN (a:=x) (n:=n) rfl rfl hn0 hn1) rfl hk8 (i:=2) rfl fun s2 Z2 ad2 S2=>?_
 refine rV N So.nc S2 (iA:=2) (iN:=1) (iI:=3) rfl rfl rfl rfl hcode hqual hscope fun f cA cN cI s3 Z3 S3 IN CI hA hN hI=>?_
 have fin:=fun{σ ad s' Z'} (S':SR P wc sc env (names nO) 0 ⟨s.heap,Z⟩ Z' σ ad s') (hσ:σ[2]? =some (.mut ((digs n x k).map fun(d:Nat)=>PyData.int d)))=>S'.retMut (A:=A.deeper env) (E:=e) (H 3) (R.mono (by decide)) k4 (i:=2) rfl hσ fun v s' Z' g r=>hq v s' (h v s' Z' g r)
 refine S3.ifS (cK F FnOk.zero 4).2 (R.mono (by decide)) k3 (Pl.fF (x:= .int x) (t:=(x:Int) !=0) (Pl.aF rfl) rfl) (fun hb s4 Z4 g4 S4=>?_) fun hb s4 Z4 g4 S4=>?_
 ·have hx:x≠0:=fun q=>by subst q; cases hb
  refine S4.callS3 (i:=x) (j:=(0:Nat)) (l:=k) (H 5) (R.mono (by decide)) kc (Pl.aS (Pl.aF rfl) (Pl.aS rfl (Pl.aS (Pl.kq (Pl.aS (Pl.ic rfl) rfl) (Pl.BF (bG) (by rw[few_eq]; exact aq53 hk8))) rfl))) (.inl So.nc.kI) hI (g4.cell S3.ok CI) (IN.fn g4.le) fun υ υ υ s5 Z5 g5 S5=>?_
  refine B9 (S5.cellMut (i:=2) rfl So.nc.kA hA rfl) fun vs5 CA5 hl5 hr5 hz5=>?_
  refine bq (S5.cellFro (i:=1) rfl So.nc.kN hN rfl) fun vn CN5 rn=>?_
  refine dh rn.int_inv fun tn e81_1=>?_; subst e81_1
  refine sU F Sh (cA:=cA) (cN:=cN) (cI:=cI) rfl rfl rfl hn1 3 (bL _) (by exact aq92 hk8) (Dl hn0 hk hx) (by rw[bG]; exact bL _) (by rw[bG]; exact aq93 hk8) (Dh hn0 hk) hx2 (R.mono (by decide)) S5.ok (IN.le (g4.le.trans g5.le)) CA5 CN5 (g5.cell S4.ok (g4.cell S3.ok CI)) hl5 hr5 hz5
   fun s6 Z6 vs6 g6 hl6 hr6=>⟨rfl,wpAny_execs_nil (env:=env) (fin (S5.goXm (i:=2) rfl rfl g6 hl6 (qX▸hr6)) rfl)⟩
 ·have hx:x=0:=Int.ofNat_eq_zero.mp (Classical.byContradiction fun q=>by rw[bne_iff_ne.mpr q]at hb; cases hb)
  subst hx
  have hk0:=zP hk hn0
  subst hk0
  exact fin S4 rfl
end
theorem oa(n:Nat):∀(a b:List Int),kK n (a++b)=kK n a+2^(n*a.length)*kK n b:=by
 intro a
 induction a with
 | nil=>
  exact fun b=>by simp[tP,jy]
 | cons x a ih=>
  intro b
  rw[cY,jy,ih b,jy,ah,d7,eC]
  rw[Int.mul_add,←Int.mul_assoc,Int.add_assoc]
  congr 2
  rw[Int.pow_add,Int.mul_comm (2^n*_),Int.mul_comm (2^n),Int.mul_comm]
theorem qh{n:Nat}(hn:n<1000):∀(l:List Int),(∀i∈l,i.natAbs<2^5000)→(kK n l).natAbs≤2^(5000+1000*l.length):=by
 intro l
 induction l with
 | nil=>
  exact fun υ=>by simp[tP,jy]
 | cons x l ih=>
  intro h
  have h1:=h x (.head _)
  have h2:=ih fun i hi=>h i (.tail _ hi)
  rw[jy]
  refine af (Int.natAbs_add_le _ _) ?_
  rw[Int.natAbs_mul,Int.natAbs_pow]
  have e1:(2:Nat)^(5000+1000*(x::l).length)=2^(5000+1000*l.length+999)*2:=by
   rw[←cC,ah]; rfl
  have a1:x.natAbs≤2^(5000+1000*l.length+999):=af (bz h1) (aY (by decide) (by exact aq94))
  have a2:2^n*(kK n l).natAbs≤2^(5000+1000*l.length+999):=by
   rw[d6,bx]
   exact fk h2 (aY (by decide) (by exact aq95 hn))
  have a3:(2:Int).natAbs=2:=rfl
  rw[e1,a3]
  lia -abstractProof
theorem qg{n:Nat}(hn:n<1000){l:List Int}(h:∀i∈l,i.natAbs<2^5000)(h8:l.length≤8):(kK n l).natAbs<2^30000:=
 az (qh hn l h) (cp (bL 2) (by exact aq96 h8))
theorem add_int(a b:Int):dO .Add (.int a) (.int b)=some (.int (a+b)):=rfl
noncomputable def nJ:List String:=["digits","n","inner"]++["L","R"]++["mid","shift"]
noncomputable def midJ:IE:= .bin .RShift (.bin .Add (.var 3) (.var 4)) (.int 1)
noncomputable def shJ:IE:= .bin .Mult (.bin .Sub (.var 5) (.var 3)) (.var 1)
noncomputable def RetJ(sc:Scope)(st:Stmt):Prop:=∃u w v p q r,st= .Return (some (.BinOp (.BinOp u .LShift w p) .Add v q)) r∧pE (names nJ) sc "inner" [.var 5,.var 4] u∧ckE 20 (names nJ) sc (.var 6) w=true∧pE (names nJ) sc "inner" [.var 3,.var 5] v
structure ShJ(sc:Scope)(body:List Stmt):Prop where
 ck:k6 ["digits","n","inner"] ["L","R"] ["mid","shift"] sc=true
 ex:∃a r b c d,body=[a,b,c,d]∧F7 (names nJ) sc (.cmp .Eq (.bin .Add (.var 3) (.int 1)) (.var 4)) [r] a∧BS (names nJ) sc (.idx (.var 0) (.var 3)) r∧oB (names nJ) sc "mid" midJ b∧oB (names nJ) sc "shift" shJ c∧RetJ sc d
section
variable {ft:FT}{σ:St}{L R n m:Nat}
theorem gM{xs:List D}{L:Nat}(h8:L<1000):idxD xs (L:Int)=xs[L]? :=by
 have hf:(L:Int)<((few:Nat):Int):=by have:=few_eq; exact aq97 h8 this
 unfold idxD
 rw[if_pos (aN _),if_pos hf,aG]
theorem D0{is:List Int}(hD:σ[0]? =some (.fro (.list (is.map PyData.int))))(hL:σ[3]? =some (.fro (.int (L:Nat))))(h:L<is.length)(h8:L<100):evE ft 4 σ (.idx (.var 0) (.var 3))=some (.int is[L]):=
 Pl.j6 (Pl.aF hD) (Pl.aF hL) rfl (by
  rw[gM (by exact aq98 h8),aW,aR h]
  rfl)
end
theorem wR{n L R:Nat}{is:List Int}(h:L+1=R)(hl:L<is.length):kK n ((is.drop L).take (R-L))=is[L]:=by
 rw[show R-L=1 by exact II h,List.drop_eq_getElem_cons hl,List.take_succ_cons,List.take_zero]
 simp[tP,jy]
theorem wQ{n L M R:Nat}{is:List Int}(h1:L<M)(h2:M<R)(h3:R≤is.length):kK n ((is.drop M).take (R-M))*2^((M-L)*n)+kK n ((is.drop L).take (M-L))=kK n ((is.drop L).take (R-L)):=by
 rw[show R-L=(M-L)+(R-M) by exact aq99 h1 h2,List.take_add,oa,List.drop_drop,show L+(M-L)=M by exact Ow h1,Int.add_comm]
 congr 1
 rw[List.length_take,List.length_drop,Nat.min_eq_left (by exact Ov h2 h3),Int.mul_comm,bx n]
section
variable {P:Pm}{wc:Addr}{sc:Scope}{Z Z':Heap}{s s':Shared}{A:Around}{n:Nat}
theorem A2{env:Env}{σ:St}{b:Bs}{ad:Nat→Addr}{cI f:Addr}{L M R sh:Nat}{x y:Int}{st:Stmt}(S:SR P wc sc env (names nJ) 3 b Z σ ad s)(H:eU P wc ft0 4)(R':Room A 4)(hs:RetJ sc st)(hL:σ[3]? =some (.fro (.int (L:Nat))))(hR:σ[4]? =some (.fro (.int (R:Nat))))(hM:σ[5]? =some (.fro (.int (M:Nat))))(hS:σ[6]? =some (.fro (.int (sh:Nat))))
  (fI:sc.names.lookup (aa "inner")=some .free) (hc:env.cells.lookup (aa "inner")=some cI) (CI:∀{h':Heap},LeX P.T b.B h'→h'.IsCell cI (some (.ref f))) (hf:∀{Z':Heap},Le Z Z'→∃o fd,Z'.get? f=some o∧o.data= .func fd)
  (hsh:sh<10000) (hx:x.natAbs<2^30000)
  (c1:∀a c s1 Z1,Le Z Z1→Ok P Z1 s1→LeX P.T b.B s1.heap→∀{Q:Value→Shared→Prop} {E:Value→Shared→Prop},(∀t s' Z',Go P Z1 s1 Z' s'→Q (.int x t) s')→wpAny P.M A (call (.ref f) [.int M a,.int R c]) Q E s1)
  (c2:∀a c s1 Z1,Le Z Z1→Ok P Z1 s1→LeX P.T b.B s1.heap→∀{Q:Value→Shared→Prop} {E:Value→Shared→Prop},(∀t s' Z',Go P Z1 s1 Z' s'→Q (.int y t) s')→wpAny P.M A (call (.ref f) [.int L a,.int M c]) Q E s1)
  {Q:Flow→Shared→Prop} {E:Value→Shared→Prop} (h:∀t s' Z',SR P wc sc env (names nJ) 3 b Z' σ ad s'→Q (.ret (.int (x*2^sh+y) t)) s'):wpAny P.M A (execs [st] env) Q E s:=by
 refine x6_4 hs fun υ υ υ υ υ υ e76_1 ku kw kv=>?_; subst e76_1
 refine FW (wpAny_BinOp (wpAny_BinOp ?_))
 refine S.callE2 (i:=M) (j:=R) H R' ku (Pl.aS (Pl.aF hM) (Pl.aS (Pl.aF hR) rfl)) (.inr fI) hc (CI S.base) (hf (.refl _)) fun υ υ s1 Z1 g1 S1=>c1 _ _ s1 Z1 g1.le g1.ok S1.base fun t2 s2 Z2 g2=>?_
 have S2:=S1.go g2
 refine S2.evI H R' kw (Pl.aF hS) fun t3 s3 Z3 g3 S3=>?_
 refine kj (n:=4) R' S3.ok (x:= .int x) (y:= .int sh) (d:= .int (x*2^sh)) ?_ (.of (.int _ _)) (.of (.int _ _)) _ _ fun v4 s4 Z4 g4 r4=>?_
 ·rw[Pl.xn ⟨aN _,by exact EP hsh,fZ hx (fG (by decide))⟩,aG]
 refine dh r4.int_inv fun t4 e83_1=>?_; subst e83_1
 have S4:=S3.go g4
 have z4:=((g1.le.trans g2.le).trans g3.le).trans g4.le
 refine S4.callE2 (i:=L) (j:=M) H R' kv (Pl.aS (Pl.aF hL) (Pl.aS (Pl.aF hM) rfl)) (.inr fI) hc (CI S4.base) (hf z4) fun υ υ s5 Z5 g5 S5=>c2 _ _ s5 Z5 (z4.trans g5.le) g5.ok S5.base fun t6 s6 Z6 g6=>?_
 have S6:=S5.go g6
 refine kj (n:=4) R' S6.ok (x:= .int _) (y:= .int _) (d:= .int (x*2^sh+y)) (add_int _ _) (.of (.int _ _)) (.of (.int _ _)) _ _ fun v7 s7 Z7 g7 r7=>?_
 refine dh r7.int_inv fun t7 e89_1=>?_; subst e89_1
 exact h t7 s7 Z7 (S6.go g7)
theorem tO(F:Facts P wc){body:List Stmt}(Sh:ShJ sc body){f cA cN cI:Addr}{clos:List (Str×Addr)}(h1:clos.lookup (aa "digits")=some cA)(h2:clos.lookup (aa "n")=some cN)(h3:clos.lookup (aa "inner")=some cI)
  (hn0:n<1000) {tn:Tok} {vD:Value} {is:List Int} (hlen:is.length≤8) (hsm:∀i∈is,i.natAbs<2^5000):∀(k:Nat),k≤3→∀{A:Around} {Z:Heap} {s:Shared} {L R:Nat} {tL tR:Tok},R-L≤2^k→L<R→R≤is.length→
   Room A (k+7)→Ok P Z s→InAt Z f ["L","R"] sc body clos→Rep Z vD (.list (is.map PyData.int))→s.heap.IsCell cA (some vD)→s.heap.IsCell cN (some (.int n tn))→s.heap.IsCell cI (some (.ref f))→
   ∀{Q:Value→Shared→Prop} {E:Value→Shared→Prop},(∀t s' Z',Go P Z s Z' s'→Q (.int (kK n ((is.drop L).take (R-L))) t) s')→wpAny P.M A (call (.ref f) [.int L tL,.int R tR]) Q E s:=by
 have H:eU P wc ft0 4:=(cK F FnOk.zero 4).1
 have HT:jN P wc ft0 4:=(cK F FnOk.zero 4).2
 have fI:=ir Sh.ck (.tail _ (.tail _ (.head _)))
 intro k
 induction k using Nat.strongRecOn with
 | ind k ih=>
 intro hk3 A Z s L R tL tR hk hLR hRd Rm ok IN rD CA CN CI Q E h
 have cellK:∀{h':Heap} {c:Addr} {v:Option Value},LeX P.T s.heap h'→s.heap.IsCell c v→h'.IsCell c v:=fun kk C=>by
  have hc:=ok.cellT C
  obtain⟨oc,e,hd⟩:=C
  exact⟨oc,kk _ _ hc e,hd⟩
 refine IN.call (wc:=wc) (ds:=[.int L,.int R]) (u:= .fro (.list (is.map PyData.int))) (v:= .fro (.int n)) (w:= .u0) Rm ok rfl Sh.ck (uJ nofun nofun nofun)
  (uJ ⟨cA,_,h1,CA,fun υ υ υ=>⟨_,rfl,rD⟩⟩ ⟨cN,_,h2,CN,fun υ υ υ=>⟨_,rfl,.int _ _⟩⟩ ⟨cI,_,h3,CI,fun υ υ υ=>trivial⟩) (.cons (.int _ _) (.cons (.int _ _) .nil)) fun env s₁ QQ EE S Rj hcl υ hq=>?_
 have R4:Room (A.deeper env) 4:=Rj.mono (by exact aq71)
 have h3:env.cells.lookup (aa "inner")=some cI:=by rw[hcl]; exact h3
 obtain⟨υ,υ,υ,υ,υ,rfl,ka,kr,km,kh,kd⟩:=Sh.ex
 refine S.ifS HT R4 ka (ev_t (L:=L) (R:=R) rfl rfl) (fun hb s2 Z2 g2 S2=>?_) fun hb s2 Z2 g2 S2=>?_
 ·have hb:=of_decide_eq_true hb
  have hLl:L<is.length:=aK hLR hRd
  obtain⟨υ,υ,rfl,kr⟩:=kr
  exact FW (S2.evI H R4 kr (D0 rfl rfl hLl (by exact Ou hlen hLl)) fun t s3 Z3 g3 S3=>hq _ _ (wR (n:=n) hb hLl▸h t s3 Z3 S3.toGo))
 ·have hb:=of_decide_eq_false hb
  obtain⟨j,rfl⟩:∃j,k=j+1:=by
   cases k with
   | zero=>exact absurd (show R-L≤1 from hk) (by exact aq74 hb hLR)
   | succ j=>exact⟨j,rfl⟩
  obtain⟨M,hM⟩:∃M,(L+R) / 2=M:=⟨_,rfl⟩
  have hML:=half hM hLR hb (p:=2^j) (by rw[cC,bx]at hk; exact hk) (aY (n:=2) (by decide) (Nat.le_of_succ_le_succ hk3):2^j≤2^2)
  have hsh:(M-L)*n<10000:=az (cX n hML.2.2.1) (by exact aq75 hn0)
  refine S2.asgS H R4 km (hM▸yc (L:=L) (R:=R) rfl rfl) 5 rfl (by decide) fun s3 Z3 ad3 le3 S3=>?_
  refine S3.asgS H R4 kh (DY (L:=L) (m:=M) (n:=n) rfl rfl rfl (bz hML.1) (by exact Ot hML hRd hlen) (by exact aq77 hn0)) 6 rfl (by decide) fun s4 Z4 ad4 le4 S4=>?_
  have z4:Le Z Z4:=(g2.le.trans le3).trans le4
  exact A2 (L:=L) (M:=M) (R:=R) (sh:=(M-L)*n) S4 H R4 kd rfl rfl rfl rfl fI h3 (fun kk=>cellK kk CI) (fun kk=>IN.fn (z4.trans kk)) hsh (qg hn0 (fun i hi=>hsm i (List.mem_of_mem_drop (List.mem_of_mem_take hi))) (af (List.length_take_le _ _) (by exact Oq hM hML)))
   (fun υ υ s5 Z5 z5 ok5 b5 υ υ h'=>ih j (bZ j) (by exact uv hk3) hML.2.2.2.2 hML.2.1 hRd (Rj.mono (by exact F2)) ok5 (IN.le (z4.trans z5)) (rD.le (z4.trans z5)) (cellK b5 CA) (cellK b5 CN) (cellK b5 CI) h')
   (fun υ υ s5 Z5 z5 ok5 b5 υ υ h'=>ih j (bZ j) (by exact uv hk3) hML.2.2.2.1 hML.1 (by exact aq79 hML hRd) (Rj.mono (by exact F2)) ok5 (IN.le (z4.trans z5)) (rD.le (z4.trans z5)) (cellK b5 CA) (cellK b5 CN) (cellK b5 CI) h')
   fun t s' Z' S'=>hq _ _ (wQ hML.1 hML.2.1 hRd▸h t s' Z' S'.toGo)
end
noncomputable def nP:List String:=["digits","n","inner"]
noncomputable def RetP(sc:Scope)(st:Stmt):Prop:=∃t u z p q,st= .Return (some (.IfExp t u z p)) q∧ckE 20 (names nP) sc (.var 0) t=true∧pE (names nP) sc "inner" [.int 0,.bi .len [.var 0]] u∧ckE 20 (names nP) sc (.int 0) z=true
structure ShP(sc scI:Scope)(body bodyI:List Stmt)(params:Arguments)(posI:Pos):Prop where
 nc:NestCk sc scI bodyI params ["L","R"] "digits"
 ex:∃r,body=[.FunctionDef (aa "inner") params bodyI [] none [] scI none (aa "inner") posI,r]∧RetP sc r
section
variable {P:Pm}{wc:Addr}{sc scI:Scope}{Z Z':Heap}{s s':Shared}{A:Around}
theorem qa{xs:List D}:∀{is:List Int},gL xs=some is→xs=is.map PyData.int:=by
 induction xs with
 | nil=>intro is h; cases h; rfl
 | cons x r ih=>
  intro is h
  cases x with
  | int i=>
   refine bq (aQ.mp (show(gL r).map _=some is from h)) fun js hj e24_1=>?_; subst e24_1
   rw[ih hj]; rfl
  | _=>cases h
theorem A3{ds:List D}{d:D}(h:d2i ds=some d):∃(is:List Int) (n:Nat),ds=[.list (is.map .int),.int n]∧0<n∧n<1000∧is.length≤8∧(∀i∈is,i.natAbs<2^5000)∧d= .int (kK n is):=by
 refine d2E h fun y z h=>?_
 refine dLE (x:=y) h fun xs h=>?_
 refine dIE (x:=z) h fun n h=>?_
 refine bq (ao.mp h) fun is his h'=>?_
 by_cases hc:0<n∧n<1000∧is.length≤8∧is.all (fun i=>decide (i.natAbs<2^5000))
 ·have h':=ax.inj ((if_pos hc).symm.trans h')
  refine FR hc fun h2 h3 h4 h5=>?_
  refine dh (Int.eq_ofNat_of_zero_le (eu h2)) fun m em=>?_
  subst em
  exact Ad is m (qa his▸rfl) (Int.natCast_pos.mp h2) (bN.mp h3) h4 (fun i hi=>of_decide_eq_true (bh.mp h5 i hi)) h'.symm
 ·exact kon ((if_neg hc).symm.trans h')
theorem tN(F:Facts P wc){body bodyI:List Stmt}{params:Arguments}{posI:Pos}{a c T:Addr}{q:Str}(Sh:ShJ scI bodyI)(So:ShP sc scI body bodyI params posI)(K:DefAt P nP 2 a sc body c q)(N:NestAt P c T posI ((q++".<locals>.")++aa "inner"))
  (R:Room A 20) (ok:Ok P Z s) {vs:List Value} {ds:List D} {d:D} (r:RepAll Z vs ds) (hd:d2i ds=some d):Gv P A Z s (call (.ref a) vs) d:=by
 intro Q E h
 refine Ge (A3 hd) fun is n e46_1 hn0 hn1 hk8 hsm e46_2=>?_; subst e46_1; subst e46_2
 obtain⟨υ,rfl,υ,u,z,υ,υ,rfl,kt,kc,kz⟩:=So.ex
 have H:∀m,eU P wc ft0 m:=fun m=>(cK F FnOk.zero m).1
 refine K.call (wc:=wc) (n:=19) R ok r rfl fun env s₁ q' e S R hcode hqual hscope hq=>?_
 refine rV N So.nc S (iA:=0) (iN:=1) (iI:=2) rfl rfl rfl rfl hcode hqual hscope fun f cA cN cI s3 Z3 S3 IN CI hA hN hI=>FW ?_
 have hlen:(is.map PyData.int).length≤few:=by rw[ag,few_eq]; exact aq53 hk8
 refine wpAny_IfExp ((cK F FnOk.zero 4).2 (R.mono (by decide)) kt (t:= !(is.map PyData.int).isEmpty) (Pl.fF (Pl.aF (d:= .list (is.map PyData.int)) rfl) (if_pos hlen:(if _ then _ else none)=_)) S3 fun s4 Z4 g4=>?_)
 have S4:=S3.go g4
 rcases is with _ | ⟨i0,is⟩
 ·refine(?_:wpAny P.M _ (eval z env) _ _ s4)
  exact S4.evI (H 4) (R.mono (by decide)) kz (x:=0) rfl fun t s5 Z5 g5 S5=>hq _ _ (h (.int 0 t) s5 Z5 S5.toGo (.int _ _))
 ·refine(?_:wpAny P.M _ (eval u env) _ _ s4)
  refine S4.callE2 (i:=(0:Nat)) (j:=((i0::is).length:Nat)) (H 5) (R.mono (by decide)) kc (Pl.aS rfl (Pl.aS (Pl.kq (Pl.aS (Pl.aF rfl) rfl) (Pl.BF (ag _) (by rw[←ag (f:=PyData.int)]; exact hlen))) rfl)) (.inl So.nc.kI) hI (g4.cell S3.ok CI) (IN.fn g4.le) fun υ υ s5 Z5 g5 S5=>?_
  refine bq (S5.cellFro (i:=0) rfl So.nc.kA hA rfl) fun vD CA5 rD=>?_
  refine bq (S5.cellFro (i:=1) rfl So.nc.kN hN rfl) fun vn CN5 rn=>?_
  refine dh rn.int_inv fun tn e61_1=>?_; subst e61_1
  refine tO F Sh (L:=0) (R:=(i0::is).length) (cA:=cA) (cN:=cN) (cI:=cI) rfl rfl rfl hn1 hk8 hsm 3 (bL _) (by rw[Nat.sub_zero]; exact hk8) (br _) (bL _) (R.mono (by decide)) S5.ok (IN.le (g4.le.trans g5.le)) rD CA5 CN5 (g5.cell S4.ok (g4.cell S3.ok CI)) fun t s6 Z6 g6=>hq _ _ ?_
  have:=h (.int (kK n (i0::is)) t) s6 Z6 (S5.go g6).toGo (.int _ _)
  rw[List.drop_zero,Nat.sub_zero,List.take_of_length_le (bL _)]
  exact this
end
noncomputable def fT(P:Pm)(nm:String)(f:Fn):Prop:=∃a sc body,P.mg (aa nm)=some (.ref a)∧FnAt P f a sc body
noncomputable def uh(P:Pm)(wc f:Addr):Prop:=
 ∀{A:Around} {Z:Heap} {s:Shared} {x dx:Addr} {fs:List (String×D)} {Q:Value×List Value→Shared→Prop} {E:Value→Shared→Prop} {n:Nat} {pl:Sem Bool},Room A n→Le P.g0 s.heap→jA wc Z s.heap x dx fs→fs.map (·.1)=wNames→
   Q (.ref f,[.ref x]) s→wpAny P.M A (getMethod (.ref x) (aa "longest_run_of_spaces") pl) Q E s
structure Tops(P:Pm)(wc:Addr):Prop where
 F:Facts P wc
 T:SetOk P wc
 ini:∃fI sc body,ClsAt P wc fI∧FnAt P j5 fI sc body
 run:∃fR sc body,uh P wc fR∧FnAt P nW fR sc body
 ell:fT P "_ellipsis_match" AI
 div:fT P "_div2n1n" B0
 dmp:fT P "_divmod_pos" DV
 idm:fT P "int_divmod" tA
 flg:fT P "pretty_flags" DU
 words:fT P "_law_words" mF
 roads:fT P "_law_roads" mG
 pat:fT P "_law_patterns_of_colours" DS
 col:fT P "_law_colourings" DW
 parts:fT P "_law_parts" mH
 one:fT P "_law_one_ways" DT
 i2d:∃a sc scI body bodyI params posI c T q,P.mg (aa "_int2digits")=some (.ref a)∧ShI scI bodyI∧ShO sc scI body bodyI params posI∧DefAt P nO 2 a sc body c q∧NestAt P c T posI ((q++".<locals>.")++aa "inner")
 d2i:∃a sc scI body bodyI params posI c T q,P.mg (aa "_digits2int")=some (.ref a)∧ShJ scI bodyI∧ShP sc scI body bodyI params posI∧DefAt P nP 2 a sc body c q∧NestAt P c T posI ((q++".<locals>.")++aa "inner")
section
variable {P:Pm}{wc:Addr}{ft:FT}{n:Nat}
theorem FnOk.put(O:FnOk P wc ft){i c:Nat}{nm:String}{a:Addr}{G:List D→Option D}(hi:j3 i=some nm)(hc:0<c)(hm:P.mg (aa nm)=some (.ref a))(hf:∃o fd,P.g0.get? a=some o∧o.data= .func fd)
  (h:∀{A:Around} {Z:Heap} {s:Shared} {vs:List Value} {ds:List D} {d:D},Room A c→Ok P Z s→RepAll Z vs ds→G ds=some d→Gv P A Z s (call (.ref a) vs) d):FnOk P wc (ftPut ft i c G):=by
 refine⟨fun j c' G' nm' hj hn=>?_,fun c' G' hr=>?_⟩
 ·unfold ftPut at hj
  split at hj
  ·rename_i e
   subst e
   cases hj
   rw[hi]at hn; cases hn
   exact⟨hc,a,hm,hf,fun R ok r hd=>h R ok r hd⟩
  ·exact O.fn j c' G' nm' hj hn
 ·unfold ftPut at hr
  split at hr
  ·rename_i e
   subst e
   cases hi
  ·exact O.run c' G' hr
theorem MkOk.put(Mk:MkOk P wc ft){i c:Nat}{G:List D→Option D}(hi:i≠20):MkOk P wc (ftPut ft i c G):=
 ⟨Mk.cw,fun c' G' h=>Mk.made c' G' (by unfold ftPut at h; rw[if_neg (fun e=>hi e.symm)]at h; exact h),Mk.set⟩
theorem FnOk.put20(O:FnOk P wc ft){c:Nat}{G:List D→Option D}:FnOk P wc (ftPut ft 20 c G):=by
 refine⟨fun j c' G' nm' hj hn=>?_,fun c' G' hr=>?_⟩
 ·unfold ftPut at hj
  split at hj
  ·rename_i e
   subst e
   cases hn
  ·exact O.fn j c' G' nm' hj hn
 ·unfold ftPut at hr
  rw[if_neg (by decide)]at hr
  exact O.run c' G' hr
theorem FnOk.putRun(O:FnOk P wc ft)(F:Facts P wc)(T:SetOk P wc){f:Fn}{a:Addr}{sc:Scope}{body:List Stmt}(K:FnAt P f a sc body)(h2:f.args=1)(h2':1≤f.names.length)(M:uh P wc a):FnOk P wc (ftPut ft 21 (n+1) (Cb ft0 n f)):=by
 refine⟨fun j c' G' nm' hj hn=>?_,fun c' G' hr=>?_⟩
 ·unfold ftPut at hj
  split at hj
  ·rename_i e
   subst e
   cases hn
  ·exact O.fn j c' G' nm' hj hn
 ·unfold ftPut at hr
  rw[if_pos rfl]at hr
  cases hr
  refine gw K.ex fun o fd ho hdata _=>?_
  exact⟨br _,a,⟨o,fd,ho,hdata⟩,fun R hle r hn hq=>M R hle r hn hq,fun R ok r hn hd=>pG F FnOk.zero (MkOk.zero T) K h2 h2' R ok r hn hd⟩
theorem MkOk.putInit(Mk:MkOk P wc ft)(F:Facts P wc)(T:SetOk P wc){f:Fn}{fI:Addr}{sc:Scope}{body:List Stmt}(K:FnAt P f fI sc body)(C:ClsAt P wc fI)(h2:f.args=2)(h2':2≤f.names.length):MkOk P wc (ftPut ft 20 (n+2) (pH ft0 n f)):=by
 refine⟨Mk.cw,fun c G h=>?_,Mk.set⟩
 unfold ftPut at h
 rw[if_pos rfl]at h
 cases h
 exact⟨br _,fun R ok rv hd υ υ h=>mY F T K C h2 h2' R ok rv hd h⟩
theorem Cj(W:Tops P wc):FnOk P wc ftL∧MkOk P wc ftL:=by
 have F:=W.F
 have fnHas:∀{nms na a sc body c q},DefAt P nms na a sc body c q→∃o fd,P.g0.get? a=some o∧o.data= .func fd:=fun K=>by obtain⟨o,fd,h1,h2,_⟩:=K.ex; exact⟨o,fd,h1,h2⟩
 have A1:FnOk P wc ftA∧MkOk P wc ftA:=by
  refine Ca W.i2d fun a sc scI body bodyI params posI c T q hm h1 h2 h3 h4=>?_
  refine Ca W.d2i fun a' sc' scI' body' bodyI' params' posI' c' T' q' hm' h1' h2' h3' h4'=>?_
  refine⟨FnOk.put (FnOk.put FnOk.zero (i:=2) rfl (by decide) hm (fnHas h3) fun R ok r hd=>?_) (i:=3) rfl (by decide) hm' (fnHas h3') fun R ok r hd=>?_,((MkOk.zero W.T).put (by decide)).put (by decide)⟩
  ·exact sT F h1 h2 h3 h4 (R.mono (by decide)) ok r hd
  ·exact tN F h1' h2' h3' h4' (R.mono (by decide)) ok r hd
 have step:∀{ft:FT} {nm:String} {f:Fn} {i n:Nat},fT P nm f→FnOk P wc ft∧MkOk P wc ft→j3 i=some nm→i≠20→FnOk P wc (ftAdd ft i n f)∧MkOk P wc (ftAdd ft i n f):=fun⟨a,sc,body,hm,K⟩ ⟨O,Mk⟩ hi hn=>
  ⟨FnOk.add F O Mk K hm hi,Mk.add hn⟩
 have B1:FnOk P wc ftB∧MkOk P wc ftB:=step W.flg (step W.div (step W.ell A1 rfl (by decide)) rfl (by decide)) rfl (by decide)
 have C1:FnOk P wc ftC∧MkOk P wc ftC:=step W.dmp (step W.words B1 rfl (by decide)) rfl (by decide)
 have D1:FnOk P wc ftD∧MkOk P wc ftD:=step W.idm (step W.idm (step W.idm C1 rfl (by decide)) rfl (by decide)) rfl (by decide)
 have E1:FnOk P wc ftE∧MkOk P wc ftE:=step W.one (step W.parts (step W.col (step W.pat (step W.roads D1 rfl (by decide)) rfl (by decide)) rfl (by decide)) rfl (by decide)) rfl (by decide)
 refine uz W.ini fun fI scI bI CI KI=>?_
 refine uz W.run fun fR scR bR MR KR=>?_
 exact⟨FnOk.putRun (FnOk.put20 E1.1) F W.T KR rfl (by decide) MR,MkOk.put (MkOk.putInit E1.2 F W.T KI CI rfl (by decide)) (by decide)⟩
end
section
variable {prog:Program}{w:World}{A:Around}{E:Value→Shared→Prop}{s:Shared}
theorem ni{it l:Addr}{i:Nat}{items:Array Value}{Q:Option Value→Shared→Prop}(hh:A.handled=none)(hit:s.heap.IsListIter it l i)(hl:s.heap.IsList l items)(hx:items[i]? =none)
  (hE:∀h1 h' e,Heap.SameBut it s.heap h1→h1.get? it≠none→Heap.MadeExcOf h1 h' e (.type "StopIteration") []→E (.ref e) {s with heap:=h'}):
  wpAny (model prog w) A (callSpecial? (.ref it) (aa "__next__")) Q E s:=by
 refine mX (id hit) fun o ho hc hd=>?_
 obtain⟨ol,hol,υ,nl,hdl⟩:=hl
 refine wpAny_callSpecial?_slot (name:=aa "__next__") hit.typeIs slot_listiter_next
  (wpAny_call_entry slot_listiter_next hit.typeIs entry_listiter_next ?_ (args_listiter_next _))
 show wpAny _ _ (field (.ref it) 0>>=_) _ _ s
 refine wpAny_bind (wpAny_field ho hd (x:= .ref l) rfl ?_)
 show wpAny _ _ (if(Value.ref l==Value.none)=true then _ else _) _ _ s
 rw[if_neg (show ¬((Value.ref l==Value.none)=true) from Bool.false_ne_true)]
 show wpAny _ _ (field (.ref it) 1>>=_) _ _ s
 refine wpAny_bind (wpAny_field ho hd (x:= .int i 0) rfl ?_)
 show wpAny _ _ (seqItems? (.ref l)>>=_) _ _ s
 refine wpAny_bind (wpAny_seqItems hol hdl ?_)
 simp only[aG,hx]
 refine wpAny_bind (wpAny_rule (wpAny_bind (wpAny_setField ho hd (by simp) ?_)))
 show wpAny _ _ (newExc (.type "StopIteration") []>>=_) _ _ _
 refine wpAny_bind ?_
 simp only[newExc,newTuple]
 refine wpAny_bind (wpAny_newObj_type ?_ (by size_fits))
 refine wpAny_bind (m:=firstArgMember _ _) (wpAny_of_eq (a:=Value.none) (by first | rfl | (simp only[firstArgMember]; rfl)) ?_)
 refine wpAny_newObj_type ?_ (by size_fits)
 simp only[raiseNew]
 refine wpAny_bind (wpAny_handled ?_)
 first | rw[show A.in1.handled=none from hh] | rw[hh]
 refine wpAny_bind (aD (wpAny_throw ?_))
 have hs:Heap.SameBut it s.heap (s.heap.update it (Obj.mapFields (·.setIfInBounds 0 .none))):=Heap.SameBut.update ..
 have hg:=dS (Obj.mapFields (·.setIfInBounds 0 .none)) ho (Obj.isFreed_of_fields (Obj.data_mapFields hd _))
 refine hE _ _ _ hs (by rw[hg]; nofun) ⟨fun b o e=>aU _ (aU _ e),?_,(s.heap.update it (Obj.mapFields (·.setIfInBounds 0 .none))).objs.size,?_,?_,?_⟩
 ·exact Heap.get?_none_of_le (by rw[df]; exact eE _)
 ·exact aJ _ rfl
 ·exact get?_size _
 ·exact aU _ (aJ _ rfl)
theorem mc{it l:Addr}{i:Nat}{items:Array Value}{x:Value}{Q:Option Value→Shared→Prop}(hit:s.heap.IsListIter it l i)(hl:s.heap.IsList l items)(hx:items[i]? =some x)
  (hQ:∀h',h'.IsListIter it l (i+1)→Heap.SameBut it s.heap h'→Q (some x) {s with heap:=h'}):
  wpAny (model prog w) A (callSpecial? (.ref it) (aa "__next__")) Q E s:=by
 refine mX (id hit) fun o ho hc hd=>?_
 obtain⟨ol,hol,υ,nl,hdl⟩:=hl
 refine wpAny_callSpecial?_slot (name:=aa "__next__") hit.typeIs slot_listiter_next
  (wpAny_call_entry slot_listiter_next hit.typeIs entry_listiter_next ?_ (args_listiter_next _))
 show wpAny _ _ (field (.ref it) 0>>=_) _ _ s
 refine wpAny_bind (wpAny_field ho hd (x:= .ref l) rfl ?_)
 show wpAny _ _ (if(Value.ref l==Value.none)=true then _ else _) _ _ s
 rw[if_neg (show ¬((Value.ref l==Value.none)=true) from Bool.false_ne_true)]
 show wpAny _ _ (field (.ref it) 1>>=_) _ _ s
 refine wpAny_bind (wpAny_field ho hd (x:= .int i 0) rfl ?_)
 show wpAny _ _ (seqItems? (.ref l)>>=_) _ _ s
 refine wpAny_bind (wpAny_seqItems hol hdl ?_)
 simp only[aG,hx]
 refine wpAny_bind (wpAny_setField ho hd (by simp) (aD ⟨x,rfl,hQ _ ?_ (Heap.SameBut.update ..)⟩))
 exact⟨_,dS _ ho (Obj.isFreed_of_fields (Obj.data_mapFields hd _)),(Obj.cls_mapFields ..).trans hc,by
  rw[Obj.data_mapFields hd]; simp[rawInt]⟩
theorem rP{it l:Addr}{i:Nat}{items:Array Value}{x:Value}{Q:Value→Shared→Prop}(hit:s.heap.IsListIter it l i)(hl:s.heap.IsList l items)(hx:items[i]? =some x)
  (hQ:∀h',h'.IsListIter it l (i+1)→Heap.SameBut it s.heap h'→Q x {s with heap:=h'}):wpAny (model prog w) A (call (.builtin "next") [.ref it]) Q E s:=by
 refine call_function_entry (by decide+kernel) (by decide+kernel) kdk_entry_next (kdk_args_next _) ?_
 unfold Builtin.«next»
 refine wpAny_bind (m:=someArgs "next" 1 2 _) (wpAny_of_eq (a:=[Value.ref it]) (by first | rfl | kernel_rfl!) ?_)
 dsimp only
 refine wpAny_bind (wpAny_specialOf (name:=aa "__next__") hit.typeIs slot_listiter_next.lookup ?_)
 refine wpAny_ite_split (fun hab=>absurd hab (by decide)) (fun υ=>?_)
 exact wpAny_bind (mc hit hl hx fun h' a b=>aD ⟨_,rfl,hQ h' a b⟩)
theorem vt{it l:Addr}{i:Nat}{items:Array Value}{Q:Value→Shared→Prop}(hh:A.handled=none)(hit:s.heap.IsListIter it l i)(hl:s.heap.IsList l items)(hx:items[i]? =none)
  (hE:∀h1 h' e,Heap.SameBut it s.heap h1→h1.get? it≠none→Heap.MadeExcOf h1 h' e (.type "StopIteration") []→E (.ref e) {s with heap:=h'}):wpAny (model prog w) A (call (.builtin "next") [.ref it]) Q E s:=by
 refine call_function_entry (by decide+kernel) (by decide+kernel) kdk_entry_next (kdk_args_next _) ?_
 unfold Builtin.«next»
 refine wpAny_bind (m:=someArgs "next" 1 2 _) (wpAny_of_eq (a:=[Value.ref it]) (by first | rfl | kernel_rfl!) ?_)
 dsimp only
 refine wpAny_bind (wpAny_specialOf (name:=aa "__next__") hit.typeIs slot_listiter_next.lookup ?_)
 refine wpAny_ite_split (fun hab=>absurd hab (by decide)) (fun υ=>?_)
 exact wpAny_bind (ni hh hit hl hx hE)
theorem sG{l:Addr}{items:Array Value}{Q:Value→Shared→Prop}(hl:s.heap.IsList l items)
  (hQ:Q (.ref s.heap.objs.size) {s with heap:=s.heap.push {cls:= .type "list_iterator",data:= .fields #[.ref l,.int 0 0]}}):wpAny (model prog w) A (call (.builtin "iter") [.ref l]) Q E s:=by
 refine call_function_entry (by decide+kernel) (by decide+kernel) kdk_entry_iter (kdk_args_iter _) ?_
 unfold Builtin.«iter»
 refine wpAny_bind (m:=someArgs "iter" 1 2 _) (wpAny_of_eq (a:=[Value.ref l]) (by first | rfl | kernel_rfl!) ?_)
 dsimp only
 exact wpAny_bind (wpAny_pyIter_list hl (aD ⟨_,rfl,hQ⟩))
end
noncomputable def ug(st:Stmt):Prop:=∃a b c d e,st= .Assign [.Name (aa "b") a] (.Call (.Name (aa "next") b) [.Name (aa "iterator") c] [] d) e
noncomputable def ym(st:Stmt):Prop:=∃a b c d e k,st= .Assign [.Name (aa "val") a] (.BinOp (.Name (aa "b") b) .BitAnd (.Constant (.int 63) k c) d) e
noncomputable def FL(x y z st:Stmt):Prop:=∃a b c d k,st= .While (.BinOp (.Name (aa "b") a) .BitAnd (.Constant (.int 64) k b) c) [x,y,z] [] d
noncomputable def FJ(st:Stmt):Prop:=∃a b c k,st= .AugAssign (.Name (aa "val") a) .LShift (.Constant (.int 6) k b) c
noncomputable def OrSt(st:Stmt):Prop:=∃a b c d e k,st= .AugAssign (.Name (aa "val") a) .BitOr (.BinOp (.Name (aa "b") b) .BitAnd (.Constant (.int 63) k c) d) e
structure ShV(sc:Scope)(body:List Stmt):Prop where
 kinds:sc.names.lookup (aa "iterator")=some .local∧sc.names.lookup (aa "b")=some .local∧sc.names.lookup (aa "val")=some .local∧sc.names.lookup (aa "next")=some .globalImplicit
 nocell:∀x∈sc.names,x.2≠ .cell
 fn:sc.kind= .function∧sc.isCoroutine=false∧sc.isGenerator=false
 ex:∃a b c d e f g,body=[a,b,c,g]∧ug a∧ym b∧FL d e f c∧FJ d∧ug e∧OrSt f∧∃p q,g= .Return (some (.Name (aa "val") p)) q
noncomputable def upd(m:Str→Option Value)(x:Str)(v:Value):Str→Option Value:=fun y=>if y=x then some v else m y
theorem gF{m:Str→Option Value}{x:Str}{v:Value}:upd m x v x=some v:=if_pos rfl
theorem iB{m:Str→Option Value}{x z:Str}{v:Value}{o:Option Value}(h:z≠x)(hm:m z=o):upd m x v z=o:=(if_neg h).trans hm
structure PvS(P:Pm)(J l:Addr)(env:Env)(Z0:Heap)(s0:Shared)(m:Str→Option Value)(i:Nat)(Z:Heap)(s:Shared):Prop where
 g:GoX J P Z0 s0 Z s
 zl:Z.get? env.locals=none
 ns:s.heap.Ns env.locals m
 it:s.heap.IsListIter J l i
 s0J:∃o,s0.heap.get? J=some o
 TJ:J∉P.T
 s0L:s0.heap.get? env.locals=none
structure PvE(sc:Scope)(env:Env):Prop where
 sc:env.scope=sc
 gl:env.globals=aX
 bl:env.builtins=cE
section
variable {P:Pm}{wc:Addr}{J l:Addr}{env:Env}{sc:Scope}{Z0 Z Z':Heap}{s0 s s':Shared}{m:Str→Option Value}{i:Nat}{A:Around}{body:List Stmt}
theorem PvS.go(V:PvS P J l env Z0 s0 m i Z s)(g:Go P Z s Z' s'):PvS P J l env Z0 s0 m i Z' s':=by
 obtain⟨o,ho,hc,hd⟩:=id V.it
 have hJ:Z'.get? J=none:=by
  cases q:Z'.get? J with
  | none=>rfl
  | some o'=>
   rcases g.fresh _ _ q with q' | q'
   ·rw[V.g.zx]at q'; cases q'
   ·rw[ho]at q'; cases q'
 have hL:Z'.get? env.locals=none:=by
  obtain⟨o1,υ,υ,e1,υ⟩:=V.ns
  cases q:Z'.get? env.locals with
  | none=>rfl
  | some o'=>
   rcases g.fresh _ _ q with q' | q'
   ·rw[V.zl]at q'; cases q'
   ·rw[e1]at q'; cases q'
 refine⟨V.g.trans (g.toX hJ) V.s0J V.TJ,hL,?_,⟨o,g.keep _ _ V.TJ ho,hc,hd⟩,V.s0J,V.TJ,V.s0L⟩
 obtain⟨o1,es,ep,e1,r⟩:=id V.ns
 exact⟨o1,es,ep,g.keep _ _ (V.g.ok.nsT V.ns) e1,r⟩
theorem PvS.toks(V:PvS P J l env Z0 s0 m i Z s):PvS P J l env Z0 s0 m i Z {s with toks:=s.toks+1}:=V.go (Go.toks V.g.ok _ (br _))
theorem PvS.store(V:PvS P J l env Z0 s0 m i Z s)(he:PvE sc env)(hf:sc.kind= .function){x:Str}(hk:sc.names.lookup x=some .local){v:Value}{Q:Unit→Shared→Prop}{E:Value→Shared→Prop}
  (h:∀s',PvS P J l env Z0 s0 (upd m x v) i Z s'→Q () s'):wpAny P.M A (storeName env x v) Q E s:=by
 have hko:env.kindOf x=some .local:=by unfold Env.kindOf; rw[he.sc]; exact hk
 have hL:=V.g.ok.nsT V.ns
 obtain⟨o1,es1,ep1,e1,hd1,υ⟩:=id V.ns
 have hJL:J≠env.locals:=fun q=>by
  obtain⟨o,ho,υ,hd⟩:=V.it
  rw[q,e1]at ho; cases ho; rw[hd1]at hd; cases hd
 refine wpAny_storeName_local hko V.ns (fun h' hn hs=>h _ ?_) (by rw[he.sc,hf]; rfl)
 have ok1:Ok P Z {s with heap:=h',toks:=s.toks+1}:=
  ⟨fun c oc e=>(hs.2 c (fun q=>by rw[q,V.zl]at e; cases e)).trans (V.g.ok.z c oc e),V.g.ok.g,V.g.ok.zT,P.to1 V.g.ok.tab (.refl _) (fun t ht=>hs.2 t fun q=>hL (by rw[←q]; exact ht)),V.g.ok.gens,V.g.ok.os,br _⟩
 refine⟨⟨ok1,V.g.le,fun c oc hc hx e=>?_,V.g.fresh,V.g.zx⟩,V.zl,hn,?_,V.s0J,V.TJ,V.s0L⟩
 ·exact(hs.2 c (fun q=>by rw[q,V.s0L]at e; cases e)).trans (V.g.keep c oc hc hx e)
 ·obtain⟨o,ho,hc,hd⟩:=V.it
  exact⟨o,(hs.2 J hJL).trans ho,hc,hd⟩
theorem PvS.read(V:PvS P J l env Z0 s0 m i Z s)(he:PvE sc env)(hf:sc.kind= .function){x:Str}(hk:sc.names.lookup x=some .local){v:Value}(hv:m x=some v){pos:Pos}{Q:Value→Shared→Prop}{E:Value→Shared→Prop}(h:Q v s)
  (hd:(x==("__debug__":Str))=false:=by decide+kernel):wpAny P.M A (eval (.Name x pos) env) Q E s:=by
 have hko:env.kindOf x=some .local:=by unfold Env.kindOf; rw[he.sc]; exact hk
 exact wpAny_Name (wpAny_loadName_local (by rw[he.sc]; exact hf) hko V.ns hv h) hd
theorem PvS.load(V:PvS P J l env Z0 s0 m i Z s)(he:PvE sc env)(hf:sc.kind= .function){x:Str}(hk:sc.names.lookup x=some .local){v:Value}(hv:m x=some v){Q:Value→Shared→Prop}{E:Value→Shared→Prop}(h:Q v s):wpAny P.M A (loadName env x) Q E s:=by
 have hko:env.kindOf x=some .local:=by unfold Env.kindOf; rw[he.sc]; exact hk
 exact wpAny_loadName_local (by rw[he.sc]; exact hf) hko V.ns hv h
theorem PvS.band(V:PvS P J l env Z0 s0 m i Z s)(he:PvE sc env)(hf:sc.kind= .function){x:Str}(hk:sc.names.lookup x=some .local){a c:Int}{t:Tok}(hv:m x=some (.int a t)){p1 p2 p3:Pos}{k:Nat}{Q:Value→Shared→Prop}{E:Value→Shared→Prop}
  (h:∀t s',PvS P J l env Z0 s0 m i Z s'→Q (.int (aO a c) t) s') (hd:(x==("__debug__":Str))=false:=by decide+kernel):wpAny P.M A (eval (.BinOp (.Name x p1) .BitAnd (.Constant (.int c) k p2) p3) env) Q E s:=
 wpAny_BinOp (V.read he hf hk hv (wpAny_Constant_int (PyProof.Rows.and_int (h _ _ V.toks.toks))) hd)
theorem PvS.nextCall(V:PvS P J l env Z0 s0 m i Z s)(F:Facts P wc)(he:PvE sc env)(Sh:ShV sc body)(hv:m (aa "iterator")=some (.ref J)){p1 p2 p3:Pos}{Q:Value→Shared→Prop}{E:Value→Shared→Prop}
  (h:wpAny P.M A (call (.builtin "next") [.ref J]) Q E s):wpAny P.M A (eval (.Call (.Name (aa "next") p1) [.Name (aa "iterator") p2] [] p3) env) Q E s:=by
 obtain⟨k1,k2,k3,k4⟩:=Sh.kinds
 have hko:env.kindOf (aa "next")=some .globalImplicit:=by unfold Env.kindOf; rw[he.sc]; exact k4
 refine wpAny_Call_ofName (Name_function_global (by rw[he.sc]; exact Sh.fn.1) hko (loadGlobal_builtin (mg:=P.mg) (mb:=P.mb) ?_ (F.bi "next" (by decide)) ?_ ((P.hbi _ (by decide+kernel)).trans (show bootBuiltins (aa "next")=some (.builtin "next") by decide+kernel)) ?_) (by decide+kernel))
 ·rw[he.gl]; exact P.hg.keeps (fun b o e=>V.g.ok.g0 b o e)
 ·rw[he.bl]; exact P.hb.keeps (fun b o e=>V.g.ok.g0 b o e)
 ·rw[bF (xs:=[.Name (aa "iterator") p2]) (fun w hw=>by rw[ay.mp hw]; rfl),args_two,kw_nil]
  refine cZ (first:=[]) ?_
  show wpAny P.M A (spliced [(false,eval (.Name (aa "iterator") p2) env)]) _ E s
  exact spliced_cons (V.read he Sh.fn.1 k1 hv (spliced_nil h))
theorem PvS.took(V:PvS P J l env Z0 s0 m i Z s){h':Heap}(hit:h'.IsListIter J l (i+1))(hs:Heap.SameBut J s.heap h'):PvS P J l env Z0 s0 m (i+1) Z {s with heap:=h'}:=by
 obtain⟨o1,es1,ep1,e1,hd1,r1⟩:=id V.ns
 have hJL:env.locals≠J:=fun q=>by
  obtain⟨o,ho,υ,hd⟩:=V.it
  rw[←q,e1]at ho; cases ho; rw[hd1]at hd; cases hd
 have ok1:Ok P Z {s with heap:=h'}:=
  ⟨fun c oc e=>(hs.2 c (fun q=>by rw[q,V.g.zx]at e; cases e)).trans (V.g.ok.z c oc e),V.g.ok.g,V.g.ok.zT,P.to1 V.g.ok.tab (.refl _) (fun t ht=>hs.2 t fun q=>V.TJ (by rw[←q]; exact ht)),V.g.ok.gens,V.g.ok.os,V.g.ok.tk⟩
 exact⟨⟨ok1,V.g.le,fun c oc hc hx e=>(hs.2 c hx).trans (V.g.keep c oc hc hx e),V.g.fresh,V.g.zx⟩,V.zl,V.ns.sameBut hs hJL,hit,V.s0J,V.TJ,V.s0L⟩
end
structure PvAt(P:Pm)(f:Addr)(sc:Scope)(body:List Stmt):Prop where
 ex:∃o fd,P.g0.get? f=some o∧o.data= .func fd∧P.g0.CodeRec fd.code fd.qualname∧fd.body= .stmts body∧fd.scope=sc∧fd.closure=[]∧fd.globals=aX∧fd.builtins=cE∧
  ∀v:Value,bindArgs fd ⟨[v],[]⟩=pure [(aa "iterator",v)]
section
variable {P:Pm}{wc:Addr}{J l f:Addr}{sc:Scope}{Z Z':Heap}{s s':Shared}{i:Nat}{A:Around}{body:List Stmt}{n:Nat}
theorem vc(Sh:ShV sc body)(K:PvAt P f sc body)(R:Room A (n+1))(ok:Ok P Z s)(hit:s.heap.IsListIter J l i)(hz:Z.get? J=none){RR:Result→Shared→Prop}
  (k:∀env s₁ m,PvE sc env→env.frame=some env.locals→PvS P J l env Z s m i Z s₁→m (aa "iterator")=some (.ref J)→Room (A.deeper env) n→Le s.heap s₁.heap→
   wpAny P.M (A.deeper env) (execs body env) (fun fl s'=>RR (.ok (.ret (match fl with | .ret v=>v | _=> .none))) s')
    (fun e s'=>wpAny P.M (A.deeper env) (leaving env e) (fun υ s''=>RR (.error e) s'') (fun e' s''=>RR (.error e') s'') s') s₁):codeAny P.M A (.call (.ref f) ⟨[.ref J],[]⟩) RR s:=by
 refine Gd K.ex fun o fd ho hdata hcd hbody hsc hclo hglob hblt hbind=>?_
 refine FR Sh.kinds fun k1 υ υ υ=>?_
 refine codeAny_call_def (fd:=fd) (binds:=[(aa "iterator",.ref J)]) (az (aA _ _) R.depth) (ok.g0 _ _ ho) hdata (P.hlim.keeps ok.g0) (hcd.keeps ok.g0) hbody (BindsTo.of_eq (hbind _)) (fun x hx=>Sh.nocell x (by rw[←hsc]; exact hx)) (fun x hx=>?_) (fun h₀ hns hk₁=>?_)
  (by rw[hsc]; exact Sh.fn.2.1) (by rw[hsc]; exact Sh.fn.2.2) (by rw[hsc]; exact Sh.fn.1)
 ·rw[ay.mp hx,hsc]; exact k1
 ·generalize he:callEnv fd s.heap.objs.size f=env
  have hloc:env.locals=s.heap.objs.size:=by rw[←he]; rfl
  have g:Go P Z s Z {s with heap:=h₀,toks:=s.toks+1}:=Go.of_le ok hk₁ (br _)
  refine mX (id hit) fun oJ hJ hc hd=>?_
  have hT:J∉P.T:=ok.notT hJ (.inl (by rw[hc]; nofun))
  refine k env _ (fun x=>[(aa "iterator",Value.ref J)].reverse.lookup x) ⟨by rw[←he,←hsc]; rfl,by rw[←he]; exact hglob,by rw[←he]; exact hblt⟩ (by rw[←he]; rfl) ⟨g.toX hz,by rw[hloc]; exact ok.znone (get?_size _),by rw[hloc]; exact hns,⟨oJ,hk₁ _ _ hJ,hc,hd⟩,⟨oJ,hJ⟩,hT,by rw[hloc]; exact get?_size _⟩ ?_
   ⟨R.hd,by have:=R.depth; show A.depth+1+n<_; exact BK this,by have:=R.units; show A.units+3+8*n+80<_; exact Lb this⟩ hk₁
  simp
theorem rf(Sh:ShV sc body)(K:PvAt P f sc body)(R:Room A (n+1))(ok:Ok P Z s)(hit:s.heap.IsListIter J l i)(hz:Z.get? J=none){Q:Value→Shared→Prop}{E:Value→Shared→Prop}
  (k:∀env s₁ m q e,PvE sc env→env.frame=some env.locals→PvS P J l env Z s m i Z s₁→m (aa "iterator")=some (.ref J)→Room (A.deeper env) n→Le s.heap s₁.heap→(∀v s',Q v s'→q (.ret v) s')→
   (∀v s',wpAny P.M (A.deeper env) (leaving env v) (fun υ s''=>E v s'') (fun e' s''=>E e' s'') s'→e v s')→wpAny P.M (A.deeper env) (execs body env) q e s₁):wpAny P.M A (call (.ref f) [.ref J]) Q E s:=
 wpAny_call (vc Sh K R ok hit hz fun env s₁ m he hfr V hm R' hle=>k env s₁ m _ _ he hfr V hm R' hle (fun υ υ h=>h) fun υ υ h=>h)
section
variable {env:Env}{Z0:Heap}{s0:Shared}{m:Str→Option Value}{st:Stmt}{r:List Stmt}{Q:Flow→Shared→Prop}{E:Value→Shared→Prop}
theorem PvS.nextS(V:PvS P J l env Z0 s0 m i Z s)(F:Facts P wc)(he:PvE sc env)(Sh:ShV sc body)(hs:ug st)(hv:m (aa "iterator")=some (.ref J)){items:Array Value}(hl:s.heap.IsList l items){v:Value}(h1:items[i]? =some v)
  (h:∀s',PvS P J l env Z0 s0 (upd m (aa "b") v) (i+1) Z s'→wpAny P.M A (execs r env) Q E s'):wpAny P.M A (execs (st::r) env) Q E s:=by
 refine B7 hs fun υ υ υ υ υ e42_1=>?_; subst e42_1
 exact wpAny_execs_cons (dD (ew rfl _ _) (V.nextCall F he Sh hv (rP V.it hl h1 fun h' hit' hs=>wpAny_bindName ((V.took hit' hs).store he Sh.fn.1 Sh.kinds.2.1 h))))
theorem PvS.bandS(V:PvS P J l env Z0 s0 m i Z s)(he:PvE sc env)(Sh:ShV sc body)(hs:ym st){a:Int}{t:Tok}(hv:m (aa "b")=some (.int a t))
  (h:∀t s',PvS P J l env Z0 s0 (upd m (aa "val") (.int (aO a 63) t)) i Z s'→wpAny P.M A (execs r env) Q E s'):wpAny P.M A (execs (st::r) env) Q E s:=by
 refine x6_1 hs fun υ υ υ υ υ υ e46_1=>?_; subst e46_1
 exact wpAny_execs_cons (dD (ew rfl _ _) (V.band he Sh.fn.1 Sh.kinds.2.1 hv fun t s' V'=>wpAny_bindName (V'.store he Sh.fn.1 Sh.kinds.2.2.1 (h t))))
theorem PvS.shlS(V:PvS P J l env Z0 s0 m i Z s)(he:PvE sc env)(Sh:ShV sc body)(hs:FJ st){a:Int}{t:Tok}(hv:m (aa "val")=some (.int (aO a 63) t))
  (h:∀t s',PvS P J l env Z0 s0 (upd m (aa "val") (.int (aO a 63*2^6) t)) i Z s'→wpAny P.M A (execs r env) Q E s'):wpAny P.M A (execs (st::r) env) Q E s:=by
 refine FO hs fun υ υ υ υ e50_1=>?_; subst e50_1
 refine wpAny_execs_cons (wpAny_AugAssign_Name (V.load he Sh.fn.1 Sh.kinds.2.2.1 hv (wpAny_Constant_int (PyProof.Rows.ilshift_int (by decide) ?_ (V.toks.toks.store he Sh.fn.1 Sh.kinds.2.2.1 (h _))))))
 have r63:=bitAnd_range a (y:=63) (by decide)
 have:=gC (a:=aO a 63) (k:=6) (by have:(2:Nat)^6=64:=rfl; exact IW r63)
 have e27:(2:Int)^27=134217728:=by decide
 clear h V hv
 exact IV this
theorem PvS.orS(V:PvS P J l env Z0 s0 m i Z s)(he:PvE sc env)(Sh:ShV sc body)(hs:OrSt st){a b:Int}{t u:Tok}(hv:m (aa "val")=some (.int a t))(hb:m (aa "b")=some (.int b u))
  (h:∀t s',PvS P J l env Z0 s0 (upd m (aa "val") (.int (eo a (aO b 63)) t)) i Z s'→wpAny P.M A (execs r env) Q E s'):wpAny P.M A (execs (st::r) env) Q E s:=by
 refine x6_1 hs fun υ υ υ υ υ υ e59_1=>?_; subst e59_1
 exact wpAny_execs_cons (wpAny_AugAssign_Name (V.load he Sh.fn.1 Sh.kinds.2.2.1 hv (V.band he Sh.fn.1 Sh.kinds.2.1 hb fun t10 s10 V10=>PyProof.Rows.ior_int (V10.toks.store he Sh.fn.1 Sh.kinds.2.2.1 (h _)))))
end
theorem zf(F:Facts P wc)(Sh:ShV sc body)(K:PvAt P f sc body)(R:Room A (n+1))(ok:Ok P Z s)(hit:s.heap.IsListIter J l i)(hz:Z.get? J=none){items:Array Value}(hl:Z.PlainList l items)
  {o1 o2:Int} {t1 t2:Tok} (h1:items[i]? =some (.int o1 t1)) (h2:items[i+1]? =some (.int o2 t2)) (ha:aO o1 64≠0) (hb:aO o2 64=0) {Q:Value→Shared→Prop} {E:Value→Shared→Prop}
  (h:∀t s' Z',GoX J P Z s Z' s'→s'.heap.IsListIter J l (i+2)→Q (.int (eo (aO o1 63*2^6) (aO o2 63)) t) s'):wpAny P.M A (call (.ref f) [.ref J]) Q E s:=by
 obtain⟨υ,υ,υ,υ,υ,υ,υ,eb,hs1,hs2,hs3,hs4,hs5,hs6,υ,υ,eg⟩:=Sh.ex
 refine B7 hs3 fun υ υ υ υ υ ec=>?_
 have hf:=Sh.fn.1
 have kb:=Sh.kinds.2.1
 have kv:=Sh.kinds.2.2.1
 refine rf Sh K R ok hit hz fun env s₁ m q e he hfr V hm R' hle hq υ=>?_
 have lst:∀{m i Z1 s1},PvS P J l env Z s m i Z1 s1→s1.heap.IsList l items:=fun V=>(eP V.g.ok.z (eP V.g.le hl)).isList
 rw[eb]
 refine V.nextS F he Sh hs1 hm (lst V) h1 fun s2 V2=>V2.bandS he Sh hs2 gF fun t3 s4 V4=>?_
 have hb4:=iB (x:=aa "val") (z:=aa "b") (v:= .int (aO o1 63) t3) (by decide+kernel) (gF (m:=m) (v:= .int o1 t1))
 have hi4:=iB (x:=aa "val") (z:=aa "iterator") (v:= .int (aO o1 63) t3) (by decide+kernel) (iB (x:=aa "b") (v:= .int o1 t1) (by decide+kernel) hm)
 let I:Nat→Shared→Prop:=fun j s1=>∃Z1 m1 bb vv tb tv,PvS P J l env Z s m1 (i+(2-j)) Z1 s1∧m1 (aa "iterator")=some (.ref J)∧m1 (aa "b")=some (.int bb tb)∧m1 (aa "val")=some (.int vv tv)∧
  ((j=1∧bb=o1∧vv=aO o1 63)∨(j=0∧bb=o2∧vv=eo (aO o1 63*2^6) (aO o2 63)))
 rw[ec]
 refine wpAny_execs_cons (wpAny_While (codeAny_whileLoop I (fun j s5 hI=>?_) 1 ⟨Z,_,o1,_,_,_,V4,hi4,hb4,gF,.inl ⟨rfl,rfl,rfl⟩⟩))
 refine x6_5 hI fun Z5 m5 bb vv tb tv V5 hi5 hb5 hv5 hcase=>?_
 refine isTrue_plain (V5.band he hf kb hb5 fun t6 s6 V6=>PySem.P.truthy_int ?_)
 rcases hcase with⟨rfl,rfl,rfl⟩ | ⟨rfl,rfl,rfl⟩
 ·rw[if_pos (bne_iff_ne.mpr ha)]
  refine V6.shlS he Sh hs4 hv5 fun t7 s7 V7=>?_
  refine V7.nextS F he Sh hs5 (iB (by decide+kernel) hi5) (lst V7) h2 fun s9 V9=>?_
  refine V9.orS he Sh hs6 (iB (by decide+kernel) gF) gF fun t11 s11 V11=>?_
  exact wpAny_execs_nil ⟨0,by decide,Z5,_,o2,_,_,_,V11,iB (by decide+kernel) (iB (by decide+kernel) (iB (by decide+kernel) hi5)),iB (by decide+kernel) gF,gF,.inr ⟨rfl,rfl,rfl⟩⟩
 ·rw[if_neg (by rw[hb]; decide),eg]
  exact wpAny_execs_nil (wpAny_execs_cons (wpAny_Return_some (V6.read he hf kv hv5 (hq _ _ (h _ _ _ V6.g V6.it)))))
end
section
variable {P:Pm}{wc:Addr}{J l f:Addr}{sc:Scope}{Z Z':Heap}{s s':Shared}{i:Nat}{A:Around}{body:List Stmt}{n:Nat}
theorem CK(F:Facts P wc)(Sh:ShV sc body)(K:PvAt P f sc body)(R:Room A (n+1))(ok:Ok P Z s)(hit:s.heap.IsListIter J l i)(hz:Z.get? J=none){items:Array Value}(hl:Z.PlainList l items)(h1:items[i]? =none)
  {base:Heap} {outer:List Env} (hfr:A.frames=some outer) (hkb:base.StaysIn s.heap) (hbJ:base.get? J=none) (hfo:s.heap.FunFrames base outer) {Q:Value→Shared→Prop} {E:Value→Shared→Prop}
  (h:∀e t s',Heap.FlyingW base outer e (.type "StopIteration") (.ref t) s'.heap→s.heap.UpToSlots s'.heap→s'.gens=s.gens→s'.os=s.os→0<s'.toks→E (.ref e) s'):wpAny P.M A (call (.ref f) [.ref J]) Q E s:=by
 refine x7_3 Sh.ex fun υ υ υ υ υ υ υ eb hs1 υ=>?_
 refine B7 hs1 fun υ υ υ υ υ ea=>?_
 refine mX (id hit) fun oJ hJ hcJ hdJ=>?_
 refine rf Sh K R ok hit hz fun env s₁ m q e he hfr' V hm R' hle υ hq=>?_
 rw[eb,ea]
 have lst:s₁.heap.IsList l items:=(eP V.g.ok.z (eP V.g.le hl)).isList
 refine wpAny_execs_cons (dD (ew rfl _ _) (V.nextCall F he Sh hm (vt R'.hd V.it lst h1 fun hp1 hp2 e hs hne hx=>hq _ _ ?_)))
 have hbL:base.get? env.locals=none:=by
  cases q:base.get? env.locals with
  | none=>rfl
  | some o=>have:=hkb _ _ q; rw[V.s0L]at this; cases this
 have keep1:∀b o,s.heap.get? b=some o→b≠J→hp1.get? b=some o:=fun b o e hb=>(hs.2 b hb).trans (hle _ _ e)
 have hJL:env.locals≠J:=fun q=>by
  have:=V.s0L
  rw[q,hJ]at this; cases this
 have hnf:∀b o,s.heap.get? b=some o→(∀vs,o.data≠ .fields vs)→b≠J:=fun b o e hb q=>by
  rw[q,hJ]at e; cases e; exact hb _ hdJ
 have frames:hp1.FunFrames base (env::outer):=
  .cons (by rw[he.sc,Sh.fn.1]; decide) hfr' (V.ns.sameBut hs hJL) hbL (hfo.of_keeps fun b o e hb=>⟨o,keep1 b o e (hnf b o e hb),rfl⟩)
 refine wpAny_leaves_madeW (outer:=outer) (base:=base) (Around.frames_deeper hfr) hfr' (fun b o e=>keep1 b o (hkb _ _ e) (fun q=>by rw[q,hbJ]at e; cases e)) frames hx fun h' t fl υ υ ups=>?_
 refine h e t _ fl (fun b o e hb=>?_) (V.g.ok.gens.trans ok.gens.symm) ?_ V.g.ok.tk
 ·exact ups b o (hx.keeps _ _ (keep1 b o e (hnf b o e hb))) hb
 ·exact V.g.ok.os.trans ok.os.symm
end
section
variable {P:Pm}{wc:Addr}{J l f:Addr}{sc scV:Scope}{env:Env}{ns:Nms}{own:Nat}{b:Bs}{Z Z':Heap}{σ:St}{ad:Nat→Addr}{s s':Shared}{i:Nat}{A:Around}{bodyV:List Stmt}{n:Nat}
theorem SR.slotsL(S:SR P wc sc env ns own b Z σ ad s){h':Heap}(hs:Heap.SameBut env.locals s.heap h'){o o':Obj}(ho:s.heap.get? env.locals=some o)(ho':h'.get? env.locals=some o')(hd:o'.data=o.data):
  SR P wc sc env ns own b Z σ ad {s with heap:=h'}:=by
 refine bq S.nss fun m hm hv=>?_
 have hL:=S.ok.nsT hm
 have hn:h'.Ns env.locals m:=by
  refine pF (id hm) fun o1 es ep e d r=>?_
  rw[ho]at e; cases e
  exact FY o' es ep ho' (hd.trans d) r
 have hb:(env.locals=env.locals∧∃m,s.heap.Ns env.locals m)∨∃o,s.heap.IsCell env.locals o:= .inl ⟨rfl,m,hm⟩
 have keep:∀c o,c≠env.locals→s.heap.get? c=some o→h'.get? c=some o:=fun c o q e=>(hs.2 c q).trans e
 have zk:Le Z h':=fun c o e=>keep c o (fun q=>by rw[q,S.lz]at e; cases e) (S.ok.z c o e)
 refine⟨⟨zk,S.ok.g,S.ok.zT,P.to1 S.ok.tab (.refl _) (fun t ht=>hs.2 t fun q=>hL (by rw[←q]; exact ht)),S.ok.gens,S.ok.os,S.ok.tk⟩,S.kind,S.glob,S.blt,S.gl,fun c o hT e=>keep c o (fun q=>by rw[q,S.lb]at e; cases e) (S.base c o hT e),S.zle,S.zb,S.lz,S.lb,⟨m,hn,fun j y hj hky=>(hv j y hj hky).same hs hb⟩,fun j y hj=>?_,S.ownk,S.nd,S.cd,S.ai,S.dd,S.len,S.cf,S.lc⟩
 rcases S.cel j y hj with q | ⟨k',c,o,h1,h2,h3,h4,h5⟩
 ·exact .inl q
 ·have hc:c≠env.locals:=fun q=>by
   obtain⟨υ,e1,d1⟩:=h2; obtain⟨_,_,_,e2,d2,_⟩:=hm
   rw[q,e2]at e1; cases e1; rw[d2]at d1; cases d1
  exact .inr ⟨k',c,o,h1,h2.sameBut hs hc,h3.same hs hb,h4,h5⟩
theorem SR.cameBy(S:SR P wc sc env ns own b Z σ ad s)(Lo:Loose ns b Z σ ad s.heap J)(hb:(hideAll s.heap [J,env.locals]).StaysIn s'.heap)(hu:s.heap.UpToSlots s'.heap)(hg:s'.gens=s.gens)(ho:s'.os=s.os)(ht:0<s'.toks):SR P wc sc env ns own b Z σ ad s':=by
 refine bq S.nss fun m hm υ=>?_
 refine pF (id hm) fun oL es ep eL dL r=>?_
 refine bq Lo.ob fun oJ eJ pJ=>?_
 have hLJ:env.locals≠J:=fun q=>by rw[←q,eL]at eJ; cases eJ; exact pJ.notDict dL
 refine dh (hu _ _ eL (fun vs q=>by rw[dL]at q; cases q)) fun sl eL'=>?_
 have hf:oL.isFreed=false:=(ba.mp eL).2
 have hs:Heap.SameBut env.locals s'.heap (s'.heap.update env.locals fun υ=>oL):=Heap.SameBut.update ..
 have hx:(s'.heap.update env.locals fun υ=>oL).get? env.locals=some oL:=dS (fun υ=>oL) eL' hf
 have S1:=S.looseChange Lo (h':=s'.heap.update env.locals fun υ=>oL) (tk:=s'.toks) (fun c o hc e=>by
  by_cases q:c=env.locals
  ·subst q; rw[eL]at e; cases e; exact hx
  ·rw[hs.2 c q]
   exact hb c o (hideAll_get _ e (by simp[hc,q]))) ht
 have S2:=S1.slotsL (h':=s'.heap) ⟨hs.1.symm,fun c hc=>(hs.2 c hc).symm⟩ hx eL' rfl
 obtain⟨h1,g1,d1,t1,os1⟩:=s'
 simp only at hg ho
 subst hg ho
 exact⟨⟨S2.ok.z,S2.ok.g,S2.ok.zT,S2.ok.tab,S2.ok.gens,S2.ok.os,S2.ok.tk⟩,S2.kind,S2.glob,S2.blt,S2.gl,S2.base,S2.zle,S2.zb,S2.lz,S2.lb,S2.nss,S2.cel,S2.ownk,S2.nd,S2.cd,S2.ai,S2.dd,S2.len,S2.cf,S2.lc⟩
theorem yB(F:Facts P wc)(Sh:ShV scV bodyV)(K:PvAt P f scV bodyV)(R:Room A (n+1))(S:SR P wc sc env ns own b Z σ ad s)(Lo:Loose ns b Z σ ad s.heap J)(hit:s.heap.IsListIter J l i){items:Array Value}(hl:Z.PlainList l items)(h1:items[i]? =none)
  (hm:P.mg (aa "_parse_varint")=some (.ref f)) (hgl:hK sc (aa "_parse_varint") "_parse_varint"=true) (hsi:P.mg (aa "StopIteration")=none) (hgl2:hK sc (aa "StopIteration") "StopIteration"=true)
  (hlf:sc.names.lookup (aa "left")=some .cell∨sc.names.lookup (aa "left")=some .free) {cL:Addr} (hcL:env.cells.lookup (aa "left")=some cL) (hcv:s.heap.IsCell cL (some (.ref J)))
  (hfr:A.frames=some [env]) (hef:env.frame=some env.locals) {p1 p2 p3 p4 p5 p6 p7 pos:Pos} {bodyR:List Stmt} {Q:Flow→Shared→Prop} {E:Value→Shared→Prop}
  (h:∀s',SR P wc sc env ns own b Z σ ad s'→Q .next s'):
  wpAny P.M A (exec (.Try (.Expr (.Call (.Name (aa "_parse_varint") p1) [.Name (aa "left") p2] [] p3) p4::bodyR) [.ExceptHandler (some (.Name (aa "StopIteration") p5)) none [.Pass p6] p7] [] [] pos) env) Q E s:=by
 refine bq S.nss fun m hm0 υ=>?_
 refine pF (id hm0) fun oL es ep eL dL r=>?_
 refine bq Lo.ob fun oJ eJ pJ=>?_
 have hLJ:env.locals≠J:=fun q=>by rw[←q,eL]at eJ; cases eJ; exact pJ.notDict dL
 refine gw K.ex fun oF fdF hoF hdF υ=>?_
 refine wpAny_Try_except (wpAny_execs_cons (mJ S rfl (wpAny_Call_ofName (S.readG hgl hm ?_))))
 rw[bF (xs:=[.Name (aa "left") p2]) (fun w hw=>by rw[ay.mp hw]; rfl),args_two,kw_nil]
 refine gY (first:=[]) hdF ?_
 show wpAny P.M A (spliced [(false,eval (.Name (aa "left") p2) env)]) _ _ s
 refine spliced_cons (S.readCell hlf hcL hcv (spliced_nil ⟨S.ok.g0 _ _ hoF,?_⟩))
 show wpAny P.M A (call (.ref f) [.ref J]) _ _ s
 have bn:∀a,a=J∨a=env.locals→(hideAll s.heap [J,env.locals]).get? a=none:=fun a ha=>hideAll_none _ (by simpa using ha)
 refine CK F Sh K R S.ok hit Lo.zn hl h1 (base:=hideAll s.heap [J,env.locals]) hfr (fun b o e=>of_hideAll _ e) (bn _ (.inl rfl)) (.cons (by rw[S.kind]; decide) hef hm0 (bn _ (.inr rfl)) trivial) fun e t s1 fl ups hg ho ht=>?_
 refine wpAny_looks_onW hfr hef fl fun h2 hh2 u2=>?_
 refine wpAny_landsW hh2 fun h3 fl3 u3=>?_
 have S3:SR P wc sc env ns own b Z σ ad {s1 with heap:=h3}:=S.cameBy Lo fl3.1 (ups.trans (u2.trans u3)) hg ho ht
 refine wpAny_handleBy_builtin (X:="StopIteration") (T:="StopIteration") (b:=true) owsi_raise.isExc (by kernel_rfl) owsi_facts.sub ?_
 refine S3.readB hgl2 hsi (show bootBuiltins (aa "StopIteration")=some (.type "StopIteration") by decide+kernel) ⟨rfl,?_,?_⟩
 ·refine bq fl3.there fun oe he hc=>?_
  exact gX oe he hc
 ·rw[if_pos rfl]
  refine FR fl3 fun f1 f2 f3 f4=>?_
  refine wpAny_setFlight_noneW f1 f3 f4 fun h4 k1 k2 k3 k4=>?_
  have S4:SR P wc sc env ns own b Z σ ad {s1 with heap:=h4}:=S.cameBy Lo k1 (ups.trans (u2.trans (u3.trans fun b o hb hn=>⟨o.slots,k4 b o hb hn⟩))) hg ho ht
  exact wpAny_execs_cons (wpAny_Pass (wpAny_execs_nil (h _ S4)))
end
end Pw
end
section
open PySem PySem.W PyProof.Rows PySem.Calls
set_option maxRecDepth 4000
set_option maxHeartbeats 1000000
namespace Pw
noncomputable def xA(items:Array Value):Nat→List D→Prop
 | _,[]=>True
 | i,d::r=>(∃o1 o2 t1 t2,items[i]? =some (.int o1 t1)∧items[i+1]? =some (.int o2 t2)∧aO o1 64≠0∧aO o2 64=0∧
   i2d [.int (eo (aO o1 63*2^6) (aO o2 63)),.int 6]=some d)∧xA items (i+2) r
structure ShT(sc':Scope)(el:Expr)(g:Comprehension):Prop where
 ex:∃a1 a2 a3 a4 a5 a6 a7 a8,el= .Call (.Name (aa "_int2digits") a1) [.Call (.Name (aa "_parse_varint") a2) [.Name (aa "left") a3] [] a4,.Constant (.int 6) a5 a6] [] a7∧g.target= .Name (aa "road") a8∧g.ifs=[]∧g.is_async=0
 g1:hK sc' (aa "_int2digits") "_int2digits"=true
 g2:hK sc' (aa "_parse_varint") "_parse_varint"=true
 lf:sc'.names.lookup (aa "left")=some .free
section
variable {P:Pm}{wc:Addr}{J I X l f:Addr}{sc scV:Scope}{env:Env}{ns:Nms}{own:Nat}{b:Bs}{Z Z':Heap}{σ:St}{ad:Nat→Addr}{s s':Shared}{i:Nat}{A:Around}{bodyV:List Stmt}{n:Nat}
theorem fK{h h':Heap}(hit:h.IsListIter J l i)(k:∀o,h.get? J=some o→h'.get? J=some o):h'.IsListIter J l i:=by obtain⟨o,e,r⟩:=hit; exact⟨o,k o e,r⟩
theorem eh{h:Heap}{o:Obj}(hit:h.IsListIter J l i)(e:h.get? J=some o):eQ o:=by
 refine mX hit fun o' e' hc hd=>?_
 rw[e]at e'; cases e'
 exact⟨⟨_,hc⟩,.inl ⟨_,hd⟩⟩
theorem qC(F:Facts P wc)(O:FnOk P wc ftL)(Sh:ShV scV bodyV)(K:PvAt P f scV bodyV)(hm:P.mg (aa "_parse_varint")=some (.ref f))(R:Room A 41){el:Expr}{g:Comprehension}{scc:Scope}{pos:Pos}(T:ShT sc el g)
  {iR:Nat} (hR:ns[iR]? =some (some (aa "road"))) (hown:own≤iR) {cL:Addr} (hcL:env.cells.lookup (aa "left")=some cL) {items:Array Value} (hB:b.B.IsCell cL (some (.ref J))) (hcT:cL∉P.T):
  ∀(outs ds:List D) (σ:St) (ad:Nat→Addr) (Z:Heap) (s:Shared) (i:Nat) (ws:Array Value) (acc:List D) (Rs:Result→Shared→Prop),ds.length=outs.length→xA items i outs→
   SR P wc sc env ns own b Z σ ad s→lp P Z I s.heap ds→Loose ns b Z σ ad s.heap I→Loose ns b Z σ ad s.heap X→Loose ns b Z σ ad s.heap J→s.heap.IsListIter J l i→Z.PlainList l items→s.heap.PlainList X ws→RepAll Z ws.toList acc→
   X≠I→X≠J→J≠I→acc.length+outs.length≤few→
   (∀s' Z' σ' ad' ws',SR P wc sc env ns own b Z' σ' ad' s'→Le Z Z'→Loose ns b Z' σ' ad' s'.heap X→Loose ns b Z' σ' ad' s'.heap J→s'.heap.IsListIter J l (i+2*outs.length)→s'.heap.PlainList X ws'→RepAll Z' ws'.toList (acc++outs)→Rs (.ok .next) s')→
   codeAny P.M A (.compLoop (.ListComp el [g] scc pos) 0 (.ref I) (.ref X) env) Rs s:=by
 refine x8_4 T.ex fun a1 a2 a3 a4 a5 a6 a7 a8 eel etg eif eas=>?_
 subst eel
 refine gw (id K.ex) fun oF fdF hoF hdF υ=>?_
 obtain⟨υ,aI,hmI,⟨oI2,fdI2,hoI2,hdI2⟩,sndI⟩:=O.fn 2 40 i2d "_int2digits" rfl rfl
 have hg:([g]:List Comprehension)[0]? =some g:=rfl
 have hg1:∀g',([g]:List Comprehension)[0+1]? =some g'→g'.is_async=0:=fun g' e=>by cases e
 intro outs
 induction outs with
 | nil=>
  intro ds σ ad Z s i ws acc Rs hlen υ S it LI LD LJ hJ hl hw hr h1 h2 h3 hsz h
  have:ds=[]:=bX.mp hlen
  subst this
  refine dM hg eas hg1 (it.done S.ok R.hd fun h' tk hk htk=>?_)
  refine h _ Z σ ad ws (S.looseChange LI hk htk) (.refl _) (LD.keep hk h1) (LJ.keep hk h3) (fK hJ fun o e=>hk _ _ h3 e) (by obtain⟨m,e⟩:=hw; exact⟨m,hk _ _ h1 e⟩) (by simpa using hr)
 | cons d outs ih=>
  intro ds σ ad Z s i ws acc Rs hlen hoct S it LI LD LJ hJ hl hw hr h1 h2 h3 hsz h
  refine fu hoct fun w52_1 hoct=>?_; obtain⟨o1,o2,t1,t2,e1,e2,q1,q2,hd⟩:=w52_1
  cases ds with
  | nil=>cases hlen
  | cons road ds=>
  refine dM hg eas hg1 (it.next S.ok R.hd fun v h' tk rv it1 hk htk=>?_)
  dsimp only
  have S1:=S.looseChange LI hk htk
  have hw1:h'.PlainList X ws:=by obtain⟨m,e⟩:=hw; exact⟨m,hk _ _ h1 e⟩
  have hJ1:h'.IsListIter J l i:=fK hJ fun o e=>hk _ _ h3 e
  have LD1:=LD.keep hk h1
  have LJ1:=LJ.keep hk h3
  refine bq it1.obj fun oI hoI pI=>?_
  have LI1:Loose ns b Z σ ad h' I:=⟨⟨oI,hoI,pI.plainish⟩,LI.bn,LI.zn,LI.na⟩
  obtain⟨oD,hoD⟩:∃o,h'.get? X=some o:=by obtain⟨n,e⟩:=hw1; exact⟨_,e⟩
  refine bq (id hJ1) fun oJ hoJ υ=>?_
  have pD:=cG hw1 hoD
  have pJ:=eh hJ1 hoJ
  have hfI:oI.isFreed=false:=(ba.mp hoI).2
  have hfD:oD.isFreed=false:=(ba.mp hoD).2
  have z0:∀a,Z.get? a=none→b.Z0.get? a=none:=fun a ha=>by
   cases e:b.Z0.get? a with
   | none=>rfl
   | some o=>have:=S.zle _ _ e; rw[ha]at this; cases this
  have S2:=S1.addBase LI1 hoI
  have LD2:=LD1.add (o:=oI) h1
  have S3:=S2.addBase LD2 hoD
  have LJ3:=(LJ1.add (o:=oI) h3).add (o:=oD) (Ne.symm h2)
  have S4:=S3.addBase LJ3 hoJ
  have hcg:mV ns (.one iR) g.target=true:=by
   rw[etg]
   show(ns[iR]? ==some (some (aa "road")))=true
   rw[hR]; exact beq_self_eq_true _
  refine Gk hcg it1 ?_
  refine S4.tg R.hd hcg (σ':=σ.set iR (.fro road)) rfl (fun j hj=>by rw[ay.mp hj]; exact hown) rv fun s5 ad5 S5=>?_
  rw[eif]
  refine jO (n:=0) (cK F O 0).2 (R.mono (bK _)) (k:=0) (ies:=[]) (t:=true) rfl rfl S5 fun s6 Z6 g6=>?_
  rw[if_pos rfl]
  rw[show([g]:List Comprehension)[0+1]? =none from rfl]
  dsimp only
  have zJ3:((b.add I oI).add X oD).Z0.get? J=none:=by
   have:=z0 J LJ.zn
   unfold Bs.add
   exact this
  have zD2:(b.add I oI).Z0.get? X=none:=by
   have:=z0 X LD.zn
   unfold Bs.add
   exact this
  refine lq (S3.dropBase hoJ LJ3.bn zJ3 pJ (S5.go g6)) fun S6 LJ6 hoJ6=>?_
  have hJ6:s6.heap.IsListIter J l i:=fK hJ1 fun o e=>by rw[hoJ]at e; cases e; exact hoJ6
  have hZ6:Le Z Z6:=g6.le
  have cellAt:∀{Z σ ad} {s:Shared} {b'},SR P wc sc env ns own b' Z σ ad s→(∀c o,b.B.get? c=some o→c=cL→b'.B.get? c=some o)→s.heap.IsCell cL (some (.ref J)):=fun S hb'=>by
   refine bq hB fun oc e dd=>?_
   exact gX oc (S.base _ _ hcT (hb' _ _ e rfl)) dd
  have hcI:cL≠I:=fun q=>by obtain⟨oc,e,_⟩:=hB; rw[q,LI.bn]at e; cases e
  have hcX:cL≠X:=fun q=>by obtain⟨oc,e,_⟩:=hB; rw[q,LD.bn]at e; cases e
  have CL6:s6.heap.IsCell cL (some (.ref J)):=cellAt S6 fun c o e q=>by
   subst q
   unfold Bs.add; dsimp only
   rw[cD hcX,cD hcI]; exact e
  refine wpAny_Call_ofName (S6.readG T.g1 hmI ?_)
  rw[bF (xs:=[.Call (.Name (aa "_parse_varint") a2) [.Name (aa "left") a3] [] a4,.Constant (.int 6) a5 a6]) (fun w hw=>by simp only[aP,dz,or_false]at hw; rcases hw with rfl | rfl<;>rfl),args_two,kw_nil]
  refine gY (first:=[]) hdI2 ?_
  show wpAny P.M A (spliced [(false,eval (.Call (.Name (aa "_parse_varint") a2) [.Name (aa "left") a3] [] a4) env),(false,eval (.Constant (.int 6) a5 a6) env)]) _ _ s6
  refine spliced_cons (wpAny_Call_ofName (S6.readG T.g2 hm ?_))
  rw[bF (xs:=[.Name (aa "left") a3]) (fun w hw=>by rw[ay.mp hw]; rfl),args_two,kw_nil]
  refine gY (first:=[]) hdF ?_
  show wpAny P.M A (spliced [(false,eval (.Name (aa "left") a3) env)]) _ _ s6
  refine spliced_cons (S6.readCell (.inr T.lf) hcL CL6 (spliced_nil ⟨S6.ok.g0 _ _ hoF,?_⟩))
  show wpAny P.M A (call (.ref f) [.ref J]) _ _ s6
  refine zf (n:=1) F Sh K (R.mono (by decide)) S6.ok hJ6 LJ6.zn (eP hZ6 hl) e1 e2 q1 q2 fun t7 s7 Z7 g7 hJ7=>?_
  refine bq (id hJ7) fun oJ7 hoJ7 υ=>?_
  refine fu (S6.goX LJ6 g7 ⟨oJ7,hoJ7,eh hJ7 hoJ7⟩) fun S7 LJ7=>?_
  refine spliced_cons (wpAny_Constant_int (spliced_nil ⟨S7.ok.g0 _ _ hoI2,?_⟩))
  have g8:Go P Z7 s7 Z7 {s7 with toks:=s7.toks+1}:=Go.toks S7.ok _ (br _)
  refine sndI (ds:=[.int (eo (aO o1 63*2^6) (aO o2 63)),.int 6]) (R.mono (by decide)) g8.ok (.cons (.int _ _) (.cons (.int _ _) .nil)) hd _ _ fun vd s9 Z9 g9 r9=>?_
  have g79:=g8.trans g9
  have S9:=S7.go g79
  have LJ9:=LJ7.go S7.ok g79
  have hJ9:s9.heap.IsListIter J l (i+2):=fK hJ7 fun o e=>g79.keep _ _ (S7.ok.notT hoJ7 (.inl (eh hJ7 hoJ7).notNone)) e
  have hZ9:Le Z Z9:=(hZ6.trans g7.le).trans g79.le
  refine lq (S2.dropBase hoD LD2.bn zD2 pD S9) fun S10 LD10 hoD10=>?_
  have hw10:s9.heap.PlainList X ws:=by obtain⟨n,e⟩:=hw1; rw[hoD]at e; exact⟨n,by rw[hoD10]; exact e⟩
  have hs:=dk hr
  refine wpAny_list_append_plain hw10 (fun h10 hw11 hsb=>?_) (by rw[sizeLine_eq,hs]; rw[few_eq]at hsz; simp only[ah]at hsz; exact IU hsz)
  have kD:iv X s9.heap h10:=fun c o hc e=>(hsb.2 c hc).trans e
  have S11:=S10.looseChange LD10 (h':=h10) (tk:=s9.toks) kD S10.ok.tk
  refine lq (S1.dropBase hoI LI1.bn (z0 _ LI.zn) pI.plainish S11) fun S12 LI12 hoI12=>?_
  obtain⟨oD11,hoD11⟩:∃o,h10.get? X=some o:=by obtain⟨n,e⟩:=hw11; exact⟨_,e⟩
  have LD12:Loose ns b Z9 (σ.set iR (.fro road)) ad5 h10 X:=Loose.drop (o:=oI) hfI ⟨⟨oD11,hoD11,cG hw11 hoD11⟩,LD10.bn,LD10.zn,LD10.na⟩
  have LJ12:Loose ns b Z9 (σ.set iR (.fro road)) ad5 h10 J:=Loose.drop (o:=oI) hfI (Loose.keep (Loose.drop (o:=oD) hfD LJ9) kD (Ne.symm h2))
  have it12:lp P Z9 I h10 ds:=it1.frame S1.ok.z S12.ok.z hZ9 fun o e=>by rw[hoI]at e; cases e; exact hoI12
  have hJ12:h10.IsListIter J l (i+2):=fK hJ9 fun o e=>kD _ _ (Ne.symm h2) e
  refine ih ds (σ.set iR (.fro road)) ad5 Z9 _ (i+2) _ (acc++[d]) Rs (by simpa using hlen) hoct S12 it12 LI12 LD12 LJ12 hJ12 (eP hZ9 hl) hw11 ?_ h1 h2 h3 (by simp only[ak,ah,aE]at hsz⊢; exact oy hsz) fun s' Z' σ' ad' ws' S' hle' LD' LJ' hJ' hw' hr'=>?_
  ·have:=(hr.le hZ9).append (RepAll.cons r9 RepAll.nil)
   simpa using this
  ·refine h s' Z' σ' ad' ws' S' (hZ9.trans hle') LD' LJ' ?_ hw' (by simpa using hr')
   rw[show i+2*(d::outs).length=i+2+2*outs.length by simp only[ah]; exact IT]
   exact hJ'
end
section
variable {P:Pm}{wc:Addr}{J I X l f:Addr}{sc scV sc':Scope}{env:Env}{ns:Nms}{b:Bs}{Z Z':Heap}{σ:St}{ad:Nat→Addr}{s s':Shared}{i:Nat}{A:Around}{bodyV:List Stmt}{n:Nat}
theorem GoX.freeze(g:GoX X P Z s Z' s'){a:Addr}{o:Obj}(ho:s'.heap.get? a=some o)(hn:s.heap.get? a=none)(hz:Z'.get? a=none)(ht:a∉P.T)(ha:a≠X):GoX X P Z s (hput Z' a o) s':=by
 refine⟨⟨lN g.ok.z ho,g.ok.g.trans (dY hz),fun t hT=>?_,P.to1 g.ok.tab (dY hz) (fun υ υ=>rfl),g.ok.gens,g.ok.os,g.ok.tk⟩,g.le.trans (dY hz),g.keep,fun b o' e=>?_,?_⟩
 ·rw[cD (fun q=>ht (by rw[←q]; exact hT))]; exact g.ok.zT t hT
 ·by_cases hb:b=a
  ·subst hb; exact .inr hn
  ·rw[cD hb]at e; exact g.fresh b o' e
 ·rw[cD (Ne.symm ha)]; exact g.zx
theorem GoX.changeFresh(g:GoX X P Z s Z' s'){C:Addr}(hC:s.heap.get? C=none)(hz:Z'.get? C=none)(hT:C∉P.T){h':Heap}(hs:Heap.SameBut C s'.heap h'):GoX X P Z s Z' {s' with heap:=h'}:=by
 refine⟨⟨fun c o e=>(hs.2 c (fun q=>by rw[q,hz]at e; cases e)).trans (g.ok.z c o e),g.ok.g,g.ok.zT,P.to1 g.ok.tab (.refl _) (fun t ht=>hs.2 t fun q=>hT (by rw[←q]; exact ht)),g.ok.gens,g.ok.os,g.ok.tk⟩,g.le,fun c o hc hx e=>?_,g.fresh,g.zx⟩
 exact(hs.2 c (fun q=>by rw[q,hC]at e; cases e)).trans (g.keep c o hc hx e)
theorem SR.learn{own:Nat}(S:SR P wc sc env ns own b Z σ ad s){i:Nat}{x:Str}{c:Addr}{v:Value}{d:D}(hi:ns[i]? =some (some x))(hk:env.kindOf x=some .cell)(hc:env.cells.lookup x=some c)(hv:s.heap.IsCell c (some v))(r:Rep Z v d):
  SR P wc sc env ns own b Z (σ.set i (.fro d)) ad s:=by
 refine bq S.nss fun m hm hvv=>?_
 have hl:=S.lt hi
 refine⟨S.ok,S.kind,S.glob,S.blt,S.gl,S.base,S.zle,S.zb,S.lz,S.lb,⟨m,hm,fun j y hj hky=>?_⟩,fun j y hj=>?_,S.ownk,S.nd,S.cd,fun j k ds es h1 h2 h3=>?_,S.dd,by rw[dn]; exact S.len,S.cf,S.lc⟩
 ·have hji:j≠i:=fun q=>by
   subst q
   have:y=x:=by rw[hi]at hj; exact(ax.inj (ax.inj hj)).symm
   subst this
   rw[hk]at hky; cases hky
  rw[di hl,if_neg hji]
  exact hvv j y hj hky
 ·by_cases hji:j=i
  ·subst hji
   have:y=x:=by rw[hi]at hj; exact(ax.inj (ax.inj hj)).symm
   subst this
   rcases S.cel j y hj with q | ⟨k',c',o,h1,h2,h3,h4,h5⟩
   ·exact .inl q
   ·rw[hc]at h1; cases h1
    exact .inr ⟨k',c,some v,hc,hv,by rw[di hl,if_pos rfl]; exact⟨v,rfl,r⟩,h4,h5⟩
  ·rcases S.cel j y hj with q | ⟨k',c',o,h1,h2,h3,h4,h5⟩
   ·exact .inl q
   ·exact .inr ⟨k',c',o,h1,h2,by rw[di hl,if_neg hji]; exact h3,h4,h5⟩
 ·have f:∀(j:Nat) (ds1:List D),(σ.set i (.fro d))[j]? =some (Var.mut ds1)→σ[j]? =some (Var.mut ds1):=fun j ds1 h=>by
   rw[di hl]at h
   by_cases hji:j=i
   ·rw[if_pos hji]at h; cases h
   ·rw[if_neg hji]at h; exact h
  exact S.ai j k ds es (f j ds h1) (f k es h2) h3
theorem qA(F:Facts P wc)(O:FnOk P wc ftL)(Sh:ShV scV bodyV)(K:PvAt P f scV bodyV)(hm:P.mg (aa "_parse_varint")=some (.ref f))(R:Room A 41){el:Expr}{g:Comprehension}{pos p q:Pos}(T:ShT sc' el g)
  (hsc:ScopeOk sc sc' ns ["road"] [8]) (hnc:∀x∈sc'.names,x.2≠ .cell) (hro:ckE 10 ns sc (.var 1) g.iter=true) (S:SR P wc sc env ns 0 b Z σ ad s) (hfull:qu ns)
  {roads outs:List D} (hroads:σ[1]? =some (.fro (.list roads))) (hlen:roads.length=outs.length) (hsm:outs.length≤1000) (Lo:Loose ns b Z σ ad s.heap J) (hJ:s.heap.IsListIter J l 0) {items:Array Value} (hl:Z.PlainList l items) (hoct:xA items 0 outs)
  {cL:Addr} (hcL:env.cells.lookup (aa "left")=some cL) (hcv:s.heap.IsCell cL (some (.ref J))) (h9:ns[9]? =some (some (aa "told"))) (h8:ns[8]? =some (some (aa "left"))) (hk8:env.kindOf (aa "left")=some .cell) (hk9:env.kindOf (aa "told")=some .cell) (hu9:σ[9]? =some .u0)
  {Q:Flow→Shared→Prop} {E:Value→Shared→Prop}
  (h:∀s' Z' ad',SR P wc sc env ns 0 b Z' (σ.set 9 (.fro (.list outs))) ad' s'→Le Z Z'→Loose ns b Z' (σ.set 9 (.fro (.list outs))) ad' s'.heap J→s'.heap.IsListIter J l (2*outs.length)→s'.heap.IsCell cL (some (.ref J))→Q .next s'):
  wpAny P.M A (exec (.Assign [.Name (aa "told") p] (.ListComp el [g] sc' pos) q) env) Q E s:=by
 refine x8_4 (id T.ex) fun a1 a2 a3 a4 a5 a6 a7 a8 eel etg eif eas=>?_
 obtain⟨gt,gi,gf,ga⟩:=g
 have eas':ga=0:=eas
 subst eas'
 have H:∀m,eU P wc ftL m:=fun m=>(cK F O m).1
 refine mX (id hJ) fun oJ hoJ hcJ hdJ=>?_
 have pJ:=eh hJ hoJ
 have hTJ:J∉P.T:=S.ok.notT hoJ (.inl pJ.notNone)
 have hsw:swapsWith (.ListComp el [⟨gt,gi,gf,0⟩] sc' pos) (some (.Name (aa "told") p)) q.line env=pure false:=by
  show pure _=pure false
  rw[hk9,show((some NameKind.cell:Option NameKind)==some .local)=false from rfl,Bool.and_false,Bool.false_and,Bool.false_and]
 refine dD hsw ?_
 refine bq (S.closure hsc) fun cl hcl hcl'=>?_
 rw[eval_ListComp]
 have hasy:firstAsync [⟨gt,gi,gf,0⟩]=false:=rfl
 rw[hasy]
 refine wpAny_comprehension_free (use:=none) (g:=⟨gt,gi,gf,0⟩) (gs:=[]) rfl (fun x=>fC hro x) hcl hsc.kind hsc.locs ?_
 show wpAny P.M A (eval gi env) _ _ _
 have hsrc:jF (evE ftL 10) σ (.var 1)=some roads:=Pl.ob1 (tD hroads) (Pl.gy (by rw[few_eq]; exact IQ hlen hsm))
 refine iD F (H 10) (R.mono (by decide)) hro rfl hsrc S _ _ fun I s2 Z2 g2 it hf hz=>?_
 refine wpAny_newObj_type ?_
 have g3:Go P Z2 s2 Z2 {s2 with heap:=s2.heap.push {cls:= .type "list",dict:=none,data:= .seq ([]:List Value).toArray}}:=Go.push' g2.ok _
 have gg:=g2.trans g3
 refine iy fun cenv0 hc0=>?_
 generalize h3:({s2 with heap:=s2.heap.push {cls:= .type "list",dict:=none,data:= .seq ([]:List Value).toArray}}:Shared)=s3 at g3 gg hc0⊢
 generalize hce:({cenv0 with scope:=relabel sc' env}:Env)=cenv
 generalize h4:({s3 with heap:=pushCells (s3.heap.push {cls:= .type "dict",data:= .dict #[]}) sc'.names}:Shared)=s4
 have hcenv:cenv={scope:=relabel sc' env,locals:=s3.heap.objs.size,globals:=env.globals,cells:=cellsFrom (s3.heap.objs.size+1) sc'.names []++cl,qual:=env.qual,func:=none,code:=env.code,frame:=env.frame,builtins:=env.builtins}:=by rw[←hce,hc0]
 refine x0_7 (S.comp hsc gg hcl' (cenv:=cenv) hcenv h4.symm) fun SC g4 hns hfC hsC hzC hoC=>?_
 have hloc:cenv0.locals=cenv.locals:=by rw[←hce]
 rw[hloc]
 have hcc:cenv.cells.lookup (aa "left")=some cL:=by
  have e0:cellsFrom (s3.heap.objs.size+1) sc'.names []=[]:=List.eq_nil_iff_forall_not_mem.mpr fun υ1q0 hx=>by obtain⟨x,c⟩:=υ1q0; exact hnc _ (ig _ _ _ _ hx) rfl
  rw[hcenv]
  show(cellsFrom (s3.heap.objs.size+1) sc'.names []++cl).lookup (aa "left")=some cL
  rw[e0,List.nil_append,hcl' _ (mem_of_lookup T.lf)]
  exact hcL
 refine bq it.obj fun oI hoI pI=>?_
 have k3:Le s2.heap s3.heap:=by rw[←h3]; exact Le.push _ _
 have k4:Le s3.heap s4.heap:=fun c o e=>by rw[←h4]; exact pushCells_keeps _ _ c o (aU _ e)
 have it4:lp P Z2 I s4.heap roads:=it.frame g2.ok.z SC.ok.z (.refl _) fun o e=>k4 _ _ (k3 _ _ e)
 have nomut:∀(i:Nat) (ds:List PyData),(mask [8] σ (["road"]:List String).length)[i]? ≠some (.mut ds):=fun i ds e=>by
  rcases iL e with q | ⟨d,q,_⟩<;>cases q
 have hfD:s.heap.get? s2.heap.objs.size=none:=g2.old (get?_size _)
 have hlD:s4.heap.PlainList s2.heap.objs.size #[]:=⟨_,k4 _ _ (by rw[←h3]; exact aJ _ rfl)⟩
 refine lq (SC.expose (X:=J) Lo.zn hoJ pJ hTJ) fun SE LJ hoJ4=>?_
 have hid:∀a,s.heap.get? a=none→(hideAll s.heap [J]).get? a=none:=fun a ha=>by
  cases q:(hideAll s.heap [J]).get? a with
  | none=>rfl
  | some o=>rw[of_hideAll _ q]at ha; cases ha
 have LI:Loose (fB [8] ns ["road"]) ⟨hideAll s.heap [J],Z⟩ Z2 (mask [8] σ (["road"]:List String).length) ad s4.heap I:=⟨⟨oI,k4 _ _ (k3 _ _ hoI),pI.plainish⟩,hid _ hf,hz,fun i x ds υ e=>absurd e (nomut i ds)⟩
 have LD:Loose (fB [8] ns ["road"]) ⟨hideAll s.heap [J],Z⟩ Z2 (mask [8] σ (["road"]:List String).length) ad s4.heap s2.heap.objs.size:=⟨by obtain⟨n,e⟩:=hlD; exact⟨_,e,⟨_,rfl⟩,.inr ⟨_,_,rfl⟩⟩,hid _ hfD,g2.ok.znone (get?_size _),fun i x ds υ e=>absurd e (nomut i ds)⟩
 have hne:s2.heap.objs.size≠I:=fun e=>absurd (cQ hoI) (by rw[←e]; exact Nat.lt_irrefl _)
 have hDJ:s2.heap.objs.size≠J:=fun e=>by rw[e,hoJ]at hfD; cases hfD
 have hJI:J≠I:=fun e=>by rw[←e,hoJ]at hf; cases hf
 have hJ4:s4.heap.IsListIter J l 0:=fK hJ fun o e=>by rw[hoJ]at e; cases e; exact hoJ4
 have hR:(fB [8] ns ["road"])[ns.length]? =some (some (aa "road")):=by
  unfold fB
  rw[bM (by simp)]
  simp
 have hcJ2:cL≠J:=fun q=>by obtain⟨oc,e,dd⟩:=hcv; rw[q,hoJ]at e; cases e; exact pJ.notCell dd
 have hBc:(hideAll s.heap [J]).IsCell cL (some (.ref J)):=by
  refine bq hcv fun oc e dd=>?_
  exact gX oc (hideAll_get [J] e (fun q=>hcJ2 (ay.mp q))) dd
 have loop:codeAny P.M A (.compLoop (.ListComp el [⟨gt,gi,gf,0⟩] sc' pos) 0 (.ref I) (.ref s2.heap.objs.size) cenv) (fun r s'=>compPost P.M A E none (fun u s₁=>wpAny P.M A (bindName env (aa "told") u) (fun υ=>Q .next) E s₁) (.ref s2.heap.objs.size) cenv.locals r s') s4:=by
  refine qC F O Sh K hm R T hR (bL _) hcc (items:=items) (b:=⟨hideAll s.heap [J],Z⟩) hBc (S.ok.cellT hcv) outs roads _ ad Z2 s4 0 #[] [] _ hlen hoct SE it4 LI LD LJ hJ4 (eP g2.le hl) hlD (by simpa using RepAll.nil) hne hDJ hJI (by simp only[aE,cR]; rw[few_eq]; exact BL hsm) fun s5 Z5 σ5 ad5 ws5 S5 hle5 LD5 LJ5 hJ5 hw5 hr5=>?_
  refine bq S5.nss fun m hmC υ=>?_
  refine gX m hmC (fun h' hs=>?_)
  have gx:=S5.toGoX LJ5.zn
  obtain⟨oD,hoD⟩:∃o,s5.heap.get? s2.heap.objs.size=some o:=by obtain⟨n,e⟩:=hw5; exact⟨_,e⟩
  have pD:=cG hw5 hoD
  have hCD:cenv.locals≠s2.heap.objs.size:=fun e=>by
   refine pF hmC fun o' es ep e' hd' υ=>?_
   rw[e,hoD]at e'; cases e'; exact pD.notDict hd'
  refine bq (id hJ5) fun oJ5 hoJ5 υ=>?_
  have hCJ:cenv.locals≠J:=fun e=>by
   refine pF hmC fun o' es ep e' hd' υ=>?_
   rw[e,hoJ5]at e'; cases e'; exact(eh hJ5 hoJ5).notDict hd'
  have gx2:=gx.changeFresh (C:=cenv.locals) hsC S5.lz (S5.ok.nsT hmC) hs
  have hoD':h'.get? s2.heap.objs.size=some oD:=(hs.2 _ (Ne.symm hCD)).trans hoD
  have gx3:=gx2.freeze (a:=s2.heap.objs.size) hoD' hfD LD5.zn (gx2.ok.notT hoD' (.inl pD.notNone)) hDJ
  have hJ6:h'.IsListIter J l (0+2*outs.length):=fK hJ5 fun o e=>(hs.2 _ (Ne.symm hCJ)).trans e
  refine bq (id hJ6) fun oJ6 hoJ6 υ=>?_
  have pJ6:=eh hJ6 hoJ6
  refine fu (S.goX Lo gx3 ⟨oJ6,hoJ6,pJ6⟩) fun S6 LJ6=>?_
  have hfr:oD.isFreed=false:=(ba.mp hoD).2
  have rr:Rep (hput Z5 s2.heap.objs.size oD) (.ref s2.heap.objs.size) (.list outs):=by
   refine dh (id hw5) fun nn e=>?_
   refine Rep.list (vs:=ws5) ⟨nn,?_⟩ (by simpa using hr5.le (dY LD5.zn))
   rw[cM hfr]; rw[hoD]at e; exact e
  have S6c:∀{c v},s.heap.IsCell c v→h'.IsCell c v:=fun{c v} C=>by
   have hcT:=S.ok.cellT C
   have hcJ:c≠J:=fun q=>by obtain⟨oc,e,dd⟩:=C; rw[q,hoJ]at e; cases e; exact pJ.notCell dd
   refine bq C fun oc e dd=>?_
   exact gX oc (gx3.keep _ _ hcT hcJ e) dd
  refine S6.storeCell (i:=9) h9 (bK _) (S6.lt h9) hu9 hk9 fun s7 c hc hcv7 υ hsb hzc S7=>?_
  have S8:=S7.learn h9 hk9 hc hcv7 rr
  have hne9:cL≠c:=fun q=>by
   subst q
   have:=S6.cd 8 9 _ _ cL h8 h9 (bK _) (bK _) hk8 hk9 hcL hc
   cases this
  have hcJ9:J≠c:=fun q=>by
   refine bq hcv7 fun oc e dd=>?_
   rw[←q]at e
   have e2:s7.heap.get? J=some oJ6∨True:= .inr trivial
   obtain⟨υ,c9,o9,k1,⟨oc9,e9,d9⟩,υ⟩:=(S6.cel 9 _ h9).resolve_left (fun q=>by rw[hk9]at q; cases q)
   rw[hc]at k1; cases k1
   rw[←q]at e9
   have e9':h'.get? J=some oc9:=e9
   rw[hoJ6]at e9'; cases e9'
   exact pJ6.notCell d9
  rw[cR]at hJ6
  have hJ7:s7.heap.IsListIter J l (2*outs.length):=fK hJ6 fun o e=>(hsb.2 _ hcJ9).trans e
  refine bq (id hJ7) fun oJ7 hoJ7 υ=>?_
  have C7:s7.heap.IsCell cL (some (.ref J)):=by
   refine bq (S6c hcv) fun oc e dd=>?_
   exact gX oc ((hsb.2 _ hne9).trans e) dd
  refine h s7 _ ad S8 gx3.le ⟨⟨oJ7,hoJ7,eh hJ7 hoJ7⟩,LJ6.bn,LJ6.zn,fun i x ds hx e=>?_⟩ hJ7 C7
  rw[di (S6.lt h9)]at e
  by_cases q:i=9
  ·rw[if_pos q]at e; cases e
  ·rw[if_neg q]at e; exact LJ6.na i x ds hx e
 exact eG (g:=⟨gt,gi,gf,0⟩) rfl rfl loop (it4.self R.hd loop)
end
noncomputable def BU:List Int→List D→Prop
 | [],[]=>True
 | o1::o2::r,d::ds=>(aO o1 64≠0∧aO o2 64=0∧i2d [.int (eo (aO o1 63*2^6) (aO o2 63)),.int 6]=some d)∧BU r ds
 | _,_=>False
structure ShM(ns:Nms)(sc:Scope)(st:List Stmt):Prop where
 gi:hK sc (aa "iter") "iter"=true
 gv:hK sc (aa "_parse_varint") "_parse_varint"=true
 gs:hK sc (aa "StopIteration") "StopIteration"=true
 kl:sc.names.lookup (aa "left")=some .cell
 kt:sc.names.lookup (aa "told")=some .cell
 n5:ns[5]? =some (some (aa "octets"))
 n8:ns[8]? =some (some (aa "left"))
 n9:ns[9]? =some (some (aa "told"))
 ex:∃a1 a2 a3 a4 a5 b1 b2 b3 el g sc' c1 c2 c3 c4 c5 c6 c7 c8 bodyR,
  st=[.Assign [.Name (aa "left") a1] (.Call (.Name (aa "iter") a2) [.Name (aa "octets") a3] [] a4) a5,
   .Assign [.Name (aa "told") b1] (.ListComp el [g] sc' b2) b3,
   .Try (.Expr (.Call (.Name (aa "_parse_varint") c1) [.Name (aa "left") c2] [] c3) c4::bodyR) [.ExceptHandler (some (.Name (aa "StopIteration") c5)) none [.Pass c6] c7] [] [] c8]∧
  ShT sc' el g∧lU sc sc' ns ["road"] [8]=true∧(∀x∈sc'.names,x.2≠ .cell)∧ckE 10 ns sc (.var 1) g.iter=true
section
variable {P:Pm}{wc:Addr}{f:Addr}{sc scV:Scope}{env:Env}{ns:Nms}{b:Bs}{Z Z':Heap}{σ:St}{ad:Nat→Addr}{s s':Shared}{A:Around}{bodyV:List Stmt}{n:Nat}
theorem oS:∀{is:List Int} {outs:List D},BU is outs→is.length=2*outs.length
 | [],[],_=>rfl
 | _::_::r,d::ds,h=>by
  have:=oS h.2
  simp only[ah]; exact IP this
 | [],_::_,h=>h.elim
 | [_],[],h=>h.elim
 | [_],_::_,h=>h.elim
 | _::_::_,[],h=>h.elim
theorem rJ{items:Array Value}:∀{is:List Int} {outs:List D} {i:Nat},BU is outs→(∀(j:Nat) x,is[j]? =some x→∃t,items[i+j]? =some (.int x t))→xA items i outs
 | [],[],_,_,_=>trivial
 | o1::o2::r,d::ds,i,h,k=>by
  refine dh (k 0 o1 rfl) fun t1 e1=>?_
  refine dh (k 1 o2 rfl) fun t2 e2=>?_
  exact⟨⟨o1,o2,t1,t2,e1,e2,h.1.1,h.1.2.1,h.1.2.2⟩,rJ h.2 fun j x hx=>(cH i 2 j).trans (bP i j 2)▸k (j+2) x hx⟩
 | [],_::_,_,h,_=>h.elim
 | [_],[],_,h,_=>h.elim
 | [_],_::_,_,h,_=>h.elim
 | _::_::_,[],_,h,_=>h.elim
theorem rZ(F:Facts P wc)(O:FnOk P wc ftL)(Sh:ShV scV bodyV)(K:PvAt P f scV bodyV)(hm:P.mg (aa "_parse_varint")=some (.ref f))(hsi:P.mg (aa "StopIteration")=none)(R:Room A 41){st rest:List Stmt}(M:ShM ns sc st)(hfull:qu ns)
  (hfr:A.frames=some [env]) (hef:env.frame=some env.locals) (hko:∀y,env.kindOf y=sc.names.lookup y) (S:SR P wc sc env ns 0 b Z σ ad s) {is:List Int} {roads outs:List D} (h5:σ[5]? =some (.mut (is.map PyData.int))) (h1:σ[1]? =some (.fro (.list roads))) (h8:σ[8]? =some .u0) (h9:σ[9]? =some .u0)
  (hoct:BU is outs) (hlen:roads.length=outs.length) (hsm:outs.length≤1000) {Q:Flow→Shared→Prop} {E:Value→Shared→Prop}
  (h:∀s' Z' ad',SR P wc sc env ns 0 b Z' ((σ.set 5 (.fro (.list (is.map PyData.int)))).set 9 (.fro (.list outs))) ad' s'→Le Z Z'→wpAny P.M A (execs rest env) Q E s'):
  wpAny P.M A (execs (st++rest) env) Q E s:=by
 obtain⟨a1,a2,a3,a4,a5,b1,b2,b3,el,g,sc',c1,c2,c3,c4,c5,c6,c7,c8,bodyR,est,T,hscope,hnc,hro⟩:=M.ex
 subst est
 have hk8:env.kindOf (aa "left")=some .cell:=by rw[hko]; exact M.kl
 have hk9:env.kindOf (aa "told")=some .cell:=by rw[hko]; exact M.kt
 refine bq (S.freeze M.n5 h5) fun Z1 le1 S1=>?_
 have hl5:=S.lt M.n5
 have get1:∀j,j≠5→(σ.set 5 (.fro (.list (is.map PyData.int))))[j]? =σ[j]? :=fun j hj=>by rw[di hl5,if_neg hj]
 have g5:(σ.set 5 (.fro (.list (is.map PyData.int))))[5]? =some (.fro (.list (is.map PyData.int))):=by rw[di hl5,if_pos rfl]
 show wpAny P.M A (execs (_::_::_::rest) env) Q E s
 refine wpAny_execs_cons (dD (ew rfl _ _) (wpAny_Call_ofName (S1.readB M.gi (F.bi "iter" (by decide)) (show bootBuiltins (aa "iter")=some (.builtin "iter") by decide+kernel) ?_)))
 rw[bF (xs:=[.Name (aa "octets") a3]) (fun w hw=>by rw[ay.mp hw]; rfl),args_two,kw_nil]
 refine cZ (first:=[]) ?_
 show wpAny P.M A (spliced [(false,eval (.Name (aa "octets") a3) env)]) _ _ s
 refine spliced_cons (S1.read M.n5 g5 fun v rv=>spliced_nil ?_)
 refine gw rv.list_inv fun l items e75_1 hl hr=>?_; subst e75_1
 show wpAny P.M A (call (.builtin "iter") [.ref l]) _ _ s
 refine sG (eP S1.ok.z hl).isList ?_
 generalize hoI:({cls:= .type "list_iterator",data:= .fields #[.ref l,.int 0 0]}:Obj)=oI
 have fI:oI.isFreed=false:=by rw[←hoI]; rfl
 have g2:Go P Z1 s Z1 {s with heap:=s.heap.push oI}:=Go.push' S1.ok oI
 have S2:=S1.go g2
 have eI:(s.heap.push oI).get? s.heap.objs.size=some oI:=aJ _ fI
 have nI:s.heap.get? s.heap.objs.size=none:=get?_size _
 have pI:eQ oI:=by rw[←hoI]; exact⟨⟨_,rfl⟩,.inl ⟨_,rfl⟩⟩
 generalize hJ:s.heap.objs.size=J at eI nI⊢
 have u8:(σ.set 5 (.fro (.list (is.map PyData.int))))[8]? =some .u0:=by rw[get1 8 (by decide)]; exact h8
 refine S2.storeCell (i:=8) M.n8 (bK _) (S2.lt M.n8) u8 hk8 fun s3 cL hcL hcv υ hsb hzc S3=>?_
 have hJc:J≠cL:=fun q=>by
  obtain⟨υ,c9,o9,k1,⟨oc9,e9,d9⟩,υ⟩:=(S2.cel 8 _ M.n8).resolve_left (fun q=>by rw[hk8]at q; cases q)
  rw[hcL]at k1; cases k1
  rw[←q]at e9
  have e9':(s.heap.push oI).get? J=some oc9:=e9
  rw[eI]at e9'; cases e9'
  exact pI.notCell d9
 have eI3:s3.heap.get? J=some oI:=(hsb.2 _ hJc).trans eI
 have hit:s3.heap.IsListIter J l 0:=⟨oI,eI3,by rw[←hoI],by rw[←hoI]; rfl⟩
 have hTJ:J∉P.T:=fun ht=>by
  refine bq (P.to2 S1.ok.tab J ht) fun o e υ=>?_
  rw[nI]at e; cases e
 have Lo:Loose ns b Z1 (σ.set 5 (.fro (.list (is.map PyData.int)))) ad s3.heap J:=by
  refine⟨⟨oI,eI3,pI⟩,?_,S1.ok.znone nI,fun i x ds hx e=>?_⟩
  ·cases q:b.B.get? J with
   | none=>rfl
   | some o=>have:=S1.base _ _ hTJ q; rw[nI]at this; cases this
  ·refine bq (S3.slot (A:={}) hx) fun ov r υ=>?_
   rw[e]at r
   obtain⟨vs,υ,⟨m,lm⟩,υ⟩:=r
   intro q
   rw[q,eI3]at lm; cases lm
   have:=congrArg Obj.data hoI
   cases this
 have hio:∀(j:Nat) x,is[j]? =some x→∃t,items[0+j]? =some (.int x t):=fun j x hx=>by
  refine bq (hr.get j (d:= .int x) (by rw[aW,hx]; rfl)) fun v hv rv=>?_
  refine dh rv.int_inv fun t e17_1=>?_; subst e17_1
  exact⟨t,by rw[cR,←bV]; exact hv⟩
 have hsz:items.size=2*outs.length:=by
  have:=dk hr
  rw[this,ag,oS hoct]
 refine wpAny_execs_cons (qA F O Sh K hm R T (k5 hscope) hnc hro S3 hfull (roads:=roads) (outs:=outs) (by rw[get1 1 (by decide)]; exact h1) hlen hsm Lo hit hl (rJ hoct hio) hcL hcv M.n9 M.n8 hk8 hk9 (by rw[get1 9 (by decide)]; exact h9)
  fun s4 Z4 ad4 S4 le4 Lo4 hit4 C4=>?_)
 refine wpAny_execs_cons (yB (n:=40) F Sh K (R.mono (by decide)) S4 Lo4 hit4 (eP le4 hl) (Array.getElem?_eq_none (by exact bk (by assumption))) hm M.gv hsi M.gs (.inl M.kl) hcL C4 hfr hef fun s5 S5=>?_)
 exact h s5 Z4 ad4 S5 (le1.trans le4)
end
theorem tB(env:Env):∀(a b:List Stmt),execs (a++b) env=(do match ←execs a env with | .next=>execs b env | f=>pure f):=by
 intro a
 induction a with
 | nil=>
  intro b
  show execs b env=_
  rw[execs_nil]; simp
 | cons st a ih=>
  intro b
  rw[cY,execs_cons,execs_cons,bind_assoc]
  congr 1
  funext f
  cases f<;>first | exact ih b | simp
section
variable {P:Pm}{wc:Addr}{f:Addr}{sc scV:Scope}{env:Env}{ns:Nms}{b:Bs}{Z Z':Heap}{σ:St}{ad:Nat→Addr}{s s':Shared}{A:Around}{bodyV:List Stmt}{n:Nat}
theorem vI(F:Facts P wc)(O:FnOk P wc ftL)(Mk:MkOk P wc ftL)(Sh:ShV scV bodyV)(K:PvAt P f scV bodyV)(hm:P.mg (aa "_parse_varint")=some (.ref f))(hsi:P.mg (aa "StopIteration")=none)(R:Room A 150){bA st bB:List Stmt}(M:ShM ns sc st)(hfull:qu ns)
  (hfr:A.frames=some [env]) (hef:env.frame=some env.locals) (hko:∀y,env.kindOf y=sc.names.lookup y) (S:SR P wc sc env ns 0 b Z σ ad s) (cA:iw ns sc (ckS 40 ns sc) HM.body bA=true) (cB:iw ns sc (ckS 40 ns sc) fLawB.body bB=true)
  {σA σB:St} {is:List Int} {roads outs:List D} {d:D} (eA:dU ftL 150 σ HM.body=some (.next,σA)) (h5:σA[5]? =some (.mut (is.map PyData.int))) (h1:σA[1]? =some (.fro (.list roads))) (h8:σA[8]? =some .u0) (h9:σA[9]? =some .u0)
  (hoct:BU is outs) (hlen:roads.length=outs.length) (hsm:outs.length≤1000) (eB:dU ftL 150 ((σA.set 5 (.fro (.list (is.map PyData.int)))).set 9 (.fro (.list outs))) fLawB.body=some (.ret d,σB)) {Q:Flow→Shared→Prop} {E:Value→Shared→Prop}
  (h:∀v s' Z' ad',SR P wc sc env ns 0 b Z' σB ad' s'→Rep Z' v d→Q (.ret v) s'):wpAny P.M A (execs (bA++(st++bB)) env) Q E s:=by
 rw[tB]
 refine wpAny_bind ((lx F O Mk 150).2 R hfull cA eA S _ _ fun fl s1 Z1 ad1 hr hl S1=>?_)
 cases fl with
 | next=>
  refine rZ F O Sh K hm hsi (R.mono (by decide)) M hfull hfr hef hko S1 h5 h1 h8 h9 hoct hlen hsm fun s2 Z2 ad2 S2 le2=>?_
  refine(lx F O Mk 150).2 R hfull cB eB S2 _ _ fun fl s3 Z3 ad3 hr3 hl3 S3=>?_
  cases fl with
  | ret v=>exact h v s3 Z3 ad3 S3 hr3
  | _=>exact hr3.elim
 | _=>exact hr.elim
end
end Pw
end
section
open PySem PySem.W PyProof.Rows
set_option maxRecDepth 100000
set_option maxHeartbeats 8000000
namespace Pw
noncomputable def yx:Program:=
 let p:=PySem.Challenge.rw_ty0059_01.prog
 {p with main:={p.main with body:=((((p.main.body.eraseIdx 18).eraseIdx 16).eraseIdx 12).eraseIdx 4).eraseIdx 1}}
theorem b2{a b:Bool}(x:a=true)(y:b=true):(a&&b)=true:=by rw[x,y]; rfl
theorem said:PySem.Challenge.rw_ty0059_01.wellSaid=true:=by
 unfold OpenLaw.wellSaid OpenRow.wellSaid OpenRow.partSaid looksOpen
 repeat' (with_reducible refine b2 ?_ ?_)
 all_goals kernel_rfl
local macro_rules | `(tactic| o_head $H:term) => `(tactic| (
 refine holds_open (q:=Pw.yx) (loose:=[aa "COMPILER_FLAG_NAMES",aa "Whitespace"]) (Xt:=fun s=>xlAt Pw.yx [] s&&recOk (RowW.records PySem.Challenge.rw_ty0059_01.row.toRowW) s) (XP:=XL Pw.yx []) (Yf:=Hook.obs $H) (Ya:=Hook.val $H) (YP:=Hook.says $H) (N:=2564) ?hl (Hook.of $H) (Hook.keeps $H) (fun s e=>xl_of s (ee.mp e).1) XL.keeps (by rfl) (by rfl) (by rfl) (fun s e=>recFacts_of (ee.mp e).2) (by rfl) (by first | assumption | decide+kernel) (by decide+kernel) ⟨rfl,rfl,rfl,rfl,rfl,by decide+kernel⟩ ?hw ?hc
 case hl=>(refine LeftO.of_split "special-get-raises" ?_; intro w; kernel_rfl)))
local macro_rules | `(tactic| o_law) => `(tactic| refine holds_law Pw.said fun said => ?_)
open_top hd for PySem.Challenge.rw_ty0059_01
end Pw
end
section
open PySem PySem.W PyProof.Rows PySem.Calls
set_option maxRecDepth 100000
set_option maxHeartbeats 8000000
namespace Pw
noncomputable def yg:Data→Option FuncData
 | .func fd=>some fd
 | _=>none
noncomputable def yf:Data→Option (Array Value)
 | .fields vs=>some vs
 | _=>none
noncomputable def valS:Value→Option Str
 | .str q _=>some q
 | _=>none
noncomputable def valR:Value→Option Addr
 | .ref c=>some c
 | _=>none
theorem qf{d:Data}{fd:FuncData}(h:yg d=some fd):d= .func fd:=by cases d<;>cases h; rfl
theorem qe{d:Data}{vs:Array Value}(h:yf d=some vs):d= .fields vs:=by cases d<;>cases h; rfl
theorem uD{v:Value}{q:Str}(h:valS v=some q):∃t,v= .str q t:=by cases v<;>cases h; exact⟨_,rfl⟩
theorem uE{v:Value}{c:Addr}(h:valR v=some c):v= .ref c:=by cases v<;>cases h; rfl
noncomputable def fdAt(K:Frag)(a:Addr):Option FuncData:=(K.lookup a).bind fun o=>yg o.data
theorem wA{K:Frag}{a:Addr}{fd:FuncData}(h:fdAt K a=some fd):∃o,K.lookup a=some o∧o.data= .func fd:=
 (ao.mp h).imp fun υ h=>⟨h.1,qf h.2⟩
noncomputable def yh(K:Frag)(c:Addr):Option Str:=(K.lookup c).bind fun o=>(yf o.data).bind fun vs=>(vs[1]?).bind valS
theorem qm{K:Frag}{h:Heap}{c:Addr}{q:Str}(X:K.In h)(e:yh K c=some q):h.CodeRec (.ref c) q:=by
 refine bq (ao.mp e) fun o q1 e=>?_
 refine bq (ao.mp e) fun vs q2 e=>?_
 refine bq (ao.mp e) fun v q3 e=>?_
 refine dh (uD e) fun t ev=>?_
 exact i4_4 c o vs t rfl (X _ _ q1) (qe q2) (ev▸q3)
noncomputable def dOf(nm:String):Arguments×List Stmt×Scope:=((HV PySem.Challenge.pw_ty0059_01 nm).or (C9 PySem.Challenge.pw_ty0059_01 nm)).getD ⟨default,[],default⟩
noncomputable def kY(K:Frag)(a:Addr)(q:String):Option (Str×FuncBody×Scope×List (Str×Addr)×Addr×Addr×Value×Arguments×Value×Value):=(fdAt K a).bind fun fd=>(valR fd.code).bind fun c=>(yh K c).bind fun q'=>
 if q'==aa q then some (fd.qualname,fd.body,fd.scope,fd.closure,fd.globals,fd.builtins,fd.code,fd.params,fd.defaults,fd.kwdefaults) else none
noncomputable abbrev fh(nm q:String)(c:Addr):Option (Str×FuncBody×Scope×List (Str×Addr)×Addr×Addr×Value×Arguments×Value×Value):=
 some (aa q,.stmts (dOf nm).2.1,(dOf nm).2.2,[],aX,cE,.ref c,(dOf nm).1,.none,.none)
theorem iP{K:Frag}{h:Heap}(X:K.In h){a c:Addr}{nm q:String}(e:kY K a q=fh nm q c):∃o fd,h.get? a=some o∧o.data= .func fd∧h.CodeRec fd.code fd.qualname∧fd.body= .stmts (dOf nm).2.1∧fd.scope=(dOf nm).2.2∧fd.closure=[]∧fd.globals=aX∧fd.builtins=cE∧
  fd.code= .ref c∧fd.qualname=aa q∧fd.params=(dOf nm).1∧fd.defaults= .none∧fd.kwdefaults= .none:=by
 refine bq (ao.mp e) fun fd h1 e=>?_
 refine bq (ao.mp e) fun c' h2 e=>?_
 refine bq (ao.mp e) fun q' h3 e=>?_
 by_cases h4:(q'==aa q)=true
 ·have e:=ax.inj ((if_pos h4).symm.trans e)
  have p:=fun{α β:Type} {a a':α} {b b':β} (h:(a,b)=(a',b'))=>Prod.mk.inj h
  refine bq (wA h1) fun o ho hd=>?_
  have e1:=p e; have e2:=p e1.2; have e3:=p e2.2; have e4:=p e3.2; have e5:=p e4.2; have e6:=p e5.2; have e7:=p e6.2; have e8:=p e7.2; have e9:=p e8.2
  exact⟨o,fd,X _ _ ho,hd,by rw[uE h2,e1.1,←eq_of_beq h4]; exact qm X h3,e2.1,e3.1,e4.1,e5.1,e6.1,e7.1,e1.1,e8.1,e9.1,e9.2⟩
 ·cases(if_neg h4).symm.trans e
noncomputable def dF(nm:String)(na:Nat)(nms:List String):Prop:=∀fd:FuncData,fd.params=(dOf nm).1→fd.defaults= .none→fd.kwdefaults= .none→∀vs:List Value,vs.length=na→bindArgs fd ⟨vs,[]⟩=pure ((nms.map aa).zip vs)
noncomputable def fdW(p:Arguments)(d k:Value)(fd:FuncData):FuncData:={fd with params:=p,defaults:=d,kwdefaults:=k}
theorem DP{fd:FuncData}{p:Arguments}{d k:Value}(h1:fd.params=p)(h2:fd.defaults=d)(h3:fd.kwdefaults=k):fdW p d k fd=fd:=by
 subst h1 h2 h3; rfl
theorem ot{nm:String}{na:Nat}{nms:List String}(h:∀(fd:FuncData) (vs:List Value),vs.length=na→bindArgs (fdW (dOf nm).1 .none .none fd) ⟨vs,[]⟩=pure ((nms.map aa).zip vs)):dF nm na nms:=fun fd h1 h2 h3 vs hv=>DP h1 h2 h3▸h fd vs hv
theorem gn{nm:String}{nms:List String}(h:∀(fd:FuncData) (a:Value),bindArgs (fdW (dOf nm).1 .none .none fd) ⟨[a],[]⟩=pure ((nms.map aa).zip [a])):dF nm 1 nms:=ot fun fd υ hv=>len1 (P:=fun vs=>bindArgs (fdW (dOf nm).1 .none .none fd) ⟨vs,[]⟩=pure ((nms.map aa).zip vs)) hv (h fd)
theorem gm{nm:String}{nms:List String}(h:∀(fd:FuncData) (a b:Value),bindArgs (fdW (dOf nm).1 .none .none fd) ⟨[a,b],[]⟩=pure ((nms.map aa).zip [a,b])):dF nm 2 nms:=ot fun fd υ hv=>GV (P:=fun vs=>bindArgs (fdW (dOf nm).1 .none .none fd) ⟨vs,[]⟩=pure ((nms.map aa).zip vs)) hv (h fd)
theorem xj{nm:String}{nms:List String}(h:∀(fd:FuncData) (a b c:Value),bindArgs (fdW (dOf nm).1 .none .none fd) ⟨[a,b,c],[]⟩=pure ((nms.map aa).zip [a,b,c])):dF nm 3 nms:=ot fun fd υ hv=>GU (P:=fun vs=>bindArgs (fdW (dOf nm).1 .none .none fd) ⟨vs,[]⟩=pure ((nms.map aa).zip vs)) hv (h fd)
theorem j2{P:Pm}{K:Frag}(X:K.In P.g0){nm:String}{f:Fn}{a c:Addr}(hg:nsIn K aX (aa nm)=some (some (.ref a)))(e:kY K a nm=fh nm nm c)(hb:dF nm f.args f.names)(fr:cT f (dOf nm).2.2=true)
  (ck:iw f.nms (dOf nm).2.2 (ckS 40 f.nms (dOf nm).2.2) f.body (dOf nm).2.1=true):fT P nm f:=by
 obtain⟨o,fd,h1,h2,h3,h4,h5,h6,h7,h8,h9,h10,h11,h12,h13⟩:=iP X e
 exact DA a _ _ (mg_of X P.hg hg) (⟨⟨o,fd,h1,h2,h3,h4,h5,h6,h7,h8,hb fd h11 h12 h13⟩,fr,ck⟩)
theorem AY{P:Pm}{K:Frag}(X:K.In P.g0){nm:String}{nms:List String}{na:Nat}{a c:Addr}(e:kY K a nm=fh nm nm c)(hb:dF nm na nms)(fr:cT ⟨nms,na,[]⟩ (dOf nm).2.2=true):DefAt P nms na a (dOf nm).2.2 (dOf nm).2.1 c (aa nm):=by
 obtain⟨o,fd,h1,h2,h3,h4,h5,h6,h7,h8,h9,h10,h11,h12,h13⟩:=iP X e
 exact⟨⟨o,fd,h1,h2,h3,h4,h5,h6,h7,h8,h9,h10,hb fd h11 h12 h13⟩,fr⟩
theorem HH(p:Params):kY (hd.heap_1 p) 28 "_ellipsis_match"=fh "_ellipsis_match" "_ellipsis_match" 27:=by kernel_rfl
theorem Ho(p:Params):nsIn (hd.heap_1 p) aX (aa "_ellipsis_match")=some (some (.ref 28)):=by kernel_rfl
theorem GD:cT AI (dOf "_ellipsis_match").2.2=true:=by decide+kernel
theorem H5:iw AI.nms (dOf "_ellipsis_match").2.2 (ckS 40 AI.nms (dOf "_ellipsis_match").2.2) AI.body (dOf "_ellipsis_match").2.1=true:=by decide+kernel
theorem Iw:dF "_ellipsis_match" 2 AI.names:=gm fun fd a b=>by kernel_rfl
theorem Aj{P:Pm}{p:Params}(X:(hd.heap_1 p).In P.g0):fT P "_ellipsis_match" AI:=j2 X (Ho p) (HH p) Iw GD H5
theorem HJ(p:Params):kY (hd.heap_1 p) 35 "_div2n1n"=fh "_div2n1n" "_div2n1n" 34:=by kernel_rfl
theorem Hq(p:Params):nsIn (hd.heap_1 p) aX (aa "_div2n1n")=some (some (.ref 35)):=by kernel_rfl
theorem GG:cT B0 (dOf "_div2n1n").2.2=true:=by decide+kernel
theorem H7:iw B0.nms (dOf "_div2n1n").2.2 (ckS 40 B0.nms (dOf "_div2n1n").2.2) B0.body (dOf "_div2n1n").2.1=true:=by decide+kernel
theorem xp:dF "_div2n1n" 3 B0.names:=xj fun fd a b c=>by kernel_rfl
theorem Am{P:Pm}{p:Params}(X:(hd.heap_1 p).In P.g0):fT P "_div2n1n" B0:=j2 X (Hq p) (HJ p) xp GG H7
theorem HI(p:Params):kY (hd.heap_1 p) 63 "_divmod_pos"=fh "_divmod_pos" "_divmod_pos" 62:=by kernel_rfl
theorem Hp(p:Params):nsIn (hd.heap_1 p) aX (aa "_divmod_pos")=some (some (.ref 63)):=by kernel_rfl
theorem GF:cT DV (dOf "_divmod_pos").2.2=true:=by decide+kernel
theorem H6:iw DV.nms (dOf "_divmod_pos").2.2 (ckS 40 DV.nms (dOf "_divmod_pos").2.2) DV.body (dOf "_divmod_pos").2.1=true:=by decide+kernel
theorem Iy:dF "_divmod_pos" 2 DV.names:=gm fun fd a b=>by kernel_rfl
theorem Ak{P:Pm}{p:Params}(X:(hd.heap_1 p).In P.g0):fT P "_divmod_pos" DV:=j2 X (Hp p) (HI p) Iy GF H6
theorem HE(p:Params):kY (hd.heap_1 p) 70 "int_divmod"=fh "int_divmod" "int_divmod" 69:=by kernel_rfl
theorem Hl(p:Params):nsIn (hd.heap_1 p) aX (aa "int_divmod")=some (some (.ref 70)):=by kernel_rfl
theorem GA:cT tA (dOf "int_divmod").2.2=true:=by decide+kernel
theorem H3:iw tA.nms (dOf "int_divmod").2.2 (ckS 40 tA.nms (dOf "int_divmod").2.2) tA.body (dOf "int_divmod").2.1=true:=by decide+kernel
theorem Ir:dF "int_divmod" 2 tA.names:=gm fun fd a b=>by kernel_rfl
theorem Ah{P:Pm}{p:Params}(X:(hd.heap_1 p).In P.g0):fT P "int_divmod" tA:=j2 X (Hl p) (HE p) Ir GA H3
theorem HG(p:Params):kY (hd.heap_1 p) 78 "pretty_flags"=fh "pretty_flags" "pretty_flags" 77:=by kernel_rfl
theorem Hn(p:Params):nsIn (hd.heap_1 p) aX (aa "pretty_flags")=some (some (.ref 78)):=by kernel_rfl
theorem GC:cT DU (dOf "pretty_flags").2.2=true:=by decide+kernel
theorem H4:iw DU.nms (dOf "pretty_flags").2.2 (ckS 40 DU.nms (dOf "pretty_flags").2.2) DU.body (dOf "pretty_flags").2.1=true:=by decide+kernel
theorem Iu:dF "pretty_flags" 1 DU.names:=gn fun fd a=>by kernel_rfl
theorem Ai{P:Pm}{p:Params}(X:(hd.heap_1 p).In P.g0):fT P "pretty_flags" DU:=j2 X (Hn p) (HG p) Iu GC H4
theorem AF(p:Params):kY (hd.heap_1 p) 185 "_law_words"=fh "_law_words" "_law_words" 184:=by kernel_rfl
theorem Aq(p:Params):nsIn (hd.heap_1 p) aX (aa "_law_words")=some (some (.ref 185)):=by kernel_rfl
theorem zc:cT mF (dOf "_law_words").2.2=true:=by decide+kernel
theorem Bg:iw mF.nms (dOf "_law_words").2.2 (ckS 40 mF.nms (dOf "_law_words").2.2) mF.body (dOf "_law_words").2.1=true:=by decide+kernel
theorem BA:dF "_law_words" 2 mF.names:=gm fun fd a b=>by kernel_rfl
theorem sW{P:Pm}{p:Params}(X:(hd.heap_1 p).In P.g0):fT P "_law_words" mF:=j2 X (Aq p) (AF p) BA zc Bg
theorem AG(p:Params):kY (hd.heap_1 p) 156 "_law_roads"=fh "_law_roads" "_law_roads" 155:=by kernel_rfl
theorem Ar(p:Params):nsIn (hd.heap_1 p) aX (aa "_law_roads")=some (some (.ref 156)):=by kernel_rfl
theorem zd:cT mG (dOf "_law_roads").2.2=true:=by decide+kernel
theorem Bh:iw mG.nms (dOf "_law_roads").2.2 (ckS 40 mG.nms (dOf "_law_roads").2.2) mG.body (dOf "_law_roads").2.1=true:=by decide+kernel
theorem BC:dF "_law_roads" 1 mG.names:=gn fun fd a=>by kernel_rfl
theorem sX{P:Pm}{p:Params}(X:(hd.heap_1 p).In P.g0):fT P "_law_roads" mG:=j2 X (Ar p) (AG p) BC zd Bh
theorem HB(p:Params):kY (hd.heap_1 p) 161 "_law_patterns_of_colours"=fh "_law_patterns_of_colours" "_law_patterns_of_colours" 160:=by kernel_rfl
theorem Hi(p:Params):nsIn (hd.heap_1 p) aX (aa "_law_patterns_of_colours")=some (some (.ref 161)):=by kernel_rfl
theorem Gx:cT DS (dOf "_law_patterns_of_colours").2.2=true:=by decide+kernel
theorem H0:iw DS.nms (dOf "_law_patterns_of_colours").2.2 (ckS 40 DS.nms (dOf "_law_patterns_of_colours").2.2) DS.body (dOf "_law_patterns_of_colours").2.1=true:=by decide+kernel
theorem Im:dF "_law_patterns_of_colours" 1 DS.names:=gn fun fd a=>by kernel_rfl
theorem Af{P:Pm}{p:Params}(X:(hd.heap_1 p).In P.g0):fT P "_law_patterns_of_colours" DS:=j2 X (Hi p) (HB p) Im Gx H0
theorem HL(p:Params):kY (hd.heap_1 p) 168 "_law_colourings"=fh "_law_colourings" "_law_colourings" 167:=by kernel_rfl
theorem Ht(p:Params):nsIn (hd.heap_1 p) aX (aa "_law_colourings")=some (some (.ref 168)):=by kernel_rfl
theorem GI:cT DW (dOf "_law_colourings").2.2=true:=by decide+kernel
theorem H8:iw DW.nms (dOf "_law_colourings").2.2 (ckS 40 DW.nms (dOf "_law_colourings").2.2) DW.body (dOf "_law_colourings").2.1=true:=by decide+kernel
theorem IA:dF "_law_colourings" 2 DW.names:=gm fun fd a b=>by kernel_rfl
theorem An{P:Pm}{p:Params}(X:(hd.heap_1 p).In P.g0):fT P "_law_colourings" DW:=j2 X (Ht p) (HL p) IA GI H8
theorem AH(p:Params):kY (hd.heap_1 p) 173 "_law_parts"=fh "_law_parts" "_law_parts" 172:=by kernel_rfl
theorem As(p:Params):nsIn (hd.heap_1 p) aX (aa "_law_parts")=some (some (.ref 173)):=by kernel_rfl
theorem ze:cT mH (dOf "_law_parts").2.2=true:=by decide+kernel
theorem Bj:iw mH.nms (dOf "_law_parts").2.2 (ckS 40 mH.nms (dOf "_law_parts").2.2) mH.body (dOf "_law_parts").2.1=true:=by decide+kernel
theorem BD:dF "_law_parts" 1 mH.names:=gn fun fd a=>by kernel_rfl
theorem sY{P:Pm}{p:Params}(X:(hd.heap_1 p).In P.g0):fT P "_law_parts" mH:=j2 X (As p) (AH p) BD ze Bj
theorem HC(p:Params):kY (hd.heap_1 p) 178 "_law_one_ways"=fh "_law_one_ways" "_law_one_ways" 177:=by kernel_rfl
theorem Hj(p:Params):nsIn (hd.heap_1 p) aX (aa "_law_one_ways")=some (some (.ref 178)):=by kernel_rfl
theorem Gy:cT DT (dOf "_law_one_ways").2.2=true:=by decide+kernel
theorem H2:iw DT.nms (dOf "_law_one_ways").2.2 (ckS 40 DT.nms (dOf "_law_one_ways").2.2) DT.body (dOf "_law_one_ways").2.1=true:=by decide+kernel
theorem Io:dF "_law_one_ways" 1 DT.names:=gn fun fd a=>by kernel_rfl
theorem Ag{P:Pm}{p:Params}(X:(hd.heap_1 p).In P.g0):fT P "_law_one_ways" DT:=j2 X (Hj p) (HC p) Io Gy H2
theorem DR(p:Params):kY (hd.heap_1 p) 102 "Whitespace.__init__"=fh "__init__" "Whitespace.__init__" 101:=by kernel_rfl
theorem CJ:cT j5 (dOf "__init__").2.2=true:=by decide+kernel
theorem Ep:iw j5.nms (dOf "__init__").2.2 (ckS 40 j5.nms (dOf "__init__").2.2) j5.body (dOf "__init__").2.1=true:=by decide+kernel
theorem EI:dF "__init__" 2 j5.names:=gm fun fd a b=>by kernel_rfl
theorem BG{P:Pm}{p:Params}(X:(hd.heap_1 p).In P.g0):FnAt P j5 102 (dOf "__init__").2.2 (dOf "__init__").2.1:=by
 obtain⟨o,fd,h1,h2,h3,h4,h5,h6,h7,h8,h9,h10,h11,h12,h13⟩:=iP X (DR p)
 exact⟨⟨o,fd,h1,h2,h3,h4,h5,h6,h7,h8,EI fd h11 h12 h13⟩,CJ,Ep⟩
theorem HA(p:Params):kY (hd.heap_1 p) 109 "Whitespace.longest_run_of_spaces"=fh "longest_run_of_spaces" "Whitespace.longest_run_of_spaces" 108:=by kernel_rfl
theorem Gw:cT nW (dOf "longest_run_of_spaces").2.2=true:=by decide+kernel
theorem HZ:iw nW.nms (dOf "longest_run_of_spaces").2.2 (ckS 40 nW.nms (dOf "longest_run_of_spaces").2.2) nW.body (dOf "longest_run_of_spaces").2.1=true:=by decide+kernel
theorem Ik:dF "longest_run_of_spaces" 1 nW.names:=gn fun fd a=>by kernel_rfl
theorem EO{P:Pm}{p:Params}(X:(hd.heap_1 p).In P.g0):FnAt P nW 109 (dOf "longest_run_of_spaces").2.2 (dOf "longest_run_of_spaces").2.1:=by
 obtain⟨o,fd,h1,h2,h3,h4,h5,h6,h7,h8,h9,h10,h11,h12,h13⟩:=iP X (HA p)
 exact⟨⟨o,fd,h1,h2,h3,h4,h5,h6,h7,h8,Ik fd h11 h12 h13⟩,Gw,HZ⟩
theorem HF(p:Params):kY (hd.heap_1 p) 49 "_int2digits"=fh "_int2digits" "_int2digits" 48:=by kernel_rfl
theorem Hm(p:Params):nsIn (hd.heap_1 p) aX (aa "_int2digits")=some (some (.ref 49)):=by kernel_rfl
theorem It:dF "_int2digits" 2 nO:=gm fun fd a b=>by kernel_rfl
theorem GB:cT ⟨nO,2,[]⟩ (dOf "_int2digits").2.2=true:=by decide+kernel
theorem AW{P:Pm}{p:Params}(X:(hd.heap_1 p).In P.g0):DefAt P nO 2 49 (dOf "_int2digits").2.2 (dOf "_int2digits").2.1 48 (aa "_int2digits"):=AY X (HF p) It GB
theorem HK(p:Params):kY (hd.heap_1 p) 56 "_digits2int"=fh "_digits2int" "_digits2int" 55:=by kernel_rfl
theorem Hr(p:Params):nsIn (hd.heap_1 p) aX (aa "_digits2int")=some (some (.ref 56)):=by kernel_rfl
theorem Iz:dF "_digits2int" 2 nP:=gm fun fd a b=>by kernel_rfl
theorem GH:cT ⟨nP,2,[]⟩ (dOf "_digits2int").2.2=true:=by decide+kernel
theorem AX{P:Pm}{p:Params}(X:(hd.heap_1 p).In P.g0):DefAt P nP 2 56 (dOf "_digits2int").2.2 (dOf "_digits2int").2.1 55 (aa "_digits2int"):=AY X (HK p) Iz GH
theorem f_pv(p:Params):kY (hd.heap_1 p) 85 "_parse_varint"=fh "_parse_varint" "_parse_varint" 84:=by kernel_rfl
theorem g_pv(p:Params):nsIn (hd.heap_1 p) aX (aa "_parse_varint")=some (some (.ref 85)):=by kernel_rfl
theorem b_pv:dF "_parse_varint" 1 ["iterator"]:=gn fun fd a=>by kernel_rfl
noncomputable def dv(nm:String):Arguments×List Stmt×Scope×Pos:=((dOf nm).2.1.findSome? fun s=>match s with | .FunctionDef _ a b _ _ _ sc _ _ p=>some (a,b,sc,p) | _=>none).getD ⟨default,[],default,default⟩
theorem sh_I:ShI (dv "_int2digits").2.2.1 (dv "_int2digits").2.1:=
 ⟨by decide+kernel,_,_,_,_,_,_,_,rfl,⟨_,_,_,_,_,_,_,⟨_,_,rfl,by decide+kernel⟩,by decide+kernel,by decide+kernel,rfl,rfl⟩,⟨_,_,_,rfl,by decide+kernel⟩,⟨_,_,_,rfl,by decide+kernel⟩,⟨_,_,_,rfl,by decide+kernel⟩,⟨_,_,_,rfl,by decide+kernel⟩,⟨_,_,_,_,rfl,by decide+kernel⟩,⟨_,_,_,_,rfl,by decide+kernel⟩⟩
theorem sh_J:ShJ (dv "_digits2int").2.2.1 (dv "_digits2int").2.1:=
 ⟨by decide+kernel,_,_,_,_,_,rfl,⟨_,_,rfl,by decide+kernel⟩,⟨_,_,rfl,by decide+kernel⟩,⟨_,_,_,rfl,by decide+kernel⟩,⟨_,_,_,rfl,by decide+kernel⟩,_,_,_,_,_,_,rfl,⟨_,_,_,rfl,by decide+kernel⟩,by decide+kernel,⟨_,_,_,rfl,by decide+kernel⟩⟩
theorem Ee(env:Env)(a b c:Addr)(h1:env.cells.lookup (aa "a_digits")=some a)(h2:env.cells.lookup (aa "n")=some b)(h3:env.cells.lookup (aa "inner")=some c):
  closureFor (dv "_int2digits").2.2.1 env=pure [(aa "n",b),(aa "inner",c),(aa "a_digits",a)]:=by
 have e1:cellOf env (aa "a_digits")=pure a:=by unfold cellOf; rw[h1]
 have e2:cellOf env (aa "n")=pure b:=by unfold cellOf; rw[h2]
 have e3:cellOf env (aa "inner")=pure c:=by unfold cellOf; rw[h3]
 unfold closureFor
 have en:(dv "_int2digits").2.2.1.names=[(aa "x",.local),(aa "L",.local),(aa "R",.local),(aa "mid",.local),(aa "shift",.local),(aa "upper",.local),(aa "lower",.local),(aa "a_digits",.free),(aa "inner",.free),(aa "n",.free)]:=rfl
 rw[en]
 simp only[eX,List.forIn_nil,e1,e2,e3,pure_bind,bind_pure_comp,map_pure]
 rfl
theorem sh_O:ShO (dOf "_int2digits").2.2 (dv "_int2digits").2.2.1 (dOf "_int2digits").2.1 (dv "_int2digits").2.1 (dv "_int2digits").1 (dv "_int2digits").2.2.2:=
 ⟨⟨by decide+kernel,by decide+kernel,by decide+kernel,Ee,⟨rfl,rfl,fun υ=>rfl⟩,fun nm q cl dc pm cv ct vs hv=>GU (P:=fun vs=>bindArgs (fnX nm q (dv "_int2digits").1 (dv "_int2digits").2.1 (dv "_int2digits").2.2.1 cl .none .none dc pm none cv ct) ⟨vs,[]⟩=pure ((["x","L","R"].map aa).zip vs)) hv fun a b c=>by show _=_; kernel_rfl⟩,_,_,_,_,rfl,⟨_,_,_,_,_,rfl,by decide+kernel,by decide+kernel⟩,⟨_,_,rfl,by decide+kernel⟩,⟨_,_,_,_,rfl,by decide+kernel⟩,⟨_,_,rfl,by decide+kernel⟩⟩
theorem Ed(env:Env)(a b c:Addr)(h1:env.cells.lookup (aa "digits")=some a)(h2:env.cells.lookup (aa "n")=some b)(h3:env.cells.lookup (aa "inner")=some c):
  closureFor (dv "_digits2int").2.2.1 env=pure [(aa "n",b),(aa "inner",c),(aa "digits",a)]:=by
 have e1:cellOf env (aa "digits")=pure a:=by unfold cellOf; rw[h1]
 have e2:cellOf env (aa "n")=pure b:=by unfold cellOf; rw[h2]
 have e3:cellOf env (aa "inner")=pure c:=by unfold cellOf; rw[h3]
 unfold closureFor
 have en:(dv "_digits2int").2.2.1.names=[(aa "L",.local),(aa "R",.local),(aa "mid",.local),(aa "shift",.local),(aa "digits",.free),(aa "inner",.free),(aa "n",.free)]:=rfl
 rw[en]
 simp only[eX,List.forIn_nil,e1,e2,e3,pure_bind,bind_pure_comp,map_pure]
 rfl
theorem sh_P:ShP (dOf "_digits2int").2.2 (dv "_digits2int").2.2.1 (dOf "_digits2int").2.1 (dv "_digits2int").2.1 (dv "_digits2int").1 (dv "_digits2int").2.2.2:=
 ⟨⟨by decide+kernel,by decide+kernel,by decide+kernel,Ed,⟨rfl,rfl,fun υ=>rfl⟩,fun nm q cl dc pm cv ct vs hv=>GV (P:=fun vs=>bindArgs (fnX nm q (dv "_digits2int").1 (dv "_digits2int").2.1 (dv "_digits2int").2.2.1 cl .none .none dc pm none cv ct) ⟨vs,[]⟩=pure ((["L","R"].map aa).zip vs)) hv fun a b=>by show _=_; kernel_rfl⟩,_,rfl,_,_,_,_,_,rfl,by decide+kernel,⟨_,_,_,rfl,by decide+kernel⟩,by decide+kernel⟩
theorem sh_V:ShV (dOf "_parse_varint").2.2 (dOf "_parse_varint").2.1:=
 ⟨⟨by decide+kernel,by decide+kernel,by decide+kernel,by decide+kernel⟩,by decide+kernel,⟨rfl,rfl,rfl⟩,_,_,_,_,_,_,_,rfl,⟨_,_,_,_,_,rfl⟩,⟨_,_,_,_,_,_,rfl⟩,⟨_,_,_,_,_,rfl⟩,⟨_,_,_,_,rfl⟩,⟨_,_,_,_,_,rfl⟩,⟨_,_,_,_,_,_,rfl⟩,_,_,rfl⟩
theorem ID{P:Pm}{p:Params}(X:(hd.heap_1 p).In P.g0):PvAt P 85 (dOf "_parse_varint").2.2 (dOf "_parse_varint").2.1:=by
 obtain⟨o,fd,h1,h2,h3,h4,h5,h6,h7,h8,h9,h10,h11,h12,h13⟩:=iP X (f_pv p)
 exact⟨o,fd,h1,h2,h3,h4,h5,h6,h7,h8,fun v=>b_pv fd h11 h12 h13 [v] rfl⟩
theorem k_mk(p:Params):makesIn (hd.heap_1 p) 147=true:=by kernel_rfl
theorem Dm(p:Params):findIn (hd.heap_1 p) (.ref 147) "__init__"=some (some (.ref 102)):=by kernel_rfl
theorem k_fn(p:Params):typeIn (hd.heap_1 p) (.ref 102)=some (.type "function"):=by kernel_rfl
theorem k_ga(p:Params):findIn (hd.heap_1 p) (.ref 147) "__getattribute__"=some (some (.builtin "object.__getattribute__")):=by kernel_rfl
theorem k_gx(p:Params):findIn (hd.heap_1 p) (.ref 147) "__getattr__"=some none:=by kernel_rfl
theorem G0(p:Params):findIn (hd.heap_1 p) (.ref 147) (aa "longest_run_of_spaces")=some (some (.ref 109)):=by kernel_rfl
theorem G1(p:Params):typeIn (hd.heap_1 p) (.ref 109)=some (.type "function"):=by kernel_rfl
theorem k_sa(p:Params):findIn (hd.heap_1 p) (.ref 147) "__setattr__"=some (some (.builtin "object.__setattr__")):=by kernel_rfl
theorem k_po(p:Params):plainOver (hd.heap_1 p) 147=true:=by kernel_rfl
theorem k_hd(p:Params):hasDictIn (hd.heap_1 p) 147=true:=by kernel_rfl
theorem k_kp(p:Params):keepIn (hd.heap_1 p) (.ref 147)=true:=by kernel_rfl
theorem k_rd(p:Params):readsIn (hd.heap_1 p) 147 (.type "type")=true:=by kernel_rfl
theorem k_S(p:Params):findCls (hd.heap_1 p) (.ref 147) (.type "type") (aa "S")=some (.val (.str (aa " ") 359)):=by kernel_rfl
theorem k_T(p:Params):findCls (hd.heap_1 p) (.ref 147) (.type "type") (aa "T")=some (.val (.str (aa "\t") 360)):=by kernel_rfl
theorem k_w:∀nm∈wNames,∀p:Params,findIn (hd.heap_1 p) (.ref 147) (aa nm)=some none:=by
 intro nm h p
 simp only[wNames,aP,dz,or_false]at h
 rcases h with rfl | rfl | rfl | rfl | rfl<;>kernel_rfl
theorem Hu(p:Params):nsIn (hd.heap_1 p) aX (aa "Whitespace")=some (some (.ref 147)):=by kernel_rfl
theorem g_em(p:Params):nsIn (hd.heap_1 p) aX (aa "ELLIPSIS_MARKER")=some (some (.str (aa "...") 196)):=by kernel_rfl
theorem g_dl(p:Params):nsIn (hd.heap_1 p) aX (aa "_DIV_LIMIT")=some (some (.int 4000 212)):=by kernel_rfl
theorem g_fl(p:Params):nsIn (hd.heap_1 p) aX (aa "COMPILER_FLAG_NAMES")=some (some (.ref 71)):=by kernel_rfl
theorem g_no:∀nm∈(["len","list","tuple","max","sum","abs","divmod","range","reversed","set","hex","iter","next","StopIteration"]:List String),∀p:Params,nsIn (hd.heap_1 p) aX (aa nm)=some none:=by
 intro nm h p
 simp only[aP,dz,or_false]at h
 rcases h with rfl | rfl | rfl | rfl | rfl | rfl | rfl | rfl | rfl | rfl | rfl | rfl | rfl | rfl<;>kernel_rfl
theorem k_71(p:Params):(hd.heap_1 p).lookup 71=some {cls:= .type "dict",data:= .dict #[⟨1,.int 1 294,.str (aa "OPTIMIZED") 295⟩,⟨2,.int 2 296,.str (aa "NEWLOCALS") 297⟩,⟨4,.int 4 298,.str (aa "VARARGS") 299⟩,
  ⟨8,.int 8 300,.str (aa "VARKEYWORDS") 301⟩,⟨16,.int 16 302,.str (aa "NESTED") 303⟩,⟨32,.int 32 304,.str (aa "GENERATOR") 305⟩,⟨64,.int 64 306,.str (aa "NOFREE") 307⟩,⟨128,.int 128 308,.str (aa "COROUTINE") 309⟩,
  ⟨256,.int 256 310,.str (aa "ITERABLE_COROUTINE") 311⟩,⟨512,.int 512 312,.str (aa "ASYNC_GENERATOR") 313⟩] 10}:=by kernel_rfl
noncomputable def pe:List (Int×Value):=[(1,.str (aa "OPTIMIZED") 295),(2,.str (aa "NEWLOCALS") 297),(4,.str (aa "VARARGS") 299),(8,.str (aa "VARKEYWORDS") 301),(16,.str (aa "NESTED") 303),(32,.str (aa "GENERATOR") 305),
 (64,.str (aa "NOFREE") 307),(128,.str (aa "COROUTINE") 309),(256,.str (aa "ITERABLE_COROUTINE") 311),(512,.str (aa "ASYNC_GENERATOR") 313)]
noncomputable def wu:List (PyData×PyData):=[(.int 1,.str (aa "OPTIMIZED")),(.int 2,.str (aa "NEWLOCALS")),(.int 4,.str (aa "VARARGS")),(.int 8,.str (aa "VARKEYWORDS")),(.int 16,.str (aa "NESTED")),(.int 32,.str (aa "GENERATOR")),
 (.int 64,.str (aa "NOFREE")),(.int 128,.str (aa "COROUTINE")),(.int 256,.str (aa "ITERABLE_COROUTINE")),(.int 512,.str (aa "ASYNC_GENERATOR"))]
theorem AA{prog:Program}{w:World}{p:Params}{h:Heap}(X:(hd.heap_1 p).In h):IntTab prog w h 71 wu:=by
 refine⟨by decide,pe,⟨_,_,_,X _ _ (k_71 p),⟨rfl,rfl,rfl⟩,rfl,?_,?_,by decide⟩,?_⟩
 ·intro e he
  simp only[List.mem_toArray,Array.mem_def,aP,dz,or_false]at he
  rcases he with rfl | rfl | rfl | rfl | rfl | rfl | rfl | rfl | rfl | rfl
  all_goals exact⟨_,intKind_is prog w _ _,by kernel_rfl⟩
 ·show Pairs (intKind prog w) [_,_,_,_,_,_,_,_,_,_] pe
  unfold pe
  repeat(first | exact .nil | refine .cons (intKind_is prog w _ _) rfl ?_)
 ·unfold pe wu
  exact .cons (PyProof.V.Flat.str _ _) (.cons (PyProof.V.Flat.str _ _) (.cons (PyProof.V.Flat.str _ _) (.cons (PyProof.V.Flat.str _ _) (.cons (PyProof.V.Flat.str _ _) (.cons (PyProof.V.Flat.str _ _) (.cons (PyProof.V.Flat.str _ _) (.cons (PyProof.V.Flat.str _ _) (.cons (PyProof.V.Flat.str _ _) (.cons (PyProof.V.Flat.str _ _) .nil)))))))))
theorem hV{a b:Str}{t:Tok}:(Value.str a t).isStr b=decide (a=b):=by
 show(a==b)=decide (a=b)
 rw[bJ,beq_iff_eq,decide_eq_true_iff]
theorem mu{a b:String}(h:aa a=aa b):a=b:=by
 rw[Str.ofString_eq_byList]at h
 unfold Str.ofStringByList at h
 have h1:=congrArg (fun x:Str=>x.cps.toList) h
 simp only[List.toList_toArray]at h1
 have h2:a.toList=b.toList:=(List.map_inj_right (fun x y e=>Char.ext (UInt32.toNat_inj.mp e))).mp h1
 exact String.toList_inj.mp h2
theorem nL{α:Type}{es:List (String×α)}{nm:String}{d:α}(h:es.lookup nm=some d):(nm,d)∈es:=by
 induction es with
 | nil=>cases h
 | cons p r ih=>exact lkE h (fun e q=>(Prod.ext e (ax.inj q):(nm,d)=p)▸ .head _) fun q υ=> .tail _ (ih q)
theorem pZ{α:Type}{nm:String}{a b:List (String×α)}:(a++b).lookup nm=(a.lookup nm).or (b.lookup nm):=by
 induction a with
 | nil=>rfl
 | cons p r ih=>exact if e:nm=p.1 then(lkY e).trans (congrArg (Option.or · _) (lkY e)).symm else(lkN e).trans (ih.trans (congrArg (Option.or · _) (lkN e)).symm)
theorem mB{α:Type}{es:List (String×α)}{nm:String}(h:es.lookup nm=none)(q:nm∈es.map (·.1)):False:=by
 induction es with
 | nil=>cases q
 | cons p r ih=>exact lkE h (fun υ q=>by cases q) fun h e=>(aP.mp q).elim e (ih h)
section
variable {P:Pm}{p:Params}{A:Around}{s:Shared}
theorem sM{wc:Addr}{h:Heap}{x dx:Addr}{es:List DictEntry}{n:Nat}(h1:h.get? x=some (instObj wc dx))(h2:h.get? dx=some (dictOf es n)):InstAt h x (instObj wc dx) wc (some (dictOf es n)):=
 ⟨h1,rfl,rfl,h2⟩
theorem sZ{Z:Heap}{v:Value}{d:D}(r:Rep Z v d):handedIn v=true:=by cases r<;>rfl
theorem wt{i:Int}{w:String}(h:gk i=some w):(PySem.Spec.lookup (.int i) wu).getD (.str (baseText "0x" 16 i))= .str (aa w):=
 have all:∀p∈DI,(PySem.Spec.lookup (.int p.1) wu).getD (.str (baseText "0x" 16 p.1))= .str (aa p.2):=by
  simp only[DI,List.forall_mem_cons,dz,false_implies,implies_true,and_true]
  exact⟨rfl,rfl,rfl,rfl,rfl,rfl,rfl,rfl,rfl,rfl,congrArg PyData.str (by decide+kernel),congrArg PyData.str (by decide+kernel)⟩
 all _ (kU h)
theorem Hz(X:(hd.heap_1 P.w.params).In P.g0):Facts P 147 where
 ell:=⟨_,mg_of X P.hg (g_em _)⟩
 lim:=⟨_,mg_of X P.hg (g_dl _)⟩
 cls:=mg_of X P.hg (Hu _)
 clsS:=fun R k h=>cls_value (X.keeps k) (k_rd _) (k_S _) rfl (h _ _)
 clsT:=fun R k h=>cls_value (X.keeps k) (k_rd _) (k_T _) rfl (h _ _)
 bi:=fun nm hn=>mg_none_of X P.hg (g_no nm (by
  have e:(["len","list","tuple","max","sum","abs","divmod","range","reversed","set","hex","iter","next","StopIteration"]:List String)=["len","list","tuple","max","sum","abs","divmod","range","reversed","set","hex","iter","next"]++["StopIteration"]:=rfl
  rw[e]; exact cV _ hn) _)
 flg:=by
  refine Ae 71 (mg_of X P.hg (g_fl _)) (⟨_,X _ _ (k_71 _),rfl,rfl⟩) ?_
  intro A s Q E n i t w R k hw v u hv h
  subst hv
  refine call_get2_intTab (AA (X.keeps k)) (PyProof.V.Flat.str (baseText "0x" 16 i) u) fun v' hv'=>?_
  rw[wt hw]at hv'
  refine dh hv'.str_inv fun t' e78_1=>?_; subst e78_1
  exact h t' _
 get:=by
  intro A Z s x dx fs nm d Q E n R k r hl hn h
  obtain⟨h1,es,m,h2,h3⟩:=r
  have h4:=h3.1 nm
  rw[hl]at h4
  refine bq h4 fun v e rv=>?_
  exact get_value (X.keeps k) (sM h1 h2) (k_ga _) (findObj_own (k_hd _) (k_w nm hn _) rfl (by rw[lookIn_dict]; exact e)) (sZ rv) (h v _ rv)
theorem HY(X:(hd.heap_1 P.w.params).In P.g0):ClsAt P 147 102:=
 ⟨makes_of X (k_mk _),looks_findIn X (Dm _),fun self=>bind_fn X self (k_fn _)⟩
theorem C8(X:(hd.heap_1 P.w.params).In P.g0):uh P 147 109:=by
 intro A Z s x dx fs Q E n pl R k r hn h
 obtain⟨h1,es,m,h2,h3⟩:=r
 have h4:=h3.1 "longest_run_of_spaces"
 have hl:fs.lookup "longest_run_of_spaces"=none:=by
  cases e:fs.lookup "longest_run_of_spaces" with
  | none=>rfl
  | some d=>
   exfalso
   have:("longest_run_of_spaces",d)∈fs:=nL e
   have:=List.mem_map_of_mem (f:=(·.1)) this
   rw[hn]at this
   simp[wNames]at this
 rw[hl]at h4
 refine method_fn (X.keeps k) (sM h1 h2) (k_ga _) (k_gx _) (G0 _) (G1 _) ?_ h
 show(lookIn _ (dictOf es m)).map _=_
 rw[lookIn_dict,h4]; rfl
theorem Gm(X:(hd.heap_1 P.w.params).In P.g0):SetOk P 147 where
 cw:=by
  intro A s pos ts Q E k h
  refine callWith_of (P:=fun h=>Le P.g0 h) ?_ (fun h kk=>keeps_K (k_kp _) h (X.keeps kk)) (gN h)
  rw[List.any_map]
  simp
 set:=by
  intro A Z s x dx fs nm v d Q E n R k r hl hn rv h
  obtain⟨h1,es,m,h2,h3,hlen,hnd,hin⟩:=r
  have h4:getL (aa nm) es=some none:=by
   have:=h3 nm
   rw[hl]at this; exact this
  obtain⟨hp,g,dr,t,os⟩:=s
  have Xs:(hd.heap_1 P.w.params).In hp:=X.keeps k
  have I:InstAt hp x (instObj 147 dx) 147 (some (dictOf es m)):=sM h1 h2
  have D:hp.get? dx=some (dictOf es m):=h2
  refine set_plain (s:=⟨hp,g,dr,t,os⟩) Xs I (k_sa _) ?_
  refine osa_open (s:=⟨hp,g,dr,t+1,os⟩) Xs I (k_po _) (r:=none) (by unfold takerIn; rw[k_w nm hn]; rfl) fun b=>?_
  refine bq (any_some (k_hd P.w.params)) fun cd hc hd'=>?_
  have L:=looks_clsIn (M:=model P.prog P.w) Xs hc
  refine wpAny_bind (aD (wpAny_bind (wpAny_bind (wpAny_loadPart (s:=⟨hp,g,dr,t+1,os⟩) h1 (wpAny_bind (L.here (s:=⟨hp,g,dr,t+1,os⟩) ?_))))))
  rw[hd']
  refine aD (a:=some dx) (wpAny_bind (aD (wpAny_bind ?_)))
  unfold nsSet
  refine wpAny_bind (wpAny_bind (wpAny_askSetting (aD (wpAny_bind (wpAny_mkText (wpAny_bind (wpAny_loadPart D ?_)))))))
  have hno:es.find? (·.key.isStr (aa nm))=none∧es.any (·.refKey)=false:=by
   unfold getL at h4
   split at h4
   ·cases h4
   ·rename_i e
    refine⟨e,?_⟩
    split at h4
    ·cases h4
    ·rename_i z; rwa[Bool.not_eq_true]at z
  have c:(!(es.toArray).any (·.key.isStr (aa nm))&&(es.toArray).any (·.refKey))=false:=by
   rw[←Array.any_toList,←Array.any_toList,List.toList_toArray,hno.2,Bool.and_false]
  dsimp only
  rw[aRefKeyMayBeTheName_at,c]
  have hes:es.length≤5:=by
   have:=hnd.length_le_of_subset (l₂:=wNames) fun a ha=>by
    refine bq (bg.mp ha) fun q hq e52_1=>?_; subst e52_1
    exact hin q hq
   rw[ag]at this
   simp[wNames]at this
   omega
  refine wpAny_updatePart D ?_
  show wpAny (model P.prog P.w) A.in1 (lookBehind dx _>>=_) _ _ ⟨hp.update dx (Obj.putName (aa nm) (PyData.keyHash P.w.params (aa nm)) (.str (aa nm) (t+1)) v),g,dr,t+1+1,os⟩
  generalize t+1=tk
  have hput:Obj.putName (aa nm) (PyData.keyHash P.w.params (aa nm)) (.str (aa nm) tk) v (dictOf es m)=dictOf (putL (aa nm) (PyData.keyHash P.w.params (aa nm)) (.str (aa nm) tk) v es) (putN (aa nm) es m):=putName_dict ..
  have hpl:putL (aa nm) (PyData.keyHash P.w.params (aa nm)) (.str (aa nm) tk) v es=es++[⟨PyData.keyHash P.w.params (aa nm),.str (aa nm) tk,v⟩]:=by
   have hall:∀e∈es,e.key.isStr (aa nm)=false:=fun e he=>by
    have:=List.find?_eq_none.mp hno.1 e he
    simpa using this
   clear h2 h3 hlen h4 I D c hes hput hno
   induction es with
   | nil=>rfl
   | cons e r ih=>
    unfold putL
    rw[if_neg (by rw[hall e (.head _)]; decide),ih fun a ha=>hall a (.tail _ ha)]
    rfl
  have hD':(hp.update dx (Obj.putName (aa nm) (PyData.keyHash P.w.params (aa nm)) (.str (aa nm) tk) v)).get? dx=some (dictOf (es++[⟨PyData.keyHash P.w.params (aa nm),.str (aa nm) tk,v⟩]) (putN (aa nm) es m)):=by
   have e:=dS (Obj.putName (aa nm) (PyData.keyHash P.w.params (aa nm)) (.str (aa nm) tk) v) D (by rw[hput]; rfl)
   rw[hput,hpl]at e; exact e
  refine wpAny_bind (wpAny_lookBehind (s:=⟨hp.update dx (Obj.putName (aa nm) (PyData.keyHash P.w.params (aa nm)) (.str (aa nm) tk) v),g,dr,tk+1,os⟩) hD' (by exact pastItsLine_dict (by rw[List.size_toArray,sizeLine_eq,ak]; simp; omega)) ?_)
  show wpAny _ _ (ret Value.none) _ _ _
  refine aD (h _ _ (Heap.SameBut.update ..) ⟨?_,_,_,hD',fun nm'=>?_,?_,?_,?_⟩)
  ·have hxd:x≠dx:=fun q=>by
    rw[q]at h1
    have h1':hp.get? dx=some (instObj 147 dx):=h1
    rw[D]at h1'; cases h1'
   exact((Heap.SameBut.update (a:=dx) (h:=hp) ..).2 x hxd).trans h1
  ·rw[pZ]
   have h3':=h3 nm'
   by_cases hq:nm'=nm
   ·subst hq
    rw[hl]
    simp only[Option.none_or]
    rw[fm,beq_self_eq_true]
    refine gX v ?_ rv
    unfold getL
    rw[List.find?_append,hno.1]
    simp[hV]
   ·have hne:aa nm'≠aa nm:=fun e=>hq (mu e)
    have hg:getL (aa nm') (es++[⟨PyData.keyHash P.w.params (aa nm),.str (aa nm) tk,v⟩])=getL (aa nm') es:=by
     unfold getL
     rw[List.find?_append]
     have e0:List.find? (fun x=>x.key.isStr (aa nm')) [(⟨PyData.keyHash P.w.params (aa nm),.str (aa nm) tk,v⟩:DictEntry)]=none:=by
      simp[hV,Ne.symm hne]
     rw[e0]
     simp only[Option.or_none]
     rw[List.any_append]
     have e1:[(⟨PyData.keyHash P.w.params (aa nm),.str (aa nm) tk,v⟩:DictEntry)].any (·.refKey)=false:=rfl
     rw[e1,Bool.or_false]
    have hl1:[(nm,d)].lookup nm'=none:=by
     rw[fm,beq_eq_false_iff_ne.mpr hq]; rfl
    rw[hl1,Option.or_none]
    rw[hg]
    exact h3'
  ·simp; exact hlen
  ·rw[aZ]
   refine List.nodup_append.mpr ⟨hnd,by simp,fun a ha b hb e=>?_⟩
   rw[aB,List.map_nil,ay]at hb
   subst hb e
   exact mB hl ha
  ·intro q hq
   rcases dm.mp hq with q' | q'
   ·exact hin q q'
   ·rw[ay.mp q']; exact hn
end
noncomputable def qI:Str:=(aa "_int2digits"++".<locals>.")++aa "inner"
noncomputable def qJ:Str:=(aa "_digits2int"++".<locals>.")++aa "inner"
noncomputable def posI:Pos:=(dv "_int2digits").2.2.2
noncomputable def GJ:Pos:=(dv "_digits2int").2.2.2
theorem jz.keep{Z Z' h h':Heap}{T:Addr}{pos:Pos}{q:Str}(x:jz Z h T pos q)(k:Le Z Z')(e:h'.get? T=h.get? T):jz Z' h' T pos q:=by
 rcases x with x | ⟨c,x,y⟩
 ·exact .inl (e.trans x)
 ·exact .inr ⟨c,e.trans x,y.keeps k⟩
theorem jz.obj{Z h:Heap}{T:Addr}{pos:Pos}{q:Str}(x:jz Z h T pos q):∃o,h.get? T=some o∧o.cls= .none∧∃ps,o.data= .fields ps:=by
 rcases x with x | ⟨c,x,y⟩<;>exact⟨_,x,rfl,_,rfl⟩
noncomputable def mkP(prog:Program)(w:World)(os:OsState)(h0:Heap)(mg mb:Str→Option Value)(hg:h0.Ns aX mg)(hb:h0.Ns cE mb)(hbi:∀x:Str,x≠"__name__"→mb x=bootBuiltins x)(hlim:h0.NoLimit):Pm where
 prog:=prog
 w:=w
 T:=[51,44]
 TO:=fun Z h=>jz Z h 51 GJ qJ∧jz Z h 44 posI qI
 to1:=fun x k e=>⟨x.1.keep k (e 51 (.head _)),x.2.keep k (e 44 (.tail _ (.head _)))⟩
 to2:=fun x t ht=>by
  simp only[aP,dz,or_false]at ht
  rcases ht with rfl | rfl
  ·exact x.1.obj
  ·exact x.2.obj
 g0:=h0
 os:=os
 mg:=mg
 mb:=mb
 hg:=hg
 hb:=hb
 hbi:=hbi
 hlim:=hlim
theorem k_bm(p:Params):nsIn (hd.heap_1 p) aX (aa "__builtins__")=some (some (.ref 4)):=by kernel_rfl
section
variable {prog:Program}{w:World}{os:OsState}{h0:Heap}{mg mb:Str→Option Value}{hg:h0.Ns aX mg}{hb:h0.Ns cE mb}{hbi:∀x:Str,x≠"__name__"→mb x=bootBuiltins x}{hlim:h0.NoLimit}
theorem Ez(X:(hd.heap_1 w.params).In h0)(hg:h0.Ns aX mg)(bmain:∃bm ob,mg "__builtins__"=some (.ref bm)∧bm≠cE∧h0.get? bm=some ob∧ob.cls= .type "module"∧ob.dict=some cE∧ob.data= .plain){T:Addr}(hT:T≠4):h0.BuiltinsAt mg T:=by
 refine Ge bmain fun bm ob h1 h2 h3 h4 h5 h6=>?_
 have e:mg "__builtins__"=some (.ref 4):=mg_of X hg (k_bm _)
 rw[e]at h1; cases h1
 exact i2_8 4 ob e h2 (by decide) (Ne.symm hT) h3 h4 h5 h6
theorem GP(X:(hd.heap_1 w.params).In h0)(c:CodeHd h0 48 44)(bmain:∃bm ob,mg "__builtins__"=some (.ref bm)∧bm≠cE∧h0.get? bm=some ob∧ob.cls= .type "module"∧ob.dict=some cE∧ob.data= .plain):
  NestAt (mkP prog w os h0 mg mb hg hb hbi hlim) 48 44 posI qI where
 hd:=c
 mem:= .tail _ (.head _)
 get:=fun x=>x.2
 put:=fun x k y e=>⟨x.1.keep k (e 51 (.head _) (by decide)),y⟩
 bi:=Ez X hg bmain (by decide)
 ne:=by decide
theorem GO(X:(hd.heap_1 w.params).In h0)(c:CodeHd h0 55 51)(bmain:∃bm ob,mg "__builtins__"=some (.ref bm)∧bm≠cE∧h0.get? bm=some ob∧ob.cls= .type "module"∧ob.dict=some cE∧ob.data= .plain):
  NestAt (mkP prog w os h0 mg mb hg hb hbi hlim) 55 51 GJ qJ where
 hd:=c
 mem:= .head _
 get:=fun x=>x.1
 put:=fun x k y e=>⟨y,x.2.keep k (e 44 (.tail _ (.head _)) (by decide))⟩
 bi:=Ez X hg bmain (by decide)
 ne:=by decide
theorem tops(X:(hd.heap_1 w.params).In h0)(c1:CodeHd h0 55 51)(c2:CodeHd h0 48 44)(bmain:∃bm ob,mg "__builtins__"=some (.ref bm)∧bm≠cE∧h0.get? bm=some ob∧ob.cls= .type "module"∧ob.dict=some cE∧ob.data= .plain):
  Tops (mkP prog w os h0 mg mb hg hb hbi hlim) 147:=by
 generalize hP:mkP prog w os h0 mg mb hg hb hbi hlim=P
 have XP:(hd.heap_1 P.w.params).In P.g0:=by rw[←hP]; exact X
 have NI:NestAt P 48 44 posI qI:=by rw[←hP]; exact GP X c2 bmain
 have NJ:NestAt P 55 51 GJ qJ:=by rw[←hP]; exact GO X c1 bmain
 exact{
  F:=Hz XP
  T:=Gm XP
  ini:=⟨102,_,_,HY XP,BG XP⟩
  run:=⟨109,_,_,C8 XP,EO XP⟩
  ell:=Aj XP
  div:=Am XP
  dmp:=Ak XP
  idm:=Ah XP
  flg:=Ai XP
  words:=sW XP
  roads:=sX XP
  pat:=Af XP
  col:=An XP
  parts:=sY XP
  one:=Ag XP
  i2d:=⟨49,_,_,_,_,_,_,48,44,_,mg_of XP P.hg (Hm _),sh_I,sh_O,AW XP,NI⟩
  d2i:=⟨56,_,_,_,_,_,_,55,51,_,mg_of XP P.hg (Hr _),sh_J,sh_P,AX XP,NJ⟩}
end
section
variable {M:Model}{A:Around}{E:Value→Shared→Prop}{s:Shared}
theorem AK{scope:Scope}{globals:Addr}{x0:Str}{v0:Value}{qual:Str}{func:Option Addr}{code:Value}{builtins:Addr}{Q:Env→Shared→Prop}(hk:scope.kind= .function)(hl:scope.names.lookup x0=some .local)
  (hQ:∀env,env=newEnv scope s.heap.objs.size globals (cellsFrom (s.heap.objs.size+1) scope.names []) qual func code none builtins→
   ∀s',InCallC s env.locals (bindL env.kindOf [(x0,v0)] fun υ=>none) env.cells (bindC env.kindOf [(x0,v0)] fun υ=>none) s'→0<s'.toks→Q env s'):
  wpAny M A (newFunctionEnv scope globals [] [(x0,v0)] qual func code none builtins) Q E s:=by
 simp only[newFunctionEnv,Option.isSome_none,Bool.false_eq_true,if_false]
 refine wpAny_bind (wpAny_alloc ?_)
 refine wpAny_bind (wpAny_layCells _ (fun name kind cells=>by cases hkc:kind==NameKind.cell<;>simp[hkc]) _ _ _ _ ?_)
 have ok:=cellsFrom_ok scope.names (s.heap.push {cls:= .type "frame",data:= .dict #[]}) (s.heap.objs.size+1) [] ⟨fun υ υ hm=>(nomatch hm),List.Pairwise.nil⟩ (by rw[df]; exact bL _)
 rw[df]at ok
 rw[show({s with heap:=s.heap.push {cls:= .type "frame",data:= .dict #[]}}:Shared).heap.objs.size=s.heap.objs.size+1 from df ..]
 generalize he:newEnv scope s.heap.objs.size globals (cellsFrom (s.heap.objs.size+1) scope.names []) qual func code none builtins=env
 have hko:env.kindOf x0=some .local:=by rw[←he]; exact hl
 have hkf:env.scope.kind= .function:=by rw[←he]; exact hk
 have x:InCallC s env.locals (fun υ=>none) env.cells (fun υ=>none) {s with heap:=pushCells (s.heap.push {cls:= .type "frame",data:= .dict #[]}) scope.names}:=by
  rw[←he]
  exact⟨⟨⟨_,_,rfl⟩,(Heap.Ns.new s.heap (.type "frame")).keeps (pushCells_keeps _ _),fun b o e=>pushCells_keeps _ _ b o (aU _ e),bL _⟩,
   fun n c hc=>(ok.empty n c (mem_of_lookup hc)).1,ok.apart,fun n c hm=>(ok.empty n c hm).2⟩
 rw[eX]
 subst he
 refine wpAny_bind (wpAny_bind (wpAny_bind (wpAny_storeName_local hko x.toInCall.ns (fun h' hn' hs'=>?_) (by show((scope.kind== .class)||(scope.kind== .module&&_))=false; rw[hk]; rfl))))
 refine aD ?_
 dsimp only
 rw[List.forIn_nil]
 refine aD ?_
 refine aD (hQ _ rfl _ ⟨⟨⟨h',_,rfl⟩,?_,fun b o e=>?_,x.toInCall.fresh⟩,fun k c hc=>?_,x.apart,x.above⟩ (br _))
 ·have:bindL (newEnv scope s.heap.objs.size globals (cellsFrom (s.heap.objs.size+1) scope.names []) qual func code none builtins).kindOf [(x0,v0)] (fun υ=>none)=fun y=>if y=x0 then some v0 else none:=by
   unfold bindL bindL; rw[if_pos hko]
  rw[this]; exact hn'
 ·exact hs'.extBut b o (Nat.ne_of_lt (aK (cQ e) x.toInCall.fresh)) (x.toInCall.keep b o e)
 ·have:bindC (newEnv scope s.heap.objs.size globals (cellsFrom (s.heap.objs.size+1) scope.names []) qual func code none builtins).kindOf [(x0,v0)] (fun υ=>none)=fun υ=>none:=by
   unfold bindC bindC; rw[if_pos hko]
  rw[this]
  exact(x.cell k c hc).sameBut hs' (Nat.ne_of_gt (x.above k c (mem_of_lookup hc)))
end
section
variable {P:Pm}{wc:Addr}{sc:Scope}{env:Env}{ns:Nms}{own:Nat}{b:Bs}{Z Z' Z1:Heap}{σ:St}{ad:Nat→Addr}{s s':Shared}{A:Around}{ft:FT}{n:Nat}
theorem xb{R:Result→Shared→Prop}{a:Addr}{o:Obj}{fd:FuncData}{body:List Stmt}{x0:Str}{v0:Value}
  (hroom:A.depth<recursionLimit) (ho:s.heap.get? a=some o) (hdata:o.data= .func fd) (hlim:s.heap.NoLimit) (hcd:s.heap.CodeRec fd.code fd.qualname)
  (hbody:fd.body= .stmts body) (hbind:bindArgs fd ⟨[v0],[]⟩=pure [(x0,v0)]) (hclo:fd.closure=[]) (hl:fd.scope.names.lookup x0=some .local)
  (h:∀s₁,InCallC s (callEnvC fd s.heap.objs.size a).locals (bindL (callEnvC fd s.heap.objs.size a).kindOf [(x0,v0)] fun υ=>none) (callEnvC fd s.heap.objs.size a).cells
    (bindC (callEnvC fd s.heap.objs.size a).kindOf [(x0,v0)] fun υ=>none) s₁→0<s₁.toks→
   wpAny P.M (A.deeper (callEnvC fd s.heap.objs.size a)) (execs body (callEnvC fd s.heap.objs.size a)) (fun f s'=>R (.ok (.ret (match f with | .ret v=>v | _=> .none))) s')
    (fun e s'=>wpAny P.M (A.deeper (callEnvC fd s.heap.objs.size a)) (leaving (callEnvC fd s.heap.objs.size a) e) (fun υ s''=>R (.error e) s'') (fun e' s''=>R (.error e') s'') s') s₁)
  (hco:fd.scope.isCoroutine=false) (hgen:fd.scope.isGenerator=false) (hk:fd.scope.kind= .function):
  codeAny P.M A (.call (.ref a) ⟨[v0],[]⟩) R s:=by
 refine codeAny_call_function hroom ho hdata hco hgen hbody hcd ?_
 rw[hbind,hclo]
 refine aD (AK hk hl fun env he s' x htk'=>?_)
 subst he
 exact⟨hlim.keeps x.toInCall.keep,codeAny_func (h s' x htk')⟩
theorem tG{nms:List String}{x0:String}{a c:Addr}{q:Str}{body:List Stmt}(K:DefAt P nms 1 a sc body c q)(R:Room A (n+1))(ok:Ok P Z {s with toks:=1}){v0:Value}{d0:D}(r:RepAll Z [v0] [d0])(hx0:nms.head?=some x0)(hx1:sc.names.lookup (aa x0)=some .local){RR:Result→Shared→Prop}
  (k:∀env s₁,SR P wc sc env (names nms) 0 ⟨s.heap,Z⟩ Z ([d0].map .fro++aq (nms.length-1) .u0) (fun i=>i) s₁→Go P Z {s with toks:=1} Z s₁→Room (A.deeper env) n→env.code= .ref c→env.scope=sc→env.frame=some env.locals→
   wpAny P.M (A.deeper env) (execs body env) (fun fl s'=>RR (.ok (.ret (match fl with | .ret v=>v | _=> .none))) s')
    (fun e s'=>wpAny P.M (A.deeper env) (leaving env e) (fun υ s''=>RR (.error e) s'') (fun e' s''=>RR (.error e') s'') s') s₁):codeAny P.M A (.call (.ref a) ⟨[v0],[]⟩) RR s:=by
 obtain⟨rst,rfl⟩:∃rst,nms=x0::rst:=by
  cases nms with
  | nil=>cases hx0
  | cons a b=>cases hx0; exact⟨b,rfl⟩
 refine B8 K.ex fun o fd ho hdata hcd hbody hsc hclo hglob hblt hcode hq hbind=>?_
 subst hsc
 refine xb (x0:=aa x0) (v0:=v0) (az (aA _ _) R.depth) (ok.g0 _ _ ho) hdata (P.hlim.keeps ok.g0) (hcd.keeps ok.g0) hbody (by rw[hbind [v0] rfl]; exact congrArg (fun l=>pure ((aa x0,v0)::l)) List.zip_nil_right) hclo hx1 (fun s₁ x htk=>?_) (frC K.fr) (frG K.fr) (frF K.fr)
 have hz:(⟨x0::rst,1,[]⟩:Fn).binds [v0]=[(aa x0,v0)]:=congrArg ((aa x0,v0)::·) List.zip_nil_right
 rw[←hz]at x
 have E:=AL (t:=1) (wc:=wc) (b:=⟨s.heap,Z⟩) K.fr ok rfl x htk rfl rfl rfl hglob hblt (.refl _ _) (.refl _) (fun υ υ e=> .inl e) (fun c hc=>hc) (nN (ds:=[d0]) rfl (frA K.fr)) (fun i es e=>nM e) fun L h₁ υ υ i=>sO r rfl i
 exact k _ s₁ E.1 E.2 (il R) hcode rfl rfl
end
noncomputable def vL:List String:=HM.names
noncomputable def lawB:List Stmt:=(dOf "law").2.1
theorem HD(p:Params):kY (hd.heap_1 p) 190 "law"=fh "law" "law" 189:=by kernel_rfl
theorem Iq:dF "law" 1 vL:=gn fun fd a=>by kernel_rfl
theorem Gz:cT ⟨vL,1,[]⟩ (dOf "law").2.2=true:=by decide+kernel
theorem AV{P:Pm}{p:Params}(X:(hd.heap_1 p).In P.g0):DefAt P vL 1 190 (dOf "law").2.2 (dOf "law").2.1 189 (aa "law"):=AY X (HD p) Iq Gz
theorem Eo:iw (names vL) (dOf "law").2.2 (ckS 40 (names vL) (dOf "law").2.2) HM.body (lawB.take 7)=true:=by decide+kernel
theorem En:iw (names vL) (dOf "law").2.2 (ckS 40 (names vL) (dOf "law").2.2) fLawB.body ((lawB.drop 7).drop 3)=true:=by decide+kernel
theorem vN:(dOf "law").2.1=lawB.take 7++((lawB.drop 7).take 3++(lawB.drop 7).drop 3):=by
 rw[List.take_append_drop,List.take_append_drop]; rfl
theorem sh_M:ShM (names vL) (dOf "law").2.2 ((lawB.drop 7).take 3):=
 ⟨by decide+kernel,by decide+kernel,by decide+kernel,by decide+kernel,by decide+kernel,rfl,rfl,rfl,_,_,_,_,_,_,_,_,_,_,_,_,_,_,_,_,_,_,_,_,rfl,⟨⟨_,_,_,_,_,_,_,_,rfl,rfl,rfl,rfl⟩,by decide+kernel,by decide+kernel,by decide+kernel⟩,by decide+kernel,by decide+kernel,by decide+kernel⟩
noncomputable def σ0(script:List Int):St:=Var.fro (.list (script.map PyData.int))::aq 32 .u0
noncomputable def BV(script:List Int):Prop:=
 ∃(σA σB:St) (is:List Int) (roads outs:List D),dU ftL 150 (σ0 script) HM.body=some (.next,σA)∧σA[5]? =some (.mut (is.map PyData.int))∧σA[1]? =some (.fro (.list roads))∧σA[8]? =some .u0∧σA[9]? =some .u0∧
  BU is outs∧roads.length=outs.length∧outs.length≤1000∧dU ftL 150 ((σA.set 5 (.fro (.list (is.map PyData.int)))).set 9 (.fro (.list outs))) fLawB.body=some (.ret (.bool true),σB)
section
variable {P:Pm}{A:Around}{Z:Heap}{s:Shared}
theorem vK(W:Tops P 147)(X:(hd.heap_1 P.w.params).In P.g0)(hA:A.frames=some [])(R:Room A 151)(ok:Ok P Z {s with toks:=1}){v:Value}{script:List Int}(r:Rep Z v (.list (script.map PyData.int)))(L:BV script){RR:Result→Shared→Prop}
  (h:∀s' Z',Go P Z {s with toks:=1} Z' s'→RR (.ok (.ret (.bool true))) s'):codeAny P.M A (.call (.ref 190) ⟨[v],[]⟩) RR s:=by
 refine fu (Cj W) fun O Mk=>?_
 refine x5_9 L fun σA σB is roads outs eA h5 h1 h8 h9 hoct hlen hsm eB=>?_
 refine tG (wc:=147) (n:=150) (AV X) R ok (d0:= .list (script.map PyData.int)) (.cons r .nil) (x0:="script") rfl (by decide+kernel) fun env s₁ S g R' hcode hscope hef=>?_
 have S:SR P 147 (dOf "law").2.2 env (names vL) 0 ⟨s.heap,Z⟩ Z (σ0 script) (fun i=>i) s₁:=S
 rw[vN]
 refine vI W.F O Mk sh_V (ID X) (mg_of X P.hg (g_pv _)) (mg_none_of X P.hg (g_no "StopIteration" (by decide) _)) R' sh_M (jh _) (Around.frames_deeper hA) hef (fun y=>by unfold Env.kindOf; rw[hscope]) S Eo En eA h5 h1 h8 h9 hoct hlen hsm eB fun v' s' Z' ad' S' rv=>?_
 have:=rv.bool_inv
 subst this
 exact h s' Z' (SR.toGo (s0:={s with toks:=1}) S')
end
end Pw
end
section
open PySem PySem.Builtin PySem.Builtin.Str
set_option maxRecDepth 4000
namespace Pl
open Pw
noncomputable def mkS(l:List Nat):Str:=⟨l.toArray⟩
theorem jd(a b:List Nat):mkS a++mkS b=mkS (a++b):=by
 show Str.append (mkS a) (mkS b)=mkS (a++b)
 unfold Str.append mkS
 simp
theorem bO(a:List Nat):(mkS a).length=a.length:=by
 show(mkS a).cps.size=a.length
 unfold mkS; simp
theorem jc(a:List Nat):(mkS a).cps.toList=a:=by unfold mkS; simp
theorem zM{a b:List Nat}(h:mkS a=mkS b):a=b:=by rw[←jc a,←jc b,h]
noncomputable def fX(sub:List Nat)(w hi:Nat):Nat→Nat→Nat→Nat→List Nat→List Nat
 | 0,_,_,_,_=>[]
 | k+1,i,free,lim,rest=>if sub.isPrefixOf rest&&(Nat.ble 1 lim&&(Nat.ble free i&&Nat.ble (i+w) hi)) then i::fX sub w hi k (i+1) (i+w) (lim-1) rest.tail else fX sub w hi k (i+1) free lim rest.tail
theorem zt{sub:List Nat}{w hi:Nat}{u1 u2 u3 u4}:fX sub w hi 0 u1 u2 u3 u4=([]):=rfl
theorem iZ{sub:List Nat}{w hi:Nat}{k i free lim rest}:fX sub w hi (k+1) i free lim rest=(if sub.isPrefixOf rest&&(Nat.ble 1 lim&&(Nat.ble free i&&Nat.ble (i+w) hi)) then i::fX sub w hi k (i+1) (i+w) (lim-1) rest.tail else fX sub w hi k (i+1) free lim rest.tail):=rfl
theorem uN(s sub:List Nat)(i:Nat):subAt (mkS s) (mkS sub) i=sub.isPrefixOf (s.drop i):=by
 unfold subAt
 rw[bO]
 unfold mkS
 rw[bJ,beq_iff_eq,dN,List.prefix_iff_eq_take,←Array.toList_inj]
 simp only[Array.toList_extract,List.extract_eq_drop_take,dH]
 constructor<;>(intro h; exact h.symm)
theorem vq(s sub:List Nat)(hi lim:Nat):∀(k i free:Nat) (found:Array Nat),found.size≤lim→
  (forIn (bT i k) (found,free) (StrLaws.occBody (mkS s) (mkS sub) hi lim)).run.fst.toList=found.toList++fX sub sub.length hi k i free (lim-found.size) (s.drop i):=by
 intro k
 induction k with
 | zero=>
  intro i free found υ
  simp[zt,iZ]
 | succ k ih=>
  intro i free found hf
  rw[dw,eX]
  unfold StrLaws.occBody fX
  rw[uN,bO,List.tail_drop]
  have e:(sub.isPrefixOf (s.drop i)&&(Nat.ble 1 (lim-found.size)&&(Nat.ble free i&&Nat.ble (i+sub.length) hi)))=decide (((found.size<lim∧free≤i)∧i+sub.length≤hi)∧sub.isPrefixOf (s.drop i)=true):=by
   rw[bJ,decide_eq_true_iff]
   simp only[aV,Nat.ble_eq]
   constructor
   ·rintro⟨h1,h2,h3,h4⟩; exact⟨⟨⟨by lia -abstractProof,h3⟩,h4⟩,h1⟩
   ·rintro⟨⟨⟨h2,h3⟩,h4⟩,h1⟩; exact⟨h1,by lia -abstractProof,h3,h4⟩
  rw[e]
  by_cases hc:((found.size<lim∧free≤i)∧i+sub.length≤hi)∧sub.isPrefixOf (s.drop i)=true
  ·rw[if_pos hc,if_pos (decide_eq_true hc)]
   have ih:=ih (i+1) (i+sub.length) (found.push i) (by rw[Array.size_push]; lia -abstractProof)
   refine ih.trans ?_
   rw[Array.toList_push,Array.size_push,bo]
   rfl
  ·rw[if_neg hc,if_neg (by simpa using hc)]
   exact ih (i+1) free found hf
theorem xR(s sub:List Nat)(lo hi lim:Nat):occurrences (mkS s) (mkS sub) lo hi lim=fX sub sub.length hi (hi+1-lo) lo lo lim (s.drop lo):=by
 rw[StrLaws.occ_eq,vq s sub hi lim _ _ _ _ (bK _)]
 simp
noncomputable def occL(s sub:List Nat)(lim:Nat):List Nat:=fX sub sub.length s.length (s.length+1) 0 0 lim s
theorem jW(s sub:List Nat)(lim:Nat):occurrences (mkS s) (mkS sub) 0 (mkS s).length lim=occL s sub lim:=by
 rw[bO,xR]; rfl
noncomputable def HW(s:List Nat)(i j:Nat):List Nat:=(s.drop i).take (j-i)
theorem qH(s:List Nat)(i j:Nat):strSub (mkS s) i j=mkS (HW s i j):=by
 unfold strSub mkS HW
 congr 1
 rw[←Array.toList_inj]
 simp[List.extract_eq_drop_take]
noncomputable def jo(s:List Nat)(cuts:List Nat)(w:Nat):List (List Nat):=((0::cuts.map (·+w)).zip (cuts++[s.length])).map fun p=>HW s p.1 p.2
theorem oQ(s:List Nat)(cuts:List Nat)(w:Nat):partsBetween (mkS s) cuts w=(jo s cuts w).map mkS:=by
 unfold partsBetween jo
 rw[bw,bO]
 refine bQ fun p υ=>?_
 exact qH s p.1 p.2
noncomputable def f6(z:List Nat):List (List Nat)→List Nat
 | []=>[]
 | p::r=>p++(r.map fun q=>z++q).flatten
theorem pd(z:List Nat)(ps:List (List Nat)):glued (mkS z) (ps.map mkS)=mkS (f6 z ps):=by
 cases ps with
 | nil=>rfl
 | cons p r=>
  unfold glued f6
  rw[aB,List.drop_one,List.tail_cons,List.headD_cons]
  have:∀(r:List (List Nat)) (acc:List Nat),(r.map mkS).foldl (fun acc p=>acc++(mkS z).cps++p.cps) acc.toArray=(acc++(r.map fun q=>z++q).flatten).toArray:=by
   intro r
   induction r with
   | nil=>intro acc; simp
   | cons q r ih=>
    intro acc
    rw[aB,bH]
    have e:acc.toArray++(mkS z).cps++(mkS q).cps=(acc++z++q).toArray:=by unfold mkS; simp
    rw[e,ih]
    simp
  have:=this r p
  unfold mkS at this⊢
  rw[this]
theorem og(x y:List Nat):Txt.contains (mkS x) (mkS y)= !(occL x y 1).isEmpty:=by unfold Txt.contains; rw[jW]
theorem wU(x y:List Nat):Txt.count (mkS x) (mkS y)=((occL x y (x.length+1)).length:Nat):=by unfold Txt.count; rw[jW,bO]
theorem pS(x y z:List Nat)(h:(occL x y (x.length+1)).isEmpty=false)(hy:y.length≠0):Txt.replace (mkS x) (mkS y) (mkS z)=mkS (f6 z (jo x (occL x y (x.length+1)) y.length)):=by
 unfold Txt.replace
 rw[jW,bO,bO,h]
 rw[if_neg (by simp[hy]),oQ,pd]
theorem mn(x y z:List Nat)(h:(occL x y (x.length+1)).isEmpty=true):Txt.replace (mkS x) (mkS y) (mkS z)=mkS x:=by
 unfold Txt.replace
 rw[jW,bO,h]; rfl
noncomputable def jn(x:List Nat):Bool:=x.all (·<128)
theorem sk{x:List Nat}(h:jn x=true):Builtin.Str.strKind (mkS x)=1:=by
 unfold Builtin.Str.strKind
 rw[if_pos]
 unfold mkS
 rw[List.all_toArray]
 rw[bh]
 intro c hc
 have:=bh.mp h c hc
 simp only[decide_eq_true_eq]at this⊢
 exact Pw.NZ this
theorem uR(x y:List Nat)(hx:jn x=true)(hy:jn y=true)(hl:y.length≤x.length)(h:(occL x y (x.length+1)).isEmpty=false):Txt.split (mkS x) (mkS y)=(jo x (occL x y (x.length+1)) y.length).map mkS:=by
 unfold Txt.split
 rw[jW,bO,bO,sk hx,sk hy,h,if_neg (by simp; exact Pw.qo hl),if_neg (by simp),oQ]
theorem pf(x y:List Nat)(lo hi:Int):ib (mkS x) (mkS y) lo hi=match fX y y.length (min hi.toNat x.length) (min hi.toNat x.length+1-lo.toNat) lo.toNat lo.toNat 1 (x.drop lo.toNat) with | i::_=>(i:Int) | []=> -1:=by
 unfold ib
 rw[bO,xR]
 all_goals(split<;>split<;>simp_all)
end Pl
end
section
local macro_rules | `(tactic| trivial) => `(tactic| first
 | with_reducible exact Pl.cO | with_reducible exact Pl.ji | with_reducible exact Pl.pq
 | ((with_reducible apply Pl.aF); exact rfl) | ((with_reducible apply Pl.ic); exact rfl) | ((with_reducible apply Pl.HP); exact rfl) | ((with_reducible apply Pl.wL); exact rfl)
 | with_reducible exact Pl.bU
 | ((with_reducible apply Pl.aS); trivial; trivial)
 | ((with_reducible apply Pl.cm); trivial; trivial; (first | with_reducible assumption | exact rfl))
 | ((with_reducible apply Pl.uu); trivial; (first | with_reducible assumption | exact rfl))
 | ((with_reducible apply Pl.ei); trivial; trivial; (first | with_reducible assumption | exact rfl))
 | ((with_reducible apply Pl.AO); trivial; (first | with_reducible assumption | exact rfl))
 | ((with_reducible apply Pl.kq); trivial; (first | with_reducible assumption | exact rfl))
 | ((with_reducible apply Pl.qt); trivial; trivial; (first | with_reducible assumption | exact rfl))
 | ((with_reducible apply Pl.fF); trivial; (first | with_reducible assumption | exact rfl)))
section
open PySem PySem.Builtin PySem.Builtin.Str
set_option maxRecDepth 8000
namespace Pl
open Pw
theorem fL(s:String):aa s=mkS (s.toList.map Char.toNat):=Str.ofString_eq_toList s
noncomputable def nmS(i:Nat):String:=(gk ((2^i:Nat):Int)).getD ""
noncomputable def nmL(i:Nat):List Nat:=(nmS i).toList.map Char.toNat
theorem zw:∀i<12,gk ((2^i:Nat):Int)=some (nmS i):=by decide+kernel
noncomputable def j4:List IS:=[.assign 3 (.bin .LShift (.int 1) (.var 2)),.ife (.bin .BitAnd (.var 0) (.var 3)) [.append 1 (.mt .flagName (.var 3) []),.aug 0 .BitXor (.var 3),.ife (.not (.var 0)) [.brk] []] []]
theorem qU(a i:Nat)(ha:a<1073741824)(h:i<10000):dO .LShift (.int (a:Nat)) (.int (i:Nat))=some (.int ((a*2^i:Nat):Int)):=by
 rw[xn ⟨aN _,by exact Pw.EP h,fZ (by rw[aT]; exact fG ha) (fG (by decide))⟩,aG]
 simp
theorem qT(i:Nat)(h:i<10000):dO .LShift (.int 1) (.int (i:Nat))=some (.int ((2^i:Nat):Int)):=by
 have:=qU 1 i (by decide) h
 rwa[Nat.one_mul]at this
theorem lW(f i:Nat):aO (f:Int) ((2^i:Nat):Int)=if f.testBit i then((2^i:Nat):Int) else 0:=by
 unfold aO
 simp only[aN,decide_true,aG]
 have:f&&&2^i=if f.testBit i then 2^i else 0:=by
  refine Nat.eq_of_testBit_eq fun j=>?_
  rw[Nat.testBit_and,Nat.testBit_two_pow]
  by_cases h:i=j
  ·subst h
   cases hb:f.testBit i<;>simp
  ·cases hb:f.testBit i<;>simp[h,Nat.testBit_two_pow]
 rw[this]
 cases f.testBit i<;>simp
theorem Et{f i:Nat}(h:f.testBit i=true):2^i≤f:=by
 rcases bS f (2^i) with q | q
 ·rw[Nat.testBit_lt_two_pow q]at h; cases h
 ·exact q
theorem xe(f i:Nat)(h:f.testBit i=true):Builtin.bitXor (f:Int) ((2^i:Nat):Int)=((f-2^i:Nat):Int):=by
 rw[PyProof.Rows.bitXor_and,lW,if_pos h]
 have:=Et h
 exact Pw.NY this
section
variable {ft:FT}{f i n:Nat}{ds:List D}{w:Var}
theorem DN(hi:i<12)(hb:f.testBit i=false):dU ft (n+10) [.fro (.int f),.mut ds,.fro (.int i),w] j4=some (.next,[.fro (.int f),.mut ds,.fro (.int i),.fro (.int ((2^i:Nat):Int))]):=by
 unfold j4
 have e1:=qT i (by exact Pw.FE hi)
 have e:dO .BitAnd (.int (f:Nat)) (.int ((2^i:Nat):Int))=some (.int 0):=by
  show some (PyData.int (bitAnd _ _))=_
  rw[lW,hb]; rfl
 refine aj (aH (bf (by trivial))) ?_
 refine aj (aH (aj (fV (by trivial)) cU)) ?_
 rfl
theorem Ax(hi:i<12)(hb:f.testBit i=true)(hd:ds.length<100):dU ft (n+20) [.fro (.int f),.mut ds,.fro (.int i),w] j4=
  some (if f-2^i=0 then .brk else .next,[.fro (.int ((f-2^i:Nat):Int)),.mut (ds++[.str (aa (nmS i))]),.fro (.int i),.fro (.int ((2^i:Nat):Int))]):=by
 unfold j4
 have h2:0<2^i:=dp i
 have e1:=qT i (by exact Pw.FE hi)
 have e:dO .BitAnd (.int (f:Nat)) (.int ((2^i:Nat):Int))=some (.int ((2^i:Nat):Int)):=by
  show some (PyData.int (bitAnd _ _))=_
  rw[lW,hb]; rfl
 have et:fv (.int ((2^i:Nat):Int))=some true:=by
  show some (_ !=_)=_
  rw[ax.injEq,bne_iff_ne]
  exact Pw.B4 h2
 have em:mtD .flagName (.int ((2^i:Nat):Int)) []=some (.str (aa (nmS i))):=by
  show(gk _).map _=_
  rw[zw i hi]; rfl
 have ex:augD .BitXor (f:Int) ((2^i:Nat):Int)=some ((f-2^i:Nat):Int):=by
  show some (bitXor _ _)=_
  rw[xe f i hb]
 have ef:ds.length<few:=by rw[show(few:Nat)=1048576 from rfl]; exact Pw.BR hd
 have en:fv (.int ((f-2^i:Nat):Int))=some (decide (f-2^i≠0)):=by
  show some (_ !=_)=_
  rw[ax.injEq,bJ,bne_iff_ne,decide_eq_true_iff]
  exact Pw.NX
 refine aj (aH (bf (by trivial))) ?_
 by_cases hz:f-2^i=0
 ·rw[if_pos hz]
  refine dt (aj (jC (fF (by trivial) et)) ?_) (by exact Fl.noConfusion)
  refine aj (aH (gI rfl (by trivial) ef)) ?_
  refine aj (aH (qZ rfl (by trivial) ex)) ?_
  refine dt (aj (jC (fF (AO (aF rfl) en) (by rw[decide_eq_false (by simpa using hz)]; rfl))) ?_) (by exact Fl.noConfusion)
  exact dt Cp (by exact Fl.noConfusion)
 ·rw[if_neg hz]
  refine aj (aH (aj (jC (fF (by trivial) et)) ?_)) cU
  refine aj (aH (gI rfl (by trivial) ef)) ?_
  refine aj (aH (qZ rfl (by trivial) ex)) ?_
  refine aj (aH (aj (fV (fF (AO (aF rfl) en) (by rw[decide_eq_true hz]; rfl))) cU)) ?_
  rfl
end
noncomputable def wi:Nat→Nat→Nat→Option (List Nat)
 | 0,_,_=>none
 | k+1,i,f=>if f.testBit i then(if f-2^i=0 then some [i] else(wi k (i+1) (f-2^i)).map (i::·)) else wi k (i+1) f
theorem xZ{k i f}:wi (k+1) i f=(if f.testBit i then(if f-2^i=0 then some [i] else(wi k (i+1) (f-2^i)).map (i::·)) else wi k (i+1) f):=rfl
noncomputable def nmD(i:Nat):D:= .str (aa (nmS i))
theorem wg{ft:FT}{n:Nat}:∀(k i f:Nat) (r:List D) (ms:List Nat) (ds:List D) (w v:Var),i+k≤12→ds.length+k<100→wi k i f=some ms→(∃r',r=(bT i k).map (fun(j:Nat)=>PyData.int j)++r')→
  ∃a b c,eV (.one 2) (fun σ=>dU ft (n+20) σ j4) r [.fro (.int f),.mut ds,v,w]=some (.brk,[a,.mut (ds++ms.map nmD),b,c]):=by
 intro k
 induction k with
 | zero=>intro i f r ms ds w v _ _ h; cases h
 | succ k ih=>
  intro i f r ms ds w v hi hd h ⟨r',hr⟩
  rw[dw,aB,cY]at hr
  rw[hr]
  rw[xZ]at h
  cases hb:f.testBit i with
  | false=>
   rw[hb,if_neg (by decide)]at h
   obtain⟨a,b,c,hh⟩:=ih (i+1) f _ ms ds (.fro (.int ((2^i:Nat):Int))) (.fro (.int i)) (by exact Pw.oy hi) (by exact Pw.FD hd) h ⟨r',rfl⟩
   refine⟨a,b,c,?_⟩
   refine aj (fb (σ':=[.fro (.int f),.mut ds,.fro (.int i),w]) rfl (DN (n:=n+10) (by exact Pw.BQ hi) hb)) ?_
   exact hh
  | true=>
   rw[hb,if_pos rfl]at h
   have hy:=Ax (ft:=ft) (n:=n) (w:=w) (by exact Pw.BQ hi) hb (by exact Pw.NW hd:ds.length<100)
   by_cases hz:f-2^i=0
   ·rw[if_pos hz,ax.injEq]at h
    rw[if_pos hz]at hy
    subst h
    exact⟨_,_,_,tf (σ':=[.fro (.int f),.mut ds,.fro (.int i),w]) rfl hy (by exact Fl.noConfusion)⟩
   ·rw[if_neg hz,aQ]at h
    obtain⟨ms',h1,h2⟩:=h
    rw[if_neg hz]at hy
    obtain⟨a,b,c,hh⟩:=ih (i+1) (f-2^i) _ ms' (ds++[.str (aa (nmS i))]) (.fro (.int ((2^i:Nat):Int))) (.fro (.int i)) (by exact Pw.oy hi) (by rw[ak]; simp only[ah,aE]; exact Pw.BK hd) h1 ⟨r',rfl⟩
    refine⟨a,b,c,?_⟩
    refine aj (fb (σ':=[.fro (.int f),.mut ds,.fro (.int i),w]) rfl hy) ?_
    rw[hh,←h2]
    simp[nmD]
theorem fz{ft:FT}{n:Nat}{f:Fn}{ds:List D}{σ:St}{d:D}(hl:ds.length=f.args)(h:dU ft n (ds.map .fro++aq (f.names.length-f.args) .u0) f.body=some (.ret d,σ)):f.run ft n ds=some d:=by
 unfold Fn.run; rw[if_pos hl,h]; rfl
noncomputable def tok(i:Nat):List Nat:=32::(nmL i++[44])
noncomputable def wd(ms:List Nat):List Nat:=ms.flatMap tok
theorem nE:∀i<12,(nmL i).length≤18∧0<(nmL i).length:=by decide+kernel
theorem td:∀(i:Nat) (r:List Nat),32::(f6 [44,32] ((i::r).map nmL)++[44])=wd (i::r)
 | i,[]=>by simp[f6,wd,tok]
 | i,j::r=>by
  have h:=td j r
  unfold wd at h⊢
  rw[cP,←h]
  simp[f6,tok]
theorem p9(i:Nat)(r:List Nat):Txt.join (mkS [44,32]) ((i::r).map fun j=>aa (nmS j))=mkS (f6 [44,32] ((i::r).map nmL)):=by
 have:((i::r).map fun j=>aa (nmS j))=((i::r).map nmL).map mkS:=by
  rw[bw]
  exact bQ fun j υ=>fL _
 rw[this]
 exact pd _ _
theorem qF:∀(l:List Str),l8 (l.map PyData.str)=some l:=by
 intro l
 induction l with
 | nil=>
  exact rfl
 | cons s r ih=>
  exact by rw[aB,yI,ih]; rfl
theorem Ck{l:List Nat}(h:∀j∈l,j≤18):l.sum≤l.length*18:=by
 induction l with
 | nil=>simp
 | cons a r ih=>
  have:=ih fun j hj=>h j (.tail _ hj)
  have:=h a (.head _)
  simp only[dG,ah]; lia -abstractProof
theorem Du{i:Nat}{r:List Nat}(hr:∀j∈i::r,j<12)(hl:r.length<50):mtD .join (.str (aa ", ")) [.list ((i::r).map nmD)]=some (.str (mkS (f6 [44,32] ((i::r).map nmL)))):=by
 have e1:(i::r).map nmD=((i::r).map fun j=>aa (nmS j)).map PyData.str:=by rw[bw]; rfl
 have e2:aa ", "=mkS [44,32]:=fL _
 rw[e1,e2]
 show(l8 _).bind _=_
 rw[qF]
 show(if _ then _ else _)=_
 rw[if_pos,p9]
 refine⟨?_,by rw[bO]; decide⟩
 rw[bw,bO,ag]
 have e3:(i::r).map ((fun x:Str=>x.length)∘fun j=>aa (nmS j))=(i::r).map fun j=>(nmL j).length:=by
  refine bQ fun j υ=>?_
  show(aa (nmS j)).length=_
  rw[fL,bO]; rfl
 rw[e3]
 have:=Ck (l:=(i::r).map fun j=>(nmL j).length) (by
  intro j hj
  refine bq (bg.mp hj) fun k hk e15_1=>?_; subst e15_1
  exact(nE k (hr k hk)).1)
 rw[ag]at this
 rw[show(few:Nat)=1048576 from rfl]
 simp only[ah,aE]at this⊢
 exact Pw.NV this hl
theorem zX:(fH 0 32 1).map PyData.int=(bT 0 12).map (fun(j:Nat)=>PyData.int j)++((bT 12 20).map (fun(j:Nat)=>PyData.int j)):=by kernel_rfl
theorem Az:∀(k i f:Nat) (ms:List Nat),wi k i f=some ms→(∀j∈ms,j<i+k)∧ms.length≤k∧ms≠[]:=by
 intro k
 induction k with
 | zero=>
  exact fun υ υ υ h=>by cases h
 | succ k ih=>
  intro i f ms h
  rw[xZ]at h
  split at h
  ·split at h
   ·rw[ax.injEq]at h; subst h
    refine ur ?_ (by simp) (by simp)
    intro j hj
    rw[ay]at hj; exact Pw.FC hj
   ·rw[aQ]at h
    refine bq h fun ms' h1 e35_1=>?_; subst e35_1
    refine lq (ih _ _ _ h1) fun a1 a2 υ=>?_
    refine ur ?_ (by simp only[ah]; exact Pw.ud a2) (by simp)
    intro j hj
    rcases aP.mp hj with h | h
    ·exact Pw.FC h
    ·have:=a1 j h; exact Pw.BP this
  ·refine lq (ih _ _ _ h) fun a1 a2 a3=>?_
   refine ur (fun j hj=>?_) (by exact Pw.FA a2) a3
   have:=a1 j hj; exact Pw.BP this
theorem Ay{ft:FT}{f:Nat}{ms:List Nat}(h:wi 12 0 f=some ms):DU.run ft 40 [.int f]=some (.str (mkS (f6 [44,32] (ms.map nmL)))):=by
 refine lq (Az _ _ _ _ h) fun h1 h2 h3=>?_
 refine mW (by cases ms with | nil=>exact absurd rfl h3 | cons i r=>exact⟨i,r,rfl⟩:∃i r,ms=i::r) fun i r e48_1=>?_; subst e48_1
 refine Gc (wg (ft:=ft) (n:=17) 12 0 f _ _ [] .u0 .u0 (by exact Pw.NU) (by decide) h ⟨_,zX⟩) fun a b c hh=>?_
 have:dU ft 40 [.fro (.int f),.u0,.u0,.u0] DU.body=some (.ret (.str (mkS (f6 [44,32] ((i::r).map nmL)))),[a,.fro (.list ((i::r).map nmD)),b,c]):=by
  unfold DU
  refine aj (aH (dX (d8 bU (by decide)))) ?_
  refine aj (aH (qY (σ':=[a,.mut ((i::r).map nmD),b,c]) ?_ hh)) ?_
  ·have:([IE.int 32]:List IE).mapM (evE ft 37 ([Var.fro (.int f),.u0,.u0,.u0].set 1 (.mut [])))=some [.int 32]:=aS cO bU
   exact ob1 this (nk (by rw[few_eq]; decide))
  refine aj (aH (pP rfl)) ?_
  refine dt (gQ (qt ji (aS (aF rfl) bU) (Du (by simpa using h1) (by simp only[ah]at h2; exact Pw.NT h2)))) (by exact Fl.noConfusion)
 exact fz rfl this
noncomputable def f7(m:Nat):List Nat:=(bu 5).filter fun j=>m.testBit j
noncomputable def bitsB(m b:Nat):List Nat:=(f7 m).map (·+b)
theorem tm:∀m<32,0<m→∀b<8,wi 12 0 (m*2^b)=some (bitsB m b):=by decide+kernel
theorem wh:∀m<32,0<m→bitsB m 0≠[]:=by decide+kernel
theorem gV(m:Nat):(f7 m).length≤5:=by
 have:=dR (fun j=>m.testBit j) (bu 5)
 simpa[f7]using this
theorem xi{m j:Nat}(h:j∈f7 m):j<5:=by
 have:=(List.mem_filter.mp h).1
 simpa using this
theorem lV{m b j:Nat}(hb:b<8)(h:j∈bitsB m b):j<12:=by
 refine bq (bg.mp h) fun k hk e75_1=>?_; subst e75_1
 have:=xi hk; exact Pw.NS this hb
theorem Cd:∀(ms:List Nat),(∀j∈ms,j<12)→(wd ms).length≤ms.length*20:=by
 intro ms
 induction ms with
 | nil=>
  exact fun υ=>by simp[wd]
 | cons j r ih=>
  intro h
  have:=ih fun k hk=>h k (.tail _ hk)
  have:=(nE j (h j (.head _))).1
  unfold wd at*
  rw[cP,ak]
  simp only[tok,ah,ak,aE]
  lia -abstractProof
theorem mZ{m b:Nat}(hb:b<8):(wd (bitsB m b)).length≤100:=by
 have:=Cd (bitsB m b) fun j hj=>lV hb hj
 have:=gV m
 unfold bitsB at*
 rw[ag]at*
 lia -abstractProof
theorem l6{ft:FT}(hft:∃ft',ft 6=some (41,fun ds=>DU.run ft' 40 ds)){m b:Nat}(hm:m<32)(h0:0<m)(hb:b<8):mF.run ft 60 [.int m,.int b]=some (.str (mkS (wd (bitsB m b)))):=by
 refine dh hft fun ft' h6=>?_
 have e1:=qU m b (by exact Pw.NR hm) (by exact Pw.NQ hb)
 have e2:=Ay (ft:=ft') (tm m hm h0 b hb)
 obtain⟨i,r,hir⟩:∃i r,bitsB m b=i::r:=by
  cases h:bitsB m b with
  | nil=>exact absurd (by unfold bitsB at*; simpa using h) (wh m hm h0)
  | cons i r=>exact⟨i,r,rfl⟩
 have hg:=td i r
 rw[←hir]at hg
 have hl:=mZ (m:=m) hb
 rw[←hg]at hl
 simp only[ah,ak,aE]at hl
 have e3:dO .Add (.str (aa " ")) (.str (mkS (f6 [44,32] ((bitsB m b).map nmL))))=some (.str (mkS (32::f6 [44,32] ((bitsB m b).map nmL)))):=by
  rw[fL]
  show(if _ then some (PyData.str _) else none)=_
  rw[if_pos (by rw[bO,bO,few_eq]; simp only[ag]; show 1+_≤_; exact Pw.NP hl),jd]
  rfl
 have e4:dO .Add (.str (mkS (32::f6 [44,32] ((bitsB m b).map nmL)))) (.str (aa ","))=some (.str (mkS (wd (bitsB m b)))):=by
  rw[fL]
  show(if _ then some (PyData.str _) else none)=_
  rw[if_pos (by rw[bO,bO,few_eq]; simp only[ag,ah]; show _+1≤_; exact Pw.NO hl),jd,←hg]
  rfl
 refine fz (σ:=[.fro (.int m),.fro (.int b)]) rfl ?_
 refine dt (gQ (cm (cm ji (eT h6 (by decide) (aS (cm (aF rfl) (aF rfl) e1) bU) e2) e3) ji e4)) (by exact Fl.noConfusion)
theorem yE:∀i<12,∀j<12,i≠j→(tok i).isPrefixOf (tok j)=false∧(tok j).isPrefixOf (tok i)=false:=by decide+kernel
theorem zy:∀i<12,(nmL i++[44]).all (fun c=>c !=32)=true:=by decide+kernel
theorem uI{i j:Nat}(hi:i<12)(hj:j<12)(h:i≠j)(r:List Nat):(tok i).isPrefixOf (tok j++r)=false:=by
 rw[Bool.eq_false_iff,ne_eq,dN]
 intro hp
 refine fu (yE i hi j hj h) fun h1 h2=>?_
 rcases List.prefix_or_prefix_of_prefix hp (List.prefix_append (tok j) r) with q | q
 ·rw[dN.mpr q]at h1; cases h1
 ·rw[dN.mpr q]at h2; cases h2
theorem vm{sub:List Nat}{w hi lim:Nat}:∀(l rest:List Nat) (k i free:Nat),l.all (fun c=>c !=32)=true→fX (32::sub) w hi (k+l.length) i free lim (l++rest)=fX (32::sub) w hi k (i+l.length) free lim rest:=by
 intro l
 induction l with
 | nil=>
  exact fun rest k i free υ=>rfl
 | cons c l ih=>
  intro rest k i free h
  rw[List.all_cons,aV,bne_iff_ne]at h
  rw[ah,←bP,cY,iZ,if_neg,List.tail_cons,ih rest k (i+1) free h.2]
  ·congr 1; exact Pw.ET
  ·rw[List.isPrefixOf]
   have:(32==c)=false:=by rw[beq_eq_false_iff_ne]; exact fun e=>h.1 e.symm
   rw[this]; simp
theorem rL{i j w hi lim k p free:Nat}(h1:i<12)(h2:j<12)(h:i≠j)(rest:List Nat):fX (tok i) w hi (k+(tok j).length) p free lim (tok j++rest)=fX (tok i) w hi k (p+(tok j).length) free lim rest:=by
 have e:(tok j).length=(nmL j++[44]).length+1:=by simp[tok]
 rw[e,←bP,iZ,uI h1 h2 h,if_neg (by simp)]
 have e2:(tok j++rest).tail=(nmL j++[44])++rest:=by simp[tok]
 rw[e2]
 show fX (32::_) w hi _ _ _ _ _=fX (32::_) w hi _ _ _ _ _
 rw[vm _ _ _ _ _ (zy j h2)]
 congr 1; exact Pw.ET
theorem gS(j:Nat)(r:List Nat):wd (j::r)=tok j++wd r:=by unfold wd; rw[cP]
theorem iz(a b:List Nat):wd (a++b)=wd a++wd b:=by unfold wd; rw[List.flatMap_append]
theorem vo{i w hi lim:Nat}(h1:i<12):∀(r:List Nat) (k p free:Nat),(∀j∈r,j<12)→i∉r→fX (tok i) w hi (k+(wd r).length) p free lim (wd r)=fX (tok i) w hi k (p+(wd r).length) free lim []:=by
 intro r
 induction r with
 | nil=>
  exact fun k p free υ υ=>rfl
 | cons j r ih=>
  intro k p free h hn
  rw[aP,not_or]at hn
  rw[gS,ak,show k+((tok j).length+(wd r).length)=(k+(wd r).length)+(tok j).length from by exact Pw.Fz,rL h1 (h j (.head _)) hn.1,ih _ _ _ (fun q hq=>h q (.tail _ hq)) hn.2]
  congr 1; exact Pw.Fy
theorem zr{sub:List Nat}{w hi lim:Nat}{c:Nat}:∀(k p free:Nat),fX (c::sub) w hi k p free lim []=[]:=by
 intro k
 induction k with
 | zero=>
  exact fun υ υ=>rfl
 | succ k ih=>
  exact fun p free=>by rw[iZ,if_neg (by simp[List.isPrefixOf])]; exact ih _ _
theorem rM{i hi:Nat}(h1:i<12){r2:List Nat}:∀(r1:List Nat) (k p free:Nat),(∀j∈r1,j<12)→i∉r1→free≤p→p+(wd r1).length+(tok i).length≤hi→
  ∃l,fX (tok i) (tok i).length hi (k+1+(wd r1).length) p free 1 (wd (r1++i::r2))=(p+(wd r1).length)::l:=by
 intro r1
 induction r1 with
 | nil=>
  intro k p free υ υ hf hh
  refine⟨fX (tok i) (tok i).length hi k (p+1) (p+(tok i).length) (1-1) (wd (i::r2)).tail,?_⟩
  show fX _ _ _ (k+1) _ _ _ _=_
  rw[List.nil_append,gS,iZ,if_pos]
  ·rfl
  ·have e:(wd ([]:List Nat)).length=0:=rfl
   rw[e]at hh
   rw[aV,aV,aV,dN,Nat.ble_eq,Nat.ble_eq,Nat.ble_eq]
   exact Hh (List.prefix_append _ _) (by lia -abstractProof) hf (by lia -abstractProof)
 | cons j r1 ih=>
  intro k p free h hn hf hh
  rw[aP,not_or]at hn
  rw[gS,ak]at hh
  refine dh (ih k (p+(tok j).length) free (fun q hq=>h q (.tail _ hq)) hn.2 (by exact Pw.BO hf) (by exact Pw.NN hh)) fun l hl=>?_
  refine⟨l,?_⟩
  rw[cY,gS,gS,ak,show k+1+((tok j).length+(wd r1).length)=(k+1+(wd r1).length)+(tok j).length from by exact Pw.Fz,rL h1 (h j (.head _)) hn.1,hl]
  congr 1; exact Pw.Fy
noncomputable def after(i:Nat):List Nat→Option (List Nat)
 | []=>none
 | j::r=>if i=j then some r else after i r
theorem lY{i:Nat}{j r}:after i (j::r)=(if i=j then some r else after i r):=rfl
theorem lj{i:Nat}{r r2:List Nat}(h:after i r=some r2):∃r1,r=r1++i::r2∧i∉r1:=by
 induction r with
 | nil=>cases h
 | cons j r ih=>
  skip
  rw[lY]at h
  by_cases e:i=j
  ·rw[if_pos e,ax.injEq]at h
   exact gX ([]) (by rw[e,h]; rfl) (by simp)
  ·rw[if_neg e]at h
   refine bq (ih h) fun r1 h1 h2=>?_
   exact gX (j::r1) (by rw[h1]; rfl) (by simp[e,h2])
theorem qq{i:Nat}:∀{r:List Nat},after i r=none→i∉r:=by
 intro r
 induction r with
 | nil=>
  exact fun υ=>by simp
 | cons j r ih=>
  intro h
  rw[lY]at h
  by_cases e:i=j
  ·rw[if_pos e]at h; cases h
  ·rw[if_neg e]at h
   simp[e,ih h]
theorem wx{i:Nat}(h1:i<12){pre r:List Nat}(h:∀j∈r,j<12):
  ib (mkS (pre++wd r)) (mkS (tok i)) (pre.length:Nat) ((pre++wd r).length:Nat)=match after i r with
   | some r2=>(((pre++wd r).length-(wd r2).length-(tok i).length:Nat):Int)
   | none=> -1:=by
 rw[pf,aG,aG,Nat.min_self,List.drop_left]
 cases ha:after i r with
 | none=>
  have:=vo (w:=(tok i).length) (hi:=(pre++wd r).length) (lim:=1) h1 r ((pre++wd r).length+1-pre.length-(wd r).length) pre.length pre.length h (qq ha)
  rw[show(pre++wd r).length+1-pre.length-(wd r).length+(wd r).length=(pre++wd r).length+1-pre.length from by rw[ak]; exact Pw.NM]at this
  rw[this]
  unfold tok
  rw[zr]
 | some r2=>
  refine bq (lj ha) fun r1 hr hn=>?_
  subst hr
  refine dh (rM (hi:=(pre++wd (r1++i::r2)).length) h1 (r2:=r2) r1 ((wd (i::r2)).length) pre.length pre.length (fun q hq=>h q (cV _ hq)) hn (bL _) (by rw[iz,gS]; simp only[ak]; exact Pw.NL)) fun l hl=>?_
  rw[show(wd (i::r2)).length+1+(wd r1).length=(pre++wd (r1++i::r2)).length+1-pre.length from by rw[iz]; simp only[ak]; exact Pw.NK]at hl
  rw[hl]
  dsimp only
  rw[iz,gS]
  simp only[ak]
  congr 1
  exact Pw.NH
theorem kX{s:List Nat}{p:Nat}(h:p≤s.length):ib (mkS s) (mkS []) (p:Nat) (s.length:Nat)=(p:Int):=by
 rw[pf,aG,aG,Nat.min_self,show s.length+1-p=(s.length-p)+1 from by exact Pw.NG h,iZ,if_pos]
 simp only[List.isPrefixOf,aE,Bool.true_and,aV,Nat.ble_eq]
 exact ur (by lia -abstractProof) (by lia -abstractProof) (by lia -abstractProof)
noncomputable def subGo:List Nat→List Nat→Bool
 | [],_=>true
 | j::js,r=>match after j r with | some r2=>subGo js r2 | none=>false
theorem m9{j js r}:subGo (j::js) r=(match after j r with | some r2=>subGo js r2 | none=>false):=rfl
noncomputable def lQ:List IS:=[.assign 3 (.mt .find3 (.var 1) [.var 5,.var 3,.var 4]),.ife (.cmp .Lt (.var 3) (.int 0)) [.ret (.bool false)] [],.aug 3 .Add (.bi .len [.var 5])]
theorem ya{x y:List Nat}{p q:Nat}{v:Int}(hp:p<100000)(hq:q<100000)(h:ib (mkS x) (mkS y) (p:Nat) (q:Nat)=v):mtD .find3 (.str (mkS x)) [.str (mkS y),.int (p:Nat),.int (q:Nat)]=some (.int v):=by
 rw[EK (by rw[few_eq]; exact Pw.NF hp hq),h]
theorem Dj{x:List Nat}(h:x.length<100000):biD .len [.str (mkS x)]=some (.int (x.length:Nat)):=by
 exact EH (bO _) (by rw[few_eq]; exact Pw.jm h)
theorem lt_D{a b:Int}{t:Bool}(h:decide (a<b)=t):gj .Lt (.int a) (.int b)=some t:=by rw[←h]; rfl
section
variable {ft:FT}{n:Nat}{W y:List Nat}{B ws v:Var}{p:Nat}
theorem nZ{q:Nat}(hW:W.length<100000)(hp:p<100000)(hy:y.length<100000)(h:ib (mkS W) (mkS y) (p:Nat) (W.length:Nat)=(q:Nat)):
  dU ft (n+20) [B,.fro (.str (mkS W)),ws,.fro (.int (p:Nat)),.fro (.int (W.length:Nat)),.fro (.str (mkS y))] lQ=some (.next,[B,.fro (.str (mkS W)),ws,.fro (.int ((q+y.length:Nat):Int)),.fro (.int (W.length:Nat)),.fro (.str (mkS y))]):=by
 have e1:=ya hp hW h
 have e2:gj .Lt (.int (q:Nat)) (.int 0)=some false:=lt_D (by simp)
 have e3:=Dj hy
 refine aj (aH (bf (by trivial))) ?_
 refine aj (aH (aj (fV (by trivial)) cU)) ?_
 refine aj (aH (qZ (w:=((q+y.length:Nat):Int)) rfl (by trivial) ?_)) ?_
 ·show some _=some _
  rw[cg]
 ·rfl
theorem wI(hW:W.length<100000)(hp:p<100000)(h:ib (mkS W) (mkS y) (p:Nat) (W.length:Nat)= -1):
  dU ft (n+20) [B,.fro (.str (mkS W)),ws,.fro (.int (p:Nat)),.fro (.int (W.length:Nat)),.fro (.str (mkS y))] lQ=some (.ret (.bool false),[B,.fro (.str (mkS W)),ws,.fro (.int (-1)),.fro (.int (W.length:Nat)),.fro (.str (mkS y))]):=by
 have e1:=ya hp hW h
 have e2:gj .Lt (.int (-1)) (.int 0)=some true:=lt_D (by simp)
 refine aj (aH (bf (by trivial))) ?_
 refine dt (aj (jC (by trivial)) (dt (gQ pq) (by exact Fl.noConfusion))) (by exact Fl.noConfusion)
theorem yF{i:Nat}(h:i<12):(tok i).length≤20:=by
 have:=(nE i h).1
 simp only[tok,ah,ak,aE]; exact Pw.ND this
theorem wJ(hW:W.length<50000):∀(js r pre:List Nat) (v:Var),W=pre++wd r→(∀j∈r,j<12)→(∀j∈js,j<12)→
  ∃σ',eV (.one 5) (fun σ=>dU ft (n+20) σ lQ) (js.map (fun j=>PyData.str (mkS (tok j)))++[.str (mkS [])]) [B,.fro (.str (mkS W)),ws,.fro (.int (pre.length:Nat)),.fro (.int (W.length:Nat)),v]=some (if subGo js r then .next else .ret (.bool false),σ'):=by
 intro js
 induction js with
 | nil=>
  intro r pre v hw h1 h2
  have hp:pre.length≤W.length:=by rw[hw,ak]; exact Pw.xv
  exact⟨[B,.fro (.str (mkS W)),ws,.fro (.int ((pre.length+0:Nat):Int)),.fro (.int (W.length:Nat)),.fro (.str (mkS []))],aj (fb rfl (nZ (q:=pre.length) (y:=[]) (by exact af (by assumption) (by decide)) (by exact Pw.BN hW hp) (by decide) (kX hp))) rfl⟩
 | cons j js ih=>
  intro r pre v hw h1 h2
  have hp:pre.length≤W.length:=by rw[hw,ak]; exact Pw.xv
  have hj:=h2 j (.head _)
  have ht:=yF hj
  have hf:=wx hj (pre:=pre) h1
  rw[←hw]at hf
  rw[m9]
  cases ha:after j r with
  | none=>
   rw[ha]at hf
   exact⟨_,tf rfl (wI (by exact af (by assumption) (by decide)) (by exact Pw.BN hW hp) hf) (by exact Fl.noConfusion)⟩
  | some r2=>
   rw[ha]at hf
   refine bq (lj ha) fun r1 hr υ=>?_
   have hw2:W=(pre++wd r1++tok j)++wd r2:=by rw[hw,hr,iz,gS]; simp
   have hl:W.length-(wd r2).length-(tok j).length+(tok j).length=(pre++wd r1++tok j).length:=by
    have:=congrArg List.length hw2
    simp only[ak]at this⊢; exact Pw.NC this
   refine dh (ih r2 (pre++wd r1++tok j) (.fro (.str (mkS (tok j)))) hw2 (fun q hq=>h1 q (by rw[hr]; exact dQ _ (.tail _ hq))) (fun q hq=>h2 q (.tail _ hq))) fun σ' hh=>?_
   refine⟨σ',aj (fb rfl (nZ (by exact af (by assumption) (by decide)) (by exact Pw.BN hW hp) (by exact az (by assumption) (by decide)) hf)) ?_⟩
   rw[hl]
   exact hh
end
noncomputable def lZ:List Nat:=[46,46,46]
noncomputable def brL(ms:List Nat):List Nat:=lZ++f6 lZ (ms.map tok)++lZ
noncomputable def uk(x y z:List Nat):List Nat:=if(occL x y (x.length+1)).isEmpty then x else f6 z (jo x (occL x y (x.length+1)) y.length)
theorem CH(x y z:List Nat)(hy:y.length≠0):Txt.replace (mkS x) (mkS y) (mkS z)=mkS (uk x y z):=by
 unfold uk
 cases h:(occL x y (x.length+1)).isEmpty with
 | true=>rw[mn _ _ _ h]; rfl
 | false=>rw[pS _ _ _ h hy]; rfl
noncomputable def brOk(m b:Nat):Bool:=
 let ms:=bitsB m b
 let s:=brL ms
 !(occL s lZ 1).isEmpty&&jn s&&Nat.ble 3 s.length&&Nat.ble s.length 400&& !(occL s lZ (s.length+1)).isEmpty&&
 jo s (occL s lZ (s.length+1)) 3==[]::(ms.map tok++[[]])&&lZ++uk (wd ms) [44,32] [44,46,46,46,32]++lZ==s&&Nat.ble (uk (wd ms) [44,32] [44,46,46,46,32]).length 400
theorem xh:∀m<16,0<m→∀b<8,brOk m b=true:=by decide+kernel
theorem qz:fv (.str (mkS []))=some false:=by
 unfold fv
 dsimp only
 rw[bO,if_pos (by rw[few_eq]; simp)]; rfl
theorem iM{xs:List D}(h:xs.length<100000):biD .len [.list xs]=some (.int (xs.length:Nat)):=by
 exact BF rfl (by rw[few_eq]; exact Pw.jm h)
structure BrOk(m b:Nat):Prop where
 h1:(occL (brL (bitsB m b)) lZ 1).isEmpty=false
 h2:jn (brL (bitsB m b))=true
 h3:3≤(brL (bitsB m b)).length
 h4:(brL (bitsB m b)).length≤400
 h5:(occL (brL (bitsB m b)) lZ ((brL (bitsB m b)).length+1)).isEmpty=false
 h6:jo (brL (bitsB m b)) (occL (brL (bitsB m b)) lZ ((brL (bitsB m b)).length+1)) 3=[]::((bitsB m b).map tok++[[]])
 h7:lZ++uk (wd (bitsB m b)) [44,32] [44,46,46,46,32]++lZ=brL (bitsB m b)
 h8:(uk (wd (bitsB m b)) [44,32] [44,46,46,46,32]).length≤400
theorem oq{m b:Nat}(hm:m<16)(h0:0<m)(hb:b<8):BrOk m b:=by
 have h:=xh m hm h0 b hb
 unfold brOk at h
 simp only[aV,fc,beq_iff_eq,Nat.ble_eq]at h
 obtain⟨⟨⟨⟨⟨⟨⟨h1,h2⟩,h3⟩,h4⟩,h5⟩,h6⟩,h7⟩,h8⟩:=h
 exact⟨h1,h2,h3,h4,h5,h6,h7,h8⟩
theorem AM{ft:FT}{m b:Nat}{r:List Nat}(hm:m<16)(h0:0<m)(hb:b<8)(hr:∀j∈r,j<12)(hl:(wd r).length≤100):
  AI.run ft 40 [.str (mkS (brL (bitsB m b))),.str (mkS (wd r))]=some (.bool (subGo (bitsB m b) r)):=by
 obtain⟨h1,h2,h3,h4,h5,h6,h7,h8⟩:=oq hm h0 hb
 generalize hB:brL (bitsB m b)=Bl at*
 have ed:aa "..."=mkS lZ:=fL _
 have c1:gj .NotIn (.str (aa "...")) (.str (mkS Bl))=some false:=by
  show some (!Txt.contains _ _)=_
  rw[ed,og,h1]; rfl
 have c2:mtD .split (.str (mkS Bl)) [.str (aa "...")]=some (.list (.str (mkS [])::((bitsB m b).map (fun j=>PyData.str (mkS (tok j)))++[.str (mkS [])]))):=by
  rw[ed,BB ⟨by rw[bO]; exact af (by assumption) (by decide),by rw[bO]; decide⟩,uR Bl lZ h2 (by decide) h3 h5]
  show some (PyData.list (List.map _ (List.map _ (jo Bl _ 3))))=_
  rw[h6]
  simp[bw]
 generalize hts:(bitsB m b).map (fun j=>PyData.str (mkS (tok j)))=ts at*
 have hn:ts.length≤5:=by rw[←hts,ag]; unfold bitsB; rw[ag]; exact gV m
 have c3:=iM (xs:= .str (mkS [])::(ts++[.str (mkS [])])) (by simp only[ah,ak,aE]; lia -abstractProof)
 have c4:gj .GtE (.int (((PyData.str (mkS []))::(ts++[PyData.str (mkS [])])).length:Nat)) (.int 2)=some true:=by
  show some (decide _)=_
  rw[ax.injEq,decide_eq_true_iff]
  simp only[ah,ak,aE]; exact Pw.NB
 have c5:=Dj (x:=wd r) (by exact az (by assumption) (by decide))
 have c6:idxD (.str (mkS [])::(ts++[.str (mkS [])])) 0=some (.str (mkS [])):=by
  unfold idxD
  rw[if_pos (by decide),if_pos (by rw[few_eq]; decide)]; rfl
 have c7:idxD (.str (mkS [])::(ts++[.str (mkS [])])) (-1)=some (.str (mkS [])):=by
  unfold idxD
  rw[if_neg (by decide),if_pos]
  ·simp only[ah,ak,aE]
   rw[show(-1+((ts.length+(0+1)+1:Nat):Int)).toNat=ts.length+1 from by exact Pw.NA]
   simp
  ·rw[few_eq]; simp only[ah,ak,aE]; lia -abstractProof
 have c8:gj .Gt (.int 0) (.int ((wd r).length:Nat))=some false:=by
  show some (decide _)=_
  rw[ax.injEq,decide_eq_false_iff_not]; exact Pw.xu
 have n1:unD .USub (.int 1)=some (.int (-1)):=rfl
 obtain⟨σ',hh⟩:=wJ (ft:=ft) (n:=8) (W:=wd r) (B:= .fro (.str (mkS Bl))) (ws:= .fro (.list (.str (mkS [])::(ts++[.str (mkS [])])))) (by exact az (by assumption) (by decide)) (bitsB m b) r [] (.fro (.str (mkS []))) rfl hr (fun j hj=>lV hb hj)
 rw[hts]at hh
 have hh2:eV (.one 5) (fun σ=>dU ft 28 σ lQ) (.str (mkS [])::(ts++[.str (mkS [])])) [.fro (.str (mkS Bl)),.fro (.str (mkS (wd r))),.fro (.list (.str (mkS [])::(ts++[.str (mkS [])]))),.fro (.int 0),.fro (.int ((wd r).length:Nat)),.fro (.str (mkS []))]=some (if subGo (bitsB m b) r then .next else .ret (.bool false),σ'):=by
  refine aj (fb rfl (nZ (n:=8) (p:=0) (q:=0) (y:=[]) (by exact az (by assumption) (by decide)) (by exact br _) (by decide) (kX (bK _)))) ?_
  exact hh
 have hs:jF (evE ft 28) [.fro (.str (mkS Bl)),.fro (.str (mkS (wd r))),.fro (.list (.str (mkS [])::(ts++[.str (mkS [])]))),.fro (.int 0),.fro (.int ((wd r).length:Nat)),.fro (.str (mkS []))] (.var 2)=some (.str (mkS [])::(ts++[.str (mkS [])])):=by
  show(if _ then some _ else none)=_
  rw[if_pos]
  rw[few_eq]; simp only[ah,ak,aE]; exact Pw.Nz hn
 have hrun:∃σ2,dU ft 40 [.fro (.str (mkS Bl)),.fro (.str (mkS (wd r))),.u0,.u0,.u0,.u0] AI.body=some (.ret (.bool (subGo (bitsB m b) r)),σ2):=by
  apply Exists.intro
  unfold AI
  refine aj (aH (aj (fV (by trivial)) cU)) ?_
  refine aj (aH (dX (by trivial))) ?_
  refine aj (aH (lB (by trivial))) ?_
  refine aj (aH (iG (by trivial) (by trivial))) ?_
  refine aj (aH (bf (j6 (by trivial) (by trivial) rfl c6))) ?_
  refine aj (aH (aj (fV (fF (aF rfl) qz)) cU)) ?_
  refine aj (aH (bf (j6 (by trivial) (by trivial) rfl c7))) ?_
  refine aj (aH (aj (fV (fF (aF rfl) qz)) cU)) ?_
  refine aj (aH (aj (fV (by trivial)) cU)) ?_
  refine aj (aH (pP rfl)) ?_
  cases ht:subGo (bitsB m b) r with
  | true=>
   rw[ht,if_pos rfl]at hh2
   refine aj (aH (aj (fW hs hh2) cU)) ?_
   exact dt (gQ pq) (by exact Fl.noConfusion)
  | false=>
   rw[ht,if_neg (by decide)]at hh2
   exact dt (yS hs hh2) (by exact Fl.noConfusion)
 obtain⟨σ2,hrun⟩:=hrun
 exact fz rfl hrun
end Pl
end
section
open PySem
set_option maxRecDepth 8000
namespace Pl
open Pw
noncomputable def lo(e:Nat):Nat:=[1,1,2,1,2,3,1,2,3,4].getD e 0
noncomputable def hi(e:Nat):Nat:=[2,3,3,4,4,4,5,5,5,5].getD e 0
noncomputable def road(e:Nat):D:= .tuple [.int (lo e:Nat),.int (hi e:Nat)]
theorem pK{ft:FT}{n:Nat}{x:Var}:evE ft (n+20) [x,.u0,.u0,.u0] (.comp (.tup [.var 5,.var 4]) [(.one 4,.bi .range [.int 2,.int 6],[]),(.one 5,.bi .range [.int 1,.var 4],[])] ["high","low"] [])=some (.list ((bu 10).map road)):=by
 kernel_rfl
noncomputable def ny:List Int→List Nat→List Nat→List Nat
 | [],_,acc=>acc
 | y::ys,w,acc=>ny ys (w.eraseIdx (y.fmod w.length).toNat) (acc++[w.getD (y.fmod w.length).toNat 0])
theorem nu{y ys w acc}:ny (y::ys) w acc=(ny ys (w.eraseIdx (y.fmod w.length).toNat) (acc++[w.getD (y.fmod w.length).toNat 0])):=rfl
theorem jx{α β:Type}(f:α→β):∀(l:List α) (k:Nat),(l.map f).eraseIdx k=(l.eraseIdx k).map f
 | [],_=>rfl
 | a::l,0=>rfl
 | a::l,k+1=>by rw[aB,List.eraseIdx_cons_succ,List.eraseIdx_cons_succ,aB,jx f l k]
theorem pV{α:Type}{l:List α}:∀{j:Nat} (h:j<l.length),(l[j]::l.eraseIdx j).Perm l:=by
 induction l with
 | nil=>exact fun h=>absurd h (Nat.not_lt_zero _)
 | cons a l ih=>
  intro j h
  cases j with
  | zero=>exact .refl _
  | succ j=>exact(List.Perm.swap _ _ _).trans ((ih (Nat.lt_of_succ_lt_succ h)).cons a)
theorem CZ{ft:FT}{n:Nat}{σ:St}{e:IE}{i:Int}(h:evE ft n σ e=some (.int i)):jq (evE ft n σ) (some e)=some (some i):=by
 unfold jq; dsimp only; rw[h]
theorem yM{ev:St→IE→Option D}{σ:St}{op:Operator}{a b:IE}{xs:List D}(h:ev σ (.bin op a b)=some (.list xs))(hl:xs.length<100000):jF ev σ (.bin op a b)=some xs:=by
 exact ob1 h (gy (by rw[few_eq]; exact Pw.jm hl))
theorem fe{ev:St→IE→Option D}{σ:St}{i:Nat}{xs:List D}(h:ev σ (.var i)=some (.list xs))(hl:xs.length<100000):jF ev σ (.var i)=some xs:=by
 exact ob1 h (gy (by rw[few_eq]; exact Pw.jm hl))
theorem yL{ev:St→IE→Option D}{σ:St}{es:List IE}{xs:List D}(h:ev σ (.bi .lst es)=some (.list xs))(hl:xs.length<100000):jF ev σ (.bi .lst es)=some xs:=by
 exact ob1 h (gy (by rw[few_eq]; exact Pw.jm hl))
theorem uP{ev:St→IE→Option D}{σ:St}{es:List IE}{xs:List D}(h:ev σ (.list es)=some (.list xs))(hl:xs.length<100000):jF ev σ (.list es)=some xs:=by
 exact ob1 h (gy (by rw[few_eq]; exact Pw.jm hl))
theorem qK{ev:St→IE→Option D}{σ:St}{a:IE}{l h':Option IE}{xs:List D}(h:ev σ (.slice a l h')=some (.list xs))(hl:xs.length<100000):jF ev σ (.slice a l h')=some xs:=by
 exact ob1 h (gy (by rw[few_eq]; exact Pw.jm hl))
theorem ro{ft:FT}{n:Nat}{x:Var}{w acc:List Nat}{y:Int}(hw:0<w.length)(hl:w.length≤100)(ha:acc.length≤100):
  dU ft (n+20) [x,.mut (w.map road),.mut (acc.map road),.fro (.int y)] [.appendPop 2 1 (.bin .Mod (.var 3) (.bi .len [.bor 1]))]=some (.next,[x,.mut ((w.eraseIdx (y.fmod w.length).toNat).map road),.mut ((acc++[w.getD (y.fmod w.length).toNat 0]).map road),.fro (.int y)]):=by
 have hb:(0:Int)<(w.length:Int):=by exact bN.mpr (by assumption)
 have h1:0≤y.fmod w.length:=eO _ hb
 have h2:y.fmod w.length<w.length:=Int.fmod_lt_of_pos _ hb
 have c1:=iM (xs:=w.map road) (by rw[ag]; exact Pw.xt hl)
 rw[ag]at c1
 have c2:dO .Mod (.int y) (.int (w.length:Nat))=some (.int (y.fmod w.length)):=if_pos (by exact Int.ne_of_gt (by assumption))
 generalize hk:y.fmod w.length=k at*
 refine dh (⟨k.toNat,by exact Pw.Ny h1⟩:∃j:Nat,k=j) fun j e63_1=>?_; subst e63_1
 rw[aG]
 have hj:j<w.length:=by exact Pw.aq43 h2
 refine aj (aH (ik (m:=(j:Int)) (u:=road (w.getD j 0)) rfl rfl (by trivial) ?_ ?_)) ?_
 ·refine F0 (by assumption) (by rw[ag]; exact Pw.Fx hj) (by rw[ag,few_eq]; exact Pw.BR hl) (by rw[ag,few_eq]; exact Pw.Nx ha) (by decide)
 ·rw[aG,aW,aR hj,bW,aR hj]; rfl
 ·rw[aG,jx,aZ]
  exact cU
theorem rq{ft:FT}{n:Nat}{x:Var}:∀(ys:List Int) (w acc:List Nat) (v:Var),ys.length≤w.length→w.length≤100→acc.length+ys.length≤50→
  ∃w' v',eV (.one 3) (fun σ=>dU ft (n+20) σ [.appendPop 2 1 (.bin .Mod (.var 3) (.bi .len [.bor 1]))]) (ys.map PyData.int) [x,.mut (w.map road),.mut (acc.map road),v]=some (.next,[x,w',.mut ((ny ys w acc).map road),v']):=by
 intro ys
 induction ys with
 | nil=>
  exact fun w acc v υ υ υ=>⟨_,_,rfl⟩
 | cons y ys ih=>
  intro w acc v h1 h2 h3
  rw[ah]at h1 h3
  have hb:(0:Int)<(w.length:Int):=by exact Pw.Fw h1
  have q1:0≤y.fmod w.length:=eO _ hb
  have q2:y.fmod w.length<w.length:=Int.fmod_lt_of_pos _ hb
  have he:(w.eraseIdx (y.fmod w.length).toNat).length=w.length-1:=by rw[List.length_eraseIdx,if_pos (by exact Pw.Fv q1 q2)]
  obtain⟨w',v',hh⟩:=ih (w.eraseIdx (y.fmod w.length).toNat) (acc++[w.getD (y.fmod w.length).toNat 0]) (.fro (.int y)) (by exact Pw.Ft h1 he) (by exact Pw.Nw he h2) (by rw[ak]; simp only[ah,aE]; exact Pw.oy h3)
  refine uq w' v' (aj (fb rfl (ro (by exact az (ar _ _) (by assumption)) h2 (by exact Pw.Nv h3))) ?_)
  rw[hh,nu]
theorem rp:∀(ys:List Int) (w acc:List Nat),ys.length≤w.length→∃w',(ny ys w acc++w').Perm (acc++w)∧(ny ys w acc).length=acc.length+ys.length:=by
 intro ys
 induction ys with
 | nil=>
  exact fun w acc υ=>⟨w,List.Perm.refl _,rfl⟩
 | cons y ys ih=>
  intro w acc h1
  rw[ah]at h1
  have hb:(0:Int)<(w.length:Int):=by exact Pw.Fw h1
  have q1:0≤y.fmod w.length:=eO _ hb
  have q2:y.fmod w.length<w.length:=Int.fmod_lt_of_pos _ hb
  have hj:(y.fmod w.length).toNat<w.length:=by exact Pw.Fv q1 q2
  have he:(w.eraseIdx (y.fmod w.length).toNat).length=w.length-1:=by rw[List.length_eraseIdx,if_pos hj]
  refine bq (ih (w.eraseIdx (y.fmod w.length).toNat) (acc++[w.getD (y.fmod w.length).toNat 0]) (by exact Pw.Ft h1 he)) fun w' h2 h3=>?_
  refine gX w' ?_ ?_
  ·rw[nu]
   refine h2.trans ?_
   rw[bo,List.singleton_append]
   refine List.Perm.append_left _ ?_
   rw[bW,aR hj]
   exact pV hj
  ·rw[nu,h3,ak]; simp only[ah,aE]; exact Pw.ET
structure Sq(rs:List Nat):Prop where
 len:rs.length=5
 nd:rs.Nodup
 lt:∀e∈rs,e<10
noncomputable def xC(script:List Int):List Int:=script.take 5++[0,0,0,3,5].drop (script.take 5).length
theorem ix(script:List Int):(xC script).length=5:=by
 unfold xC
 rw[ak,List.length_drop]
 have:=List.length_take_le 5 script
 simp only[ah,aE]; exact Pw.Nu this
noncomputable def rsOf(script:List Int):List Nat:=ny (xC script) (bu 10) []
theorem lC(script:List Int):Sq (rsOf script):=by
 refine bq (rp (xC script) (bu 10) [] (by rw[ix]; decide)) fun w' h1 h2=>?_
 rw[List.nil_append]at h1
 have nd:(rsOf script++w').Nodup:=h1.nodup_iff.mpr List.nodup_range
 refine⟨?_,(List.nodup_append.mp nd).1,fun e he=>?_⟩
 ·unfold rsOf; rw[h2,ix]; rfl
 ·have:=h1.mem_iff.mp (cV _ he)
  exact fj.mp this
theorem all_some{F k:Nat}(h:k<F):(some (k:Int)).all (fun(i:Int)=>decide (0≤i∧i<(F:Int)))=true:=by
 rw[Option.all_some,decide_eq_true_iff]; exact Pw.Nt h
theorem yb:100000≤few:=by rw[few_eq]; exact Pw.Nr
theorem yN{xs:List D}{k:Nat}(hk:k<100000)(hl:xs.length<100000):sliceD xs none (some (k:Int))=some (xs.take k):=by
 have hf:=yb
 unfold sliceD
 generalize few=F at*
 rw[all_some (by exact af (by assumption) (by assumption)),Option.all_none,decide_eq_true (by exact Pw.Fs hl hf:xs.length≤F)]
 rw[if_pos (by rfl)]
 dsimp only
 rw[aG,List.drop_zero]
theorem oP{xs:List D}{k:Nat}(hk:k<100000)(hl:xs.length<100000):sliceD xs (some (k:Int)) none=some (xs.drop k):=by
 have hf:=yb
 unfold sliceD
 generalize few=F at*
 rw[all_some (by exact af (by assumption) (by assumption)),Option.all_none,decide_eq_true (by exact Pw.Fs hl hf:xs.length≤F)]
 rw[if_pos (by rfl)]
 dsimp only
 rw[aG]
noncomputable def rsD(rs:List Nat):D:= .list (rs.map road)
theorem q0{ft:FT}{script:List Int}(h:script.length≤63):mG.run ft 40 [.list (script.map .int)]=some (rsD (rsOf script)):=by
 have ht:=List.length_take_le 5 script
 have hlm:(script.map PyData.int).length<100000:=by rw[ag]; exact Pw.Fq h
 have hs:∀{n:Nat} {a b c:Var},evE ft (n+5) [.fro (.list (script.map .int)),a,b,c] (.slice (.var 0) none (some (.int 5)))=some (.list ((script.take 5).map .int)):=by
  intro n a b c
  refine n4 (l:=none) (h:=some ((5:Nat):Int)) (aF rfl) rfl rfl ?_
  rw[yN (by decide) hlm,List.map_take]
 have c0:biD .lst [.list ((script.take 5).map PyData.int)]=some (.list ((script.take 5).map PyData.int)):=by
  exact EF (by rw[ag,few_eq]; exact Pw.Nq ht)
 have c1:=iM (xs:=(script.take 5).map PyData.int) (by rw[ag]; exact Pw.Np ht)
 rw[ag]at c1
 have hsrc:∀{a b c:Var},jF (evE ft 36) [.fro (.list (script.map .int)),a,b,c] (.bin .Add (.bi .lst [.slice (.var 0) none (some (.int 5))]) (.slice (.list [.int 0,.int 0,.int 0,.int 3,.int 5]) (some (.bi .len [.slice (.var 0) none (some (.int 5))])) none))=some ((xC script).map .int):=by
  intro a b c
  have e1:evE ft 36 [.fro (.list (script.map .int)),a,b,c] (.bin .Add (.bi .lst [.slice (.var 0) none (some (.int 5))]) (.slice (.list [.int 0,.int 0,.int 0,.int 3,.int 5]) (some (.bi .len [.slice (.var 0) none (some (.int 5))])) none))=some (.list ((xC script).map .int)):=by
   refine cm (kq (aS hs bU) c0) (n4 (xs:=[.int 0,.int 0,.int 0,.int 3,.int 5]) (l:=some (((script.take 5).length:Nat):Int)) (h:=none) (d8 (by trivial) (by decide)) ?_ rfl (oP (by exact az (by assumption) (by decide)) (by decide))) ?_
   ·exact CZ (kq (aS hs bU) c1)
   ·rw[yk]
    ·unfold xC
     rw[aZ,List.map_drop]; rfl
    ·rw[ag,List.length_drop,few_eq]; simp only[ah,aE]; exact Pw.Nm ht
  exact yM e1 (by rw[ag,ix]; decide)
 refine mW (rq (ft:=ft) (n:=16) (x:= .fro (.list (script.map .int))) (xC script) (bu 10) [] .u0 (by rw[ix]; decide) (by decide) (by rw[ix]; decide)) fun w' v' hh=>?_
 refine fz (σ:=[.fro (.list (script.map .int)),w',.fro (rsD (rsOf script)),v']) rfl ?_
 unfold mG
 refine aj (aH (dX (pK (n:=18)))) ?_
 refine aj (aH (dX (d8 bU (by decide)))) ?_
 refine aj (aH (aj (fW hsrc hh) cU)) ?_
 refine aj (aH (pP rfl)) ?_
 exact dt (gQ (aF rfl)) (by exact Fl.noConfusion)
noncomputable def shOf(script:List Int):Nat:=(script.sum.fmod 59).toNat
noncomputable def baOf(script:List Int):Nat:=script.length%8
noncomputable def cOf(script:List Int):Nat:=if 5<script.length then 1+(script.getD 5 0).natAbs%10^30 else 3
theorem yP(script:List Int):shOf script<59:=by
 have h1:0≤script.sum.fmod 59:=eO _ (by decide)
 have h2:script.sum.fmod 59<59:=Int.fmod_lt_of_pos _ (by decide)
 unfold shOf; exact Pw.Nl h2
theorem Bz(script:List Int):baOf script<8:=eN _ (by decide)
theorem Bk(script:List Int):1≤cOf script:=by unfold cOf; split<;>(first | exact Pw.xv | exact Pw.Nk)
theorem Er(script:List Int):cOf script≤10^30:=by
 unfold cOf
 split
 ·have:=eN (script.getD 5 0).natAbs (show 10^30>0 by decide); exact Pw.Nj
 ·decide
noncomputable def um(sh:Nat):Nat→List Nat→List Nat
 | _,[]=>[]
 | k,e::es=>(lo e+sh+64+128*(k%2))::(hi e+sh)::um sh (k+1) es
theorem CY{sh:Nat}{u1}:um sh u1 []=([]):=rfl
theorem CX{sh:Nat}{k e es}:um sh k (e::es)=((lo e+sh+64+128*(k%2))::(hi e+sh)::um sh (k+1) es):=rfl
noncomputable def aC(n:Nat):D:= .int n
theorem DM(k:Nat):dO .FloorDiv (.int ((2*k:Nat):Int)) (.int 2)=some (.int (k:Nat)):=by
 rw[xp (by decide)]
 congr 2
 rw[Int.fdiv_eq_ediv_of_nonneg _ (by decide)]; exact Pw.Ni
theorem mod2(k:Nat):dO .Mod (.int (k:Nat)) (.int 2)=some (.int ((k%2:Nat):Int)):=by
 rw[xo (by decide)]
 congr 2
 rw[fg _ (by decide)]; exact Pw.Nh
theorem lI{a b:Nat}(ha:a<1073741824)(hb:b<1073741824):dO .Mult (.int (a:Nat)) (.int (b:Nat))=some (.int ((a*b:Nat):Int)):=by
 rw[BE (fZ (by rw[aT]; exact fG ha) (by rw[aT]; exact fG hb)),b0]
theorem dZ(a b:Nat):dO .Add (.int (a:Nat)) (.int (b:Nat))=some (.int ((a+b:Nat):Int)):=by
 rw[cg]; rfl
noncomputable def rK:List IS:=[.extend 5 (.list [.bin .Add (.bin .Add (.bin .Add (.var 6) (.var 2)) (.int 64)) (.bin .Mult (.int 128) (.bin .Mod (.bin .FloorDiv (.bi .len [.bor 5]) (.int 2)) (.int 2))),.bin .Add (.var 7) (.var 2)])]
section
variable {ft:FT}{n:Nat}{a b c d:Var}{rest:St}{sh:Nat}
theorem vj{k e:Nat}{os:List Nat}(ho:os.length=2*k)(hk:k<10){v w:Var}:
  dU ft (n+20) (a::b:: .fro (.int (sh:Nat))::c::d:: .mut (os.map aC):: .fro (.int (lo e:Nat)):: .fro (.int (hi e:Nat))::rest) rK=some (.next,a::b:: .fro (.int (sh:Nat))::c::d:: .mut ((os++[lo e+sh+64+128*(k%2),hi e+sh]).map aC):: .fro (.int (lo e:Nat)):: .fro (.int (hi e:Nat))::rest):=by
 have c1:=iM (xs:=os.map aC) (by rw[ag]; exact Pw.Ng hk ho)
 rw[ag,ho]at c1
 have c2:=DM k
 have c3:=mod2 k
 have c4:dO .Mult (.int 128) (.int ((k%2:Nat):Int))=some (.int ((128*(k%2):Nat):Int)):=lI (a:=128) (by decide) (by exact Pw.Nf)
 have c5:=dZ (lo e) sh
 have c6:dO .Add (.int ((lo e+sh:Nat):Int)) (.int 64)=some (.int ((lo e+sh+64:Nat):Int)):=dZ (lo e+sh) 64
 have c7:=dZ (lo e+sh+64) (128*(k%2))
 have c8:=dZ (hi e) sh
 refine aj (aH (jH (ds:=os.map aC) (es:=[aC (lo e+sh+64+128*(k%2)),aC (hi e+sh)]) rfl (d8 (by trivial) (by rw[few_eq]; show 2≤_; exact Pw.jE)) ?_)) ?_
 ·rw[ag,few_eq]; simp only[ah,aE]; exact Pw.Nd hk ho
 ·refine aj cU ?_
  rw[aZ]; rfl
theorem vk:∀(es:List Nat) (k:Nat) (os:List Nat) (v w:Var),os.length=2*k→k+es.length<10→
  ∃v' w',eV (.two 6 7) (fun σ=>dU ft (n+20) σ rK) (es.map road) (a::b:: .fro (.int (sh:Nat))::c::d:: .mut (os.map aC)::v::w::rest)=some (.next,a::b:: .fro (.int (sh:Nat))::c::d:: .mut ((os++um sh k es).map aC)::v'::w'::rest):=by
 intro es
 induction es with
 | nil=>
  exact fun k os v w υ υ=>⟨v,w,by rw[CY,List.append_nil]; rfl⟩
 | cons e es ih=>
  intro k os v w ho hk
  rw[ah]at hk
  refine mW (ih (k+1) (os++[lo e+sh+64+128*(k%2),hi e+sh]) (.fro (.int (lo e:Nat))) (.fro (.int (hi e:Nat))) (by rw[ak,ho]; simp only[ah,aE]; exact Pw.Nc) (by exact Pw.BK hk)) fun v' w' hh=>?_
  refine uq v' w' (aj (fb rfl (vj ho (by exact az (aA _ _) (by assumption)) (v:=v) (w:=w))) ?_)
  rw[hh,CX,bo]; rfl
end
noncomputable def fM(sh e:Nat):D:= .list [.int ((hi e+sh:Nat):Int),.int ((lo e+sh:Nat):Int)]
theorem oct1:∀u<63,∀p<2,aO ((u+64+128*p:Nat):Int) 64≠0∧aO ((u+64+128*p:Nat):Int) 63=(u:Nat):=by decide+kernel
theorem oct2:∀v<64,aO ((v:Nat):Int) 64=0∧aO ((v:Nat):Int) 63=(v:Nat):=by decide+kernel
theorem oct3{u v:Nat}(hv:v<64):eo ((u*64:Nat):Int) ((v:Nat):Int)=((u*64+v:Nat):Int):=by
 have hn:∀x:Nat,Builtin.bitNot (Builtin.bitNot (x:Int))=x:=fun x=>by unfold Builtin.bitNot; exact Pw.Fp
 have hd:∀x:Nat,decide (0≤Builtin.bitNot (x:Int))=false:=fun x=>by rw[decide_eq_false_iff_not]; unfold Builtin.bitNot; exact Pw.Nb
 unfold eo aO
 rw[hd,hd]
 dsimp only
 rw[hn,hn,hn,aG,aG]
 have:=Nat.two_pow_add_eq_or_of_lt (i:=6) (b:=v) (by assumption) u
 rw[show u*64=2^6*u from by exact Pw.Na,this]
theorem oct4{m:Nat}(h1:m<4096)(h2:64≤m):i2dN m 6=[m%64,m / 64]∧(bitLen (m:Int)+6-1) / 6≤8:=by
 have e:bitLen (m:Int)=m.log2+1:=by
  unfold bitLen
  rw[if_neg (by exact Pw.M9 h2),aT]
 have a1:6≤m.log2:=(Nat.le_log2 (by exact Pw.Fo h2)).mpr h2
 have a2:m.log2<12:=(Nat.log2_lt (by exact Pw.Fo h2)).mpr h1
 have e2:(m.log2+1+6-1) / 6=2:=by exact Pw.M8 a2 a1
 unfold i2dN
 rw[e,e2]
 refine⟨?_,by decide⟩
 show [m / 2^(6*0)%2^6,m / 2^(6*1)%2^6]=_
 simp only[Nat.mul_zero,Nat.pow_zero,Nat.div_one,eC]
 rw[eF (a:=m / 2^6) (by exact Pw.M7 h1)]
theorem lohi:∀e<10,1≤lo e∧lo e≤4∧hi e≤5:=by decide+kernel
theorem vl{sh:Nat}(hs:sh<59):∀(es:List Nat) (k:Nat),(∀e∈es,e<10)→BU ((um sh k es).map fun(n:Nat)=>(n:Int)) (es.map (fM sh)):=by
 intro es
 induction es with
 | nil=>
  exact fun υ υ=>True.intro
 | cons e es ih=>
  intro k h
  refine lq (lohi e (h e (.head _))) fun h1 h2 h3=>?_
  have ha:=oct1 (lo e+sh) (by exact Pw.M6 hs h2) (k%2) (eN _ (by decide))
  have hb:=oct2 (hi e+sh) (by exact Pw.Fm hs h3)
  have hc:=oct3 (u:=lo e+sh) (v:=hi e+sh) (by exact Pw.Fm hs h3)
  have hd:=oct4 (m:=(lo e+sh)*64+(hi e+sh)) (by exact Pw.Fk hs h2 h3) (by exact Pw.M5 h1)
  refine⟨⟨ha.1,hb.1,?_⟩,ih (k+1) fun q hq=>h q (.tail _ hq)⟩
  rw[ha.2,hb.2]
  have e64:((lo e+sh:Nat):Int)*2^6=(((lo e+sh)*64:Nat):Int):=by rw[b0]; rfl
  rw[e64,hc]
  rw[DB,if_pos]
  ·have e6:(6:Int).toNat=6:=rfl
   rw[aG,e6,hd.1]
   have m1:((lo e+sh)*64+(hi e+sh))%64=hi e+sh:=by lia -abstractProof
   have m2:((lo e+sh)*64+(hi e+sh)) / 64=lo e+sh:=by lia -abstractProof
   rw[m1,m2]; rfl
  ·refine F0 (aN _) ?_ (by decide) (by decide) ?_
   ·rw[aT]
    exact aK (show _<2^12 by exact Pw.Fk hs h2 h3) (aY (by decide) (by decide))
   ·exact hd.2
theorem ft8:ftL 8=some (41,fun ds=>mG.run ftD 40 ds):=rfl
theorem gK:∀(l:List Int),gL (l.map PyData.int)=some l:=by
 intro l
 induction l with
 | nil=>
  exact rfl
 | cons a l ih=>
  exact by rw[aB,sL,ih]; rfl
theorem CL{ft:FT}{n:Nat}{σ:St}:evE ft (n+3) σ (.bin .Pow (.int 10) (.int 30))=some (.int ((10^30:Nat):Int)):=by
 kernel_rfl
theorem vO{script:List Int}(h:script.length≤63):∃v6 v7,dU ftL 150 (.fro (.list (script.map .int))::aq 32 .u0) HM.body=
  some (.next,.fro (.list (script.map .int)):: .fro (rsD (rsOf script)):: .fro (.int (shOf script:Nat)):: .fro (.int (baOf script:Nat)):: .fro (.int (cOf script:Nat)):: .mut ((um (shOf script) 0 (rsOf script)).map aC)::v6::v7::aq 25 .u0):=by
 have hlm:(script.map PyData.int).length<100000:=by rw[ag]; exact Pw.Fq h
 have c0:=iM hlm
 rw[ag]at c0
 have c1:biD .sum [.list (script.map PyData.int)]=some (.int script.sum):=by
  show(gL _).map _=_
  rw[gK]; rfl
 have c2:dO .Mod (.int script.sum) (.int 59)=some (.int (shOf script:Nat)):=by
  have h1:0≤script.sum.fmod 59:=eO _ (by decide)
  unfold shOf
  rw[xo (by decide),Int.toNat_of_nonneg h1]
 have c3:dO .Mod (.int (script.length:Nat)) (.int 8)=some (.int (baOf script:Nat)):=by
  unfold baOf
  rw[xo (by decide)]
  congr 2
  rw[fg _ (by decide)]; exact Pw.M3
 have c4:gj .Gt (.int (script.length:Nat)) (.int 5)=some (decide (5<script.length)):=by
  show some (decide _)=_
  congr 1
  rw[decide_eq_decide]; exact Pw.M2
 refine mW (vk (ft:=ftL) (n:=122) (a:= .fro (.list (script.map .int))) (b:= .fro (rsD (rsOf script))) (c:= .fro (.int (baOf script:Nat))) (d:= .fro (.int (cOf script:Nat))) (rest:=aq 25 .u0) (sh:=shOf script) (rsOf script) 0 [] .u0 .u0 rfl (by rw[(lC script).len]; decide)) fun v6 v7 hh=>?_
 refine uq v6 v7 ?_
 unfold HM
 refine aj (aH (bf (eT ft8 (by decide) (by trivial) (q0 h)))) ?_
 refine aj (aH (bf (by trivial))) ?_
 refine aj (aH (bf (by trivial))) ?_
 refine aj (aH (bf (by trivial))) ?_
 refine aj (aH (σ':= .fro (.list (script.map .int)):: .fro (rsD (rsOf script)):: .fro (.int (shOf script:Nat)):: .fro (.int (baOf script:Nat)):: .fro (.int (cOf script:Nat))::aq 28 .u0) ?_) ?_
 ·refine aj (Gn (by trivial)) ?_
  unfold cOf
  by_cases h5:5<script.length
  ·rw[decide_eq_true h5,if_pos rfl,if_pos h5]
   have d1:idxD (script.map PyData.int) 5=some (.int (script.getD 5 0)):=by
    have:=gM (xs:=script.map PyData.int) (L:=5) (by decide)
    rw[show((5:Nat):Int)=5 from rfl]at this
    rw[this,aW,aR h5,bW,aR h5]; rfl
   have d2:biD .abs [.int (script.getD 5 0)]=some (.int ((script.getD 5 0).natAbs:Nat)):=rfl
   have d3:dO .Mod (.int ((script.getD 5 0).natAbs:Nat)) (.int ((10^30:Nat):Int))=some (.int (((script.getD 5 0).natAbs%10^30:Nat):Int)):=by
    rw[xo (by decide),fg _ (aN _),←Int.natCast_emod]
   have d4:=dZ 1 ((script.getD 5 0).natAbs%10^30)
   refine aj (aH (bf (cm (x:= .int ((1:Nat):Int)) cO (cm (kq (aS (j6 (by trivial) (by trivial) rfl d1) bU) d2) CL d3) d4))) ?_
   exact cU
  ·rw[decide_eq_false h5,if_neg (by decide),if_neg h5]
   exact cU
 refine aj (aH (dX (d8 bU (by decide)))) ?_
 refine aj (aH (aj (fW (items:=(rsOf script).map road) (fe (aF rfl) (by rw[ag,(lC script).len]; decide)) hh) cU)) ?_
 exact cU
theorem sg:∀{l:List D},(∀d∈l,d.canLay0=true)→PyData.canLayAll0 l=true:=by
 intro l
 induction l with
 | nil=>
  exact fun υ=>rfl
 | cons d r ih=>
  exact fun h=>by rw[PyData.canLayAll0,h d (.head _),ih fun x hx=>h x (.tail _ hx)]; rfl
theorem AU{k:Nat}:∀{l:List D},(∀d∈l,d.depth≤k)→PyData.depthAll l≤k:=by
 intro l
 induction l with
 | nil=>
  exact fun υ=>bK _
 | cons d r ih=>
  intro h
  rw[PyData.depthAll]
  have h1:=h d (.head _)
  have h2:=ih fun x hx=>h x (.tail _ hx)
  exact Pw.M1 h1 h2
theorem gH{l:List D}(h1:∀d∈l,d.canLay0=true)(h2:∀d∈l,d.depth≤10):cu (.list l)=true:=by
 unfold cu SeqAt.shaped
 rw[aV,decide_eq_true_iff]
 refine⟨by rw[PyData.canLay0]; exact sg h1,?_⟩
 rw[PyData.depth]
 have:=AU h2
 exact Pw.M0 this
theorem ij(l:List Nat):cu (.list (l.map aC))=true:=by
 refine gH ?_ ?_<;>intro d hd<;>obtain⟨n,_,rfl⟩:=bg.mp hd
 ·rfl
 ·exact bK _
theorem AJ(l:List D):PyData.eqv (.list l) (.list [])=l.isEmpty:=by
 cases l<;>simp[PyData.eqv,PyData.eqvAll]
section
variable {ft:FT}{n:Nat}{σ σm:St}{elt src c:IE}{t:Tg}{own:List String}{free:List Nat}{α:Type}{l:List α}{enc g:α→D}{p:α→Bool}
theorem jI{f:D→Option (List D)}{g:α→List D}:∀{l:List α},(∀a∈l,f (enc a)=some (g a))→eZ f (l.map enc)=some (l.flatMap g):=by
 intro l
 induction l with
 | nil=>
  exact fun υ=>rfl
 | cons x r ih=>
  intro h
  rw[aB,nC,h x (.head _),bC,ih fun y hy=>h y (.tail _ hy)]
  rw[cP]; rfl
theorem wj(g:α→D):∀(l:List α),(l.flatMap fun a=>[g a])=l.map g:=by
 intro l
 induction l with
 | nil=>
  exact rfl
 | cons a r ih=>
  exact by rw[cP,ih]; rfl
theorem nU(p:α→Bool)(g:α→D):∀(l:List α),(l.flatMap fun a=>if p a then [g a] else [])=(l.filter p).map g:=by
 intro l
 induction l with
 | nil=>
  exact rfl
 | cons a r ih=>
  rw[cP,ih,dA]
  cases p a<;>rfl
theorem jL(hs:jF (evE ft n) σ src=some (l.map enc))(hm:mask free σ own.length=σm)(hl:l.length<100000)
  (h:∀a∈l,∃σ',gE t (enc a) σm=some σ'∧evE ft n σ' elt=some (g a)):evE ft (n+1) σ (.comp elt [(t,src,[])] own free)=some (.list (l.map g)):=by
 refine tK ?_
 unfold j8
 dsimp only
 rw[hs,bC,hm,jI (g:=fun a=>[g a])]
 ·rw[bC,wj,if_pos (by rw[ag,few_eq]; exact Pw.jm hl)]
 ·intro a ha
  refine bq (h a ha) fun σ' h1 h2=>?_
  rw[h1,bC]
  show(evE ft n σ' elt).map _=_
  rw[h2]; rfl
theorem fD(hs:jF (evE ft n) σ src=some (l.map enc))(hm:mask free σ own.length=σm)(hl:l.length<100000)
  (h:∀a∈l,∃σ',gE t (enc a) σm=some σ'∧fN ft n σ' c=some (p a)∧(p a=true→evE ft n σ' elt=some (g a))):evE ft (n+1) σ (.comp elt [(t,src,[c])] own free)=some (.list ((l.filter p).map g)):=by
 refine tK ?_
 unfold j8
 dsimp only
 rw[hs,bC,hm,jI (g:=fun a=>if p a then [g a] else [])]
 ·have:=dR p l
  rw[bC,nU,if_pos (by rw[ag,few_eq]; exact Pw.MZ hl this)]
 ·intro a ha
  refine mX (h a ha) fun σ' h1 h2 h3=>?_
  unfold fN at h2
  refine bq (ao.mp h2) fun y hy hy2=>?_
  rw[h1,bC]
  show((evE ft n σ' c).bind _).bind _=_
  rw[hy]
  show((fv y).bind _).bind _=_
  rw[hy2]
  show((if p a then _ else _:Option Bool)).bind _=_
  cases hp:p a with
  | false=>rfl
  | true=>
   show(evE ft n σ' elt).map _=_
   rw[h3 hp]; rfl
end
theorem mq{k:Nat}(h:k<10000):dO .Pow (.int 2) (.int (k:Nat))=some (.int ((2^k:Nat):Int)):=by
 rw[Il ⟨aN _,by exact Pw.EP h,by decide⟩,aG,cW]; rfl
theorem lk{a b:List D}(h:a.length+b.length<100000):dO .Add (.list a) (.list b)=some (.list (a++b)):=by
 exact yk (by rw[few_eq]; exact Pw.jm h)
theorem qB{sh:Nat}(rs:List Nat):gj .NotEq (.list (rs.map (fM sh))) (.list (rs.map (fM sh)))=some false:=by
 have h1:cu (.list (rs.map (fM sh)))=true:=by
  refine gH ?_ ?_<;>intro d hd<;>obtain⟨e,_,rfl⟩:=bg.mp hd
  ·rfl
  ·show PyData.depth (.list [.int _,.int _])≤10
   simp[PyData.depth,PyData.depthAll]
 rw[Ip (by rw[h1]; rfl),SeqAt.eqv_refl]
 ·rfl
 ·rw[PyData.canLay0]
  refine sg fun d hd=>?_
  refine bq (bg.mp hd) fun e υ e21_1=>?_; subst e21_1
  rfl
section
variable {ft:FT}{n:Nat}{x0 x3 x4 x5 x6 x7 x8 x10 x11 x12 x13 x14 x15 x16 x17 x18 x19 x20 x21 x22 x23 x24 x25 x26 x27 x28 x29 x30 x31 x32:Var}{rs:List Nat}{sh:Nat}
theorem yD(hr:rs.length<100):fN ft (n+20) [x0,.fro (rsD rs),.fro (.int (sh:Nat)),x3,x4,x5,x6,x7,x8,.fro (.list (rs.map (fM sh))),x10,x11,x12,x13,x14,x15,x16,x17,x18,x19,x20,x21,x22,x23,x24,x25,x26,x27,x28,x29,x30,x31,x32]
  (.cmp .NotEq (.var 9) (.comp (.list [.bin .Add (.var 34) (.var 2),.bin .Add (.var 33) (.var 2)]) [(.two 33 34,.var 1,[])] ["low","high"] [2]))=some false:=by
 refine fF (ei (aF rfl) (jL (l:=rs) (enc:=road) (g:=fM sh) (fe (aF rfl) (by rw[ag]; exact Pw.xr hr)) rfl (by exact Pw.xr hr) fun e υ=>⟨_,rfl,?_⟩) (qB rs)) rfl
 have c1:=dZ (hi e) sh
 have c2:=dZ (lo e) sh
 refine d8 (ds:=[.int ((hi e+sh:Nat):Int),.int ((lo e+sh:Nat):Int)]) (by trivial) (by rw[few_eq]; show 2≤_; exact Pw.jE)
end
noncomputable def mU(p:Nat×List Nat):D:= .tuple [aC p.1,.list (p.2.map aC)]
noncomputable def my(sh k e:Nat)(p:Nat×List Nat):Nat×List Nat:=(p.1+2^k,p.2++[hi e+sh,lo e+sh])
noncomputable def gZ(sh:Nat):Nat→List Nat→List (Nat×List Nat)→List (Nat×List Nat)
 | _,[],ns=>ns
 | k,e::es,ns=>gZ sh (k+1) es (ns++ns.map (my sh k e))
theorem zC{sh:Nat}{u1 ns}:gZ sh u1 [] ns=(ns):=rfl
theorem lH{sh:Nat}{k e es ns}:gZ sh k (e::es) ns=(gZ sh (k+1) es (ns++ns.map (my sh k e))):=rfl
noncomputable def rU:List IS:=[.assign 10 (.bin .Add (.var 10) (.comp (.tup [.bin .Add (.var 33) (.bin .Pow (.int 2) (.var 11)),.bin .Add (.var 34) (.idx (.var 9) (.var 11))]) [(.two 33 34,.var 10,[])] ["bits","ends"] [9,11]))]
theorem xM{ft:FT}{n:Nat}{σ:St}:jF (evE ft (n+5)) σ (.bi .range [.int 5])=some ((bT 0 5).map aC):=by
 have:([IE.int 5]:List IE).mapM (evE ft (n+5) σ)=some [.int 5]:=aS cO bU
 refine ob1 this ((nk (by rw[few_eq]; decide)).trans ?_)
 rfl
section
variable {ft:FT}{n:Nat}{x0 x1 x2 x3 x4 x5 x6 x7 x8 x12 x13 x14 x15 x16 x17 x18 x19 x20 x21 x22 x23 x24 x25 x26 x27 x28 x29 x30 x31 x32:Var}{all:List Nat}{sh k:Nat}
theorem vu{e:Nat}{ns:List (Nat×List Nat)}(he:all[k]? =some e)(hk:k<10)(hn:ns.length≤100)(hm:∀p∈ns,p.2.length≤100):
  dU ft (n+30) [x0,x1,x2,x3,x4,x5,x6,x7,x8,.fro (.list (all.map (fM sh))),.fro (.list (ns.map mU)),.fro (aC k),x12,x13,x14,x15,x16,x17,x18,x19,x20,x21,x22,x23,x24,x25,x26,x27,x28,x29,x30,x31,x32] rU=
  some (.next,[x0,x1,x2,x3,x4,x5,x6,x7,x8,.fro (.list (all.map (fM sh))),.fro (.list ((ns++ns.map (my sh k e)).map mU)),.fro (aC k),x12,x13,x14,x15,x16,x17,x18,x19,x20,x21,x22,x23,x24,x25,x26,x27,x28,x29,x30,x31,x32]):=by
 have c:evE ft (n+27) [x0,x1,x2,x3,x4,x5,x6,x7,x8,.fro (.list (all.map (fM sh))),.fro (.list (ns.map mU)),.fro (aC k),x12,x13,x14,x15,x16,x17,x18,x19,x20,x21,x22,x23,x24,x25,x26,x27,x28,x29,x30,x31,x32] (.comp (.tup [.bin .Add (.var 33) (.bin .Pow (.int 2) (.var 11)),.bin .Add (.var 34) (.idx (.var 9) (.var 11))]) [(.two 33 34,.var 10,[])] ["bits","ends"] [9,11])=some (.list (ns.map fun p=>mU (my sh k e p))):=by
  refine jL (l:=ns) (enc:=mU) (fe (aF rfl) (by rw[ag]; exact Pw.xt hn)) (σm:=[.u0,.u0,.u0,.u0,.u0,.u0,.u0,.u0,.u0,.fro (.list (all.map (fM sh))),.u0,.fro (aC k),.u0,.u0,.u0,.u0,.u0,.u0,.u0,.u0,.u0,.u0,.u0,.u0,.u0,.u0,.u0,.u0,.u0,.u0,.u0,.u0,.u0,.u0,.u0]) rfl (by exact az (by assumption) (by decide)) fun p hp=>⟨[.u0,.u0,.u0,.u0,.u0,.u0,.u0,.u0,.u0,.fro (.list (all.map (fM sh))),.u0,.fro (aC k),.u0,.u0,.u0,.u0,.u0,.u0,.u0,.u0,.u0,.u0,.u0,.u0,.u0,.u0,.u0,.u0,.u0,.u0,.u0,.u0,.u0,.fro (aC p.1),.fro (.list (p.2.map aC))],rfl,?_⟩
  have c1:=mq (k:=k) (by exact af (by assumption) (by decide))
  have c2:=dZ p.1 (2^k)
  have c3:idxD (all.map (fM sh)) (k:Nat)=some (fM sh e):=by rw[gM (by exact af (by assumption) (by decide)),aW,he]; rfl
  have c4:=lk (a:=p.2.map aC) (b:=[aC (hi e+sh),aC (lo e+sh)]) (by rw[ag]; have:=hm p hp; simp only[ah,aE]; exact Pw.Ma this)
  refine lR (ds:=[aC (p.1+2^k),.list (p.2.map aC++[aC (hi e+sh),aC (lo e+sh)])]) ?_ (by rw[few_eq]; show 2≤_; exact Pw.jE) |>.trans ?_
  ·refine aS (cm (aF rfl) (cm cO (aF rfl) c1) c2) (aS (cm (aF rfl) (j6 (aF rfl) (aF rfl) rfl c3) c4) bU)
  ·unfold mU my
   rw[aZ]; rfl
 have c5:=lk (a:=ns.map mU) (b:=ns.map fun p=>mU (my sh k e p)) (by rw[ag,ag]; exact Pw.L4 hn)
 refine aj (aH (bf (cm (aF rfl) c c5))) ?_
 rw[aZ,bw]
 exact cU
theorem vx:∀(es:List Nat) (k:Nat) (ns:List (Nat×List Nat)) (v:Var),all.drop k=es→k+es.length≤5→ns.length≤2^k→(∀p∈ns,p.2.length≤2*k)→
  ∃v',eV (.one 11) (fun σ=>dU ft (n+30) σ rU) ((bT k es.length).map aC) [x0,x1,x2,x3,x4,x5,x6,x7,x8,.fro (.list (all.map (fM sh))),.fro (.list (ns.map mU)),v,x12,x13,x14,x15,x16,x17,x18,x19,x20,x21,x22,x23,x24,x25,x26,x27,x28,x29,x30,x31,x32]=
  some (.next,[x0,x1,x2,x3,x4,x5,x6,x7,x8,.fro (.list (all.map (fM sh))),.fro (.list ((gZ sh k es ns).map mU)),v',x12,x13,x14,x15,x16,x17,x18,x19,x20,x21,x22,x23,x24,x25,x26,x27,x28,x29,x30,x31,x32]):=by
 intro es
 induction es with
 | nil=>
  exact fun k ns v υ υ υ υ=>⟨v,rfl⟩
 | cons e es ih=>
  intro k ns v hd hk hn hm
  rw[ah]at hk
  have hp:(2:Nat)^k≤2^4:=aY (by decide) (by exact Pw.Fe hk)
  have he:all[k]? =some e:=by
   have:=congrArg List.head? hd
   rwa[List.head?_drop]at this
  obtain⟨v',hh⟩:=ih (k+1) (ns++ns.map (my sh k e)) (.fro (aC k)) (by rw[←List.tail_drop,hd]; rfl) (by exact Pw.oy hk) (by rw[ak,ag,cC]; exact Pw.L0 hn) (by
   intro p hp
   rcases dm.mp hp with h | h
   ·have:=hm p h; exact Pw.LZ this
   ·refine bq (bg.mp h) fun q hq e69_1=>?_; subst e69_1
    have:=hm q hq
    unfold my
    simp only[ak,ah,aE]; exact Pw.LY this)
  refine⟨v',?_⟩
  rw[ah,dw,aB]
  refine aj (fb rfl (vu he (by exact Pw.LX hk) (by exact Pw.LW hp hn) (fun p hp=>by have:=hm p hp; exact Pw.LV hk this))) ?_
  rw[hh,lH]
end
noncomputable def mm(p:Nat×List Nat):Bool:=decide (0<p.1)&&(p.2.filter fun t=>decide (p.2.count t≠2)).isEmpty
theorem qi(l:List Nat)(t:Nat):List.count (t:Int) (l.map fun(n:Nat)=>(n:Int))=l.count t:=by
 induction l with
 | nil=>rfl
 | cons a r ih=>
  rw[aB,List.count_cons,List.count_cons,ih]
  congr 1
  by_cases h:a=t
  ·simp[h]
  ·have:¬((a:Int)=t):=by exact Pw.LU h
   simp[h,this]
theorem gz(l:List Nat):l.map aC=(l.map fun(n:Nat)=>(n:Int)).map PyData.int:=by rw[bw]; rfl
theorem A6{l:List Nat}{t:Nat}(h:l.length<1000):mtD .count (.list (l.map aC)) [aC t]=some (aC (l.count t)):=by
 rw[gz]
 show(gL _).bind _=_
 rw[gK,bC,if_pos (by rw[ag,few_eq]; exact Pw.LS h),qi]; rfl
theorem nX{l:List D}(h1:∀d∈l,d.canLay0=true)(h2:∀d∈l,d.depth≤10):gj .Eq (.list l) (.list [])=some l.isEmpty:=by
 rw[Iv (by rw[gH h1 h2]; rfl),AJ]
section
variable {ft:FT}{n:Nat}{x0 x1 x2 x3 x4 x5 x6 x7 x8 x9 x11 x12 x13 x14 x15 x16 x17 x18 x19 x20 x21 x22 x23 x24 x25 x26 x27 x28 x29 x30 x31 x32:Var}{ns:List (Nat×List Nat)}
theorem uX(hn:ns.length≤100)(hm:∀p∈ns,p.2.length≤100):
  evE ft (n+30) [x0,x1,x2,x3,x4,x5,x6,x7,x8,x9,.fro (.list (ns.map mU)),x11,x12,x13,x14,x15,x16,x17,x18,x19,x20,x21,x22,x23,x24,x25,x26,x27,x28,x29,x30,x31,x32] (.comp (.var 33) [(.two 33 34,.var 10,[.and (.cmp .Gt (.var 33) (.int 0)) (.cmp .Eq (.comp (.var 35) [(.one 35,.var 34,[.cmp .NotEq (.mt .count (.var 34) [.var 35]) (.int 2)])] ["town"] [34]) (.list []))])] ["bits","ends"] [])=some (.list (((ns.filter mm).map Prod.fst).map aC)):=by
 rw[bw]
 refine fD (l:=ns) (enc:=mU) (p:=mm) (g:=fun p=>aC p.1) (fe (aF rfl) (by rw[ag]; exact Pw.xt hn)) (σm:=[.u0,.u0,.u0,.u0,.u0,.u0,.u0,.u0,.u0,.u0,.u0,.u0,.u0,.u0,.u0,.u0,.u0,.u0,.u0,.u0,.u0,.u0,.u0,.u0,.u0,.u0,.u0,.u0,.u0,.u0,.u0,.u0,.u0,.u0,.u0]) rfl (by exact az (by assumption) (by decide)) fun p hp=>⟨[.u0,.u0,.u0,.u0,.u0,.u0,.u0,.u0,.u0,.u0,.u0,.u0,.u0,.u0,.u0,.u0,.u0,.u0,.u0,.u0,.u0,.u0,.u0,.u0,.u0,.u0,.u0,.u0,.u0,.u0,.u0,.u0,.u0,.fro (aC p.1),.fro (.list (p.2.map aC))],rfl,?_,fun υ=>aF rfl⟩
 have hl:=hm p hp
 have c1:gj .Gt (aC p.1) (.int 0)=some (decide (0<p.1)):=by
  show some (decide _)=_
  congr 1
  rw[decide_eq_decide]; exact Pw.LR
 unfold mm
 by_cases h0:0<p.1
 ·rw[decide_eq_true h0]at c1⊢
  rw[Bool.true_and]
  refine fF (yd (ei (aF rfl) cO c1) (ei (fD (l:=p.2) (enc:=aC) (p:=fun t=>decide (p.2.count t≠2)) (g:=aC) (fe (aF rfl) (by rw[ag]; exact Pw.xt hl)) (σm:=[.u0,.u0,.u0,.u0,.u0,.u0,.u0,.u0,.u0,.u0,.u0,.u0,.u0,.u0,.u0,.u0,.u0,.u0,.u0,.u0,.u0,.u0,.u0,.u0,.u0,.u0,.u0,.u0,.u0,.u0,.u0,.u0,.u0,.u0,.fro (.list (p.2.map aC)),.u0]) rfl (by exact az (by assumption) (by decide)) fun t ht=>⟨[.u0,.u0,.u0,.u0,.u0,.u0,.u0,.u0,.u0,.u0,.u0,.u0,.u0,.u0,.u0,.u0,.u0,.u0,.u0,.u0,.u0,.u0,.u0,.u0,.u0,.u0,.u0,.u0,.u0,.u0,.u0,.u0,.u0,.u0,.fro (.list (p.2.map aC)),.fro (aC t)],rfl,?_,fun υ=>aF rfl⟩) (d8 bU (by decide)) (nX (l:=(p.2.filter fun t=>decide (p.2.count t≠2)).map aC) ?_ ?_))) ?_
  ·have c2:=A6 (l:=p.2) (t:=t) (by exact az (by assumption) (by decide))
   have c3:gj .NotEq (aC (p.2.count t)) (.int 2)=some (decide (p.2.count t≠2)):=by
    show some (_ !=_)=_
    congr 1
    rw[bJ,bne_iff_ne,decide_eq_true_iff]
    exact Pw.LQ
   exact fF (ei (qt (aF rfl) (aS (aF rfl) bU) c2) cO c3) rfl
  ·intro d hd
   refine bq (bg.mp hd) fun t υ e29_1=>?_; subst e29_1
   rfl
  ·intro d hd
   refine bq (bg.mp hd) fun t υ e32_1=>?_; subst e32_1
   exact bK _
  ·rw[List.isEmpty_map]; rfl
 ·rw[decide_eq_false h0]at c1⊢
  rw[Bool.false_and]
  exact fF (D5 (ei (aF rfl) cO c1)) rfl
end
theorem ft13:ftL 13=some (61,fun ds=>mF.run ftB 60 ds):=rfl
theorem ft0L:ftL 0=some (41,fun ds=>AI.run ftA 40 ds):=rfl
theorem ftB6:∃ft',ftB 6=some (41,fun ds=>DU.run ft' 40 ds):=⟨ftAdd (ftAdd ftA 0 40 AI) 1 20 B0,rfl⟩
noncomputable def rem(r:Nat):Nat:=r-2^r.log2
noncomputable def brD(b m:Nat):D:= .str (mkS (brL (bitsB m b)))
theorem gG{a b:Nat}(h:b≤a):dO .Sub (.int (a:Nat)) (.int (b:Nat))=some (.int ((a-b:Nat):Int)):=by
 show some (PyData.int _)=_
 congr 2; exact Pw.LP h
theorem Es{r:Nat}(h:0<r):mtD .bitLength (aC r) []=some (.int ((r.log2+1:Nat):Int)):=by
 show some (PyData.int (bitLen (r:Int)))=_
 unfold bitLen
 rw[if_neg (by exact Pw.B4 h),aT]
theorem Ce{x y:List Nat}(h:x.length+y.length<100000):dO .Add (.str (mkS x)) (.str (mkS y))=some (.str (mkS (x++y))):=by
 rw[EM (by rw[bO,bO,few_eq]; exact Pw.jm h),jd]
noncomputable def t5:List IS:=[.assign 15 (.call 13 [.bin .Sub (.var 14) (.bin .Pow (.int 2) (.bin .Sub (.mt .bitLength (.var 14) []) (.int 1))),.var 3]),.append 13 (.bin .Add (.bin .Add (.str "...") (.mt .replace (.var 15) [.str ", ",.str ",... "])) (.str "..."))]
section
variable {n b:Nat}{x0 x1 x2 x4 x5 x6 x7 x8 x9 x10 x11 x12 x16 x17 x18 x19 x20 x21 x22 x23 x24 x25 x26 x27 x28 x29 x30 x31 x32:Var}
theorem xf{r:Nat}{ds:List D}{x15:Var}(hb:b<8)(h0:0<r)(h1:r<32)(h2:0<rem r)(h3:rem r<16)(hd:ds.length<1000):
  dU ftL (n+80) [x0,x1,x2,.fro (aC b),x4,x5,x6,x7,x8,x9,x10,x11,x12,.mut ds,.fro (aC r),x15,x16,x17,x18,x19,x20,x21,x22,x23,x24,x25,x26,x27,x28,x29,x30,x31,x32] t5=some (.next,[x0,x1,x2,.fro (aC b),x4,x5,x6,x7,x8,x9,x10,x11,x12,.mut (ds++[brD b (rem r)]),.fro (aC r),.fro (.str (mkS (wd (bitsB (rem r) b)))),x16,x17,x18,x19,x20,x21,x22,x23,x24,x25,x26,x27,x28,x29,x30,x31,x32]):=by
 have hl:2^r.log2≤r:=Nat.log2_self_le (by exact Nat.ne_of_gt (by assumption))
 have hg:r.log2<100:=by
  have:=(Nat.log2_lt (by exact Pw.IK h0:r≠0)).mpr (show r<2^100 from aK h1 (by decide))
  exact this
 have c1:=Es h0
 have c2:dO .Sub (.int ((r.log2+1:Nat):Int)) (.int 1)=some (.int (r.log2:Nat)):=gG (a:=r.log2+1) (b:=1) (by exact br _)
 have c3:=mq (k:=r.log2) (by exact af (by assumption) (by decide))
 have c4:dO .Sub (aC r) (.int ((2^r.log2:Nat):Int))=some (aC (rem r)):=gG hl
 have hO:=oq h3 h2 hb
 have hw:=mZ (m:=rem r) hb
 have e1:aa ", "=mkS [44,32]:=fL _
 have e2:aa ",... "=mkS [44,46,46,46,32]:=fL _
 have e3:aa "..."=mkS lZ:=fL _
 have c5:mtD .replace (.str (mkS (wd (bitsB (rem r) b)))) [.str (aa ", "),.str (aa ",... ")]=some (.str (mkS (uk (wd (bitsB (rem r) b)) [44,32] [44,46,46,46,32]))):=by
  rw[e1,e2,EB,CH _ _ _ (by decide)]
  refine ur (by exact af (by assumption) (by decide)) (by decide) (fun h=>?_)
  have:=zM h
  cases this
 have c6:dO .Add (.str (aa "...")) (.str (mkS (uk (wd (bitsB (rem r) b)) [44,32] [44,46,46,46,32])))=some (.str (mkS (lZ++uk (wd (bitsB (rem r) b)) [44,32] [44,46,46,46,32]))):=by
  rw[e3]
  exact Ce (by have:=hO.h8; show 3+_<_; exact Pw.LN this)
 have c7:dO .Add (.str (mkS (lZ++uk (wd (bitsB (rem r) b)) [44,32] [44,46,46,46,32]))) (.str (aa "..."))=some (brD b (rem r)):=by
  rw[e3,Ce (by rw[ak]; have:=hO.h8; show 3+_+3<_; exact Pw.LM this),hO.h7]; rfl
 refine aj (aH (bf (eT ft13 (by exact ar _ _) (aS (cm (aF rfl) (cm cO (cm (qt (aF rfl) bU c1) cO c2) c3) c4) (aS (aF rfl) bU)) (l6 ftB6 (by exact Pw.LL h3:rem r<32) h2 hb)))) ?_
 refine aj (aH (gI rfl (cm (cm ji (qt (aF rfl) (aS ji (aS ji bU)) c5) c6) ji c7) (by rw[few_eq]; exact Pw.BL hd))) ?_
 exact cU
theorem xg(hb:b<8):∀(rs:List Nat) (ms:List Nat) (v w:Var),(∀r∈rs,0<r∧r<32∧0<rem r∧rem r<16)→ms.length+rs.length<100→
  ∃v' w',eV (.one 14) (fun σ=>dU ftL (n+80) σ t5) (rs.map aC) [x0,x1,x2,.fro (aC b),x4,x5,x6,x7,x8,x9,x10,x11,x12,.mut (ms.map (brD b)),v,w,x16,x17,x18,x19,x20,x21,x22,x23,x24,x25,x26,x27,x28,x29,x30,x31,x32]=some (.next,[x0,x1,x2,.fro (aC b),x4,x5,x6,x7,x8,x9,x10,x11,x12,.mut ((ms++rs.map rem).map (brD b)),v',w',x16,x17,x18,x19,x20,x21,x22,x23,x24,x25,x26,x27,x28,x29,x30,x31,x32]):=by
 intro rs
 induction rs with
 | nil=>
  exact fun ms v w υ υ=>⟨v,w,by rw[show ms++([]:List Nat).map rem=ms from by simp]; rfl⟩
 | cons r rs ih=>
  intro ms v w h hl
  rw[ah]at hl
  refine FR (h r (.head _)) fun h0 h1 h2 h3=>?_
  refine mW (ih (ms++[rem r]) (.fro (aC r)) (.fro (.str (mkS (wd (bitsB (rem r) b))))) (fun q hq=>h q (.tail _ hq)) (by rw[ak]; simp only[ah,aE]; exact Pw.BK hl)) fun v' w' hh=>?_
  refine uq v' w' ?_
  rw[aB]
  refine aj (fb rfl (xf (x15:=w) hb h0 h1 h2 h3 (by rw[ag]; exact Pw.LK hl))) ?_
  rw[aZ,bo]at hh
  exact hh
end
theorem oz(b i:Nat):∀r:List Nat,after (i+b) (r.map (·+b))=(after i r).map fun l=>l.map (·+b):=by
 intro r
 induction r with
 | nil=>
  exact rfl
 | cons j r ih=>
  rw[aB,lY,lY,ih]
  by_cases h:i=j
  ·rw[if_pos h,if_pos (by exact Pw.LH h)]; rfl
  ·rw[if_neg h,if_neg (by exact Pw.LG h)]
theorem m8(b:Nat):∀js r:List Nat,subGo (js.map (·+b)) (r.map (·+b))=subGo js r:=by
 intro js
 induction js with
 | nil=>
  exact fun υ=>rfl
 | cons j js ih=>
  intro r
  rw[aB,m9,m9,oz]
  cases after j r with
  | none=>rfl
  | some r2=>exact ih r2
noncomputable def badP(brs:List Nat)(nb:Nat):Bool:=brs.any fun m=>subGo (f7 m) (f7 nb)
noncomputable def f5(brs:List Nat)(k:Nat):List Nat→List Nat×List Nat→List Nat×List Nat
 | [],s=>s
 | x::xs,s=>if badP brs (x+2^k) then f5 brs k xs s else f5 brs k xs (s.1++[x+2^k],s.2++(aq (f7 (x+2^k)).length 32++[9]))
theorem oY{brs:List Nat}{k:Nat}{x xs s}:f5 brs k (x::xs) s=(if badP brs (x+2^k) then f5 brs k xs s else f5 brs k xs (s.1++[x+2^k],s.2++(aq (f7 (x+2^k)).length 32++[9]))):=rfl
noncomputable def su(brs:List Nat):Nat→Nat→List Nat×List Nat→List Nat×List Nat
 | 0,_,s=>s
 | n+1,k,s=>su brs n (k+1) (f5 brs k s.1 s)
theorem tT:∀m<32,∀b<8,(occL (wd (bitsB m b)) [44] ((wd (bitsB m b)).length+1)).length=(f7 m).length:=by decide+kernel
theorem C5:∀n<6,Txt.mul (mkS [32]) ((n:Nat):Int)=mkS (aq n 32):=Pw.ltS rfl (Pw.ltS rfl (Pw.ltS rfl (Pw.ltS rfl (Pw.ltS rfl (Pw.ltS rfl Pw.lt0)))))
noncomputable def sQ:List IS:=[.assign 15 (.call 13 [.bin .Add (.var 18) (.bin .Pow (.int 2) (.var 11)),.var 3]),.frz 13,.ife (.cmp .Eq (.comp (.var 33) [(.one 33,.var 13,[.call 0 [.var 33,.var 15]])] ["one"] [15]) (.list [])) [.append 16 (.bin .Add (.var 18) (.bin .Pow (.int 2) (.var 11))),.assign 17 (.bin .Add (.bin .Add (.var 17) (.bin .Mult (.str " ") (.mt .count (.var 15) [.str ","]))) (.str "\t"))] []]
theorem Bp{b m:Nat}(hb:b<8)(h1:m<16)(h0:0<m):(brD b m).canLay0=true:=by
 have:=(oq h1 h0 hb).h2
 show PySem.PyData.canLay0 (.str _)=true
 unfold PyData.canLay0 PyData.strOk mkS
 rw[List.all_toArray,bh]
 intro c hc
 have:=bh.mp this c hc
 simp only[decide_eq_true_eq]at this⊢
 exact Pw.LF this
theorem tZ(brs:List Nat)(p:Nat→Bool)(f:Nat→D):((brs.filter p).map f).isEmpty= !brs.any p:=by
 rw[List.isEmpty_map]
 induction brs with
 | nil=>rfl
 | cons a r ih=>
  rw[dA,List.any_cons]
  cases p a
  ·rw[if_neg (by decide),ih]; rfl
  ·rfl
section
variable {n b k:Nat}{x0 x1 x2 x4 x5 x6 x7 x8 x9 x10 x12 x14 x19 x20 x21 x22 x23 x24 x25 x26 x27 x28 x29 x30 x31 x32:Var}{brs kept lead:List Nat}
theorem zZ{x:Nat}{x15 v13:Var}(hb:b<8)(hk:k<5)(hx:x+2^k<32)(hbr:∀m∈brs,m<16∧0<m)(hl:brs.length<100)(h13:v13= .mut (brs.map (brD b))∨v13= .fro (.list (brs.map (brD b))))(hkl:kept.length<1000)(hll:lead.length<10000):
  dU ftL (n+80) [x0,x1,x2,.fro (aC b),x4,x5,x6,x7,x8,x9,x10,.fro (aC k),x12,v13,x14,x15,.mut (kept.map aC),.fro (.str (mkS lead)),.fro (aC x),x19,x20,x21,x22,x23,x24,x25,x26,x27,x28,x29,x30,x31,x32] sQ=
  some (.next,[x0,x1,x2,.fro (aC b),x4,x5,x6,x7,x8,x9,x10,.fro (aC k),x12,.fro (.list (brs.map (brD b))),x14,.fro (.str (mkS (wd (bitsB (x+2^k) b)))),.mut ((if badP brs (x+2^k) then kept else kept++[x+2^k]).map aC),.fro (.str (mkS (if badP brs (x+2^k) then lead else lead++(aq (f7 (x+2^k)).length 32++[9])))),.fro (aC x),x19,x20,x21,x22,x23,x24,x25,x26,x27,x28,x29,x30,x31,x32]):=by
 have hp:0<2^k:=dp k
 have c1:=mq (k:=k) (by exact Pw.LC hk)
 have c2:dO .Add (aC x) (.int ((2^k:Nat):Int))=some (aC (x+2^k)):=dZ x (2^k)
 have cw:=l6 ftB6 hx (by exact Pw.LB hp) hb
 generalize hnb:x+2^k=nb at*
 have hw:=mZ (m:=nb) hb
 refine aj (aH (bf (eT ft13 (by exact Pw.LA) (aS (cm (aF rfl) (cm cO (aF rfl) c1) c2) (aS (aF rfl) bU)) cw))) ?_
 refine aj (aH (σ':=[x0,x1,x2,.fro (aC b),x4,x5,x6,x7,x8,x9,x10,.fro (aC k),x12,.fro (.list (brs.map (brD b))),x14,.fro (.str (mkS (wd (bitsB nb b)))),.mut (kept.map aC),.fro (.str (mkS lead)),.fro (aC x),x19,x20,x21,x22,x23,x24,x25,x26,x27,x28,x29,x30,x31,x32]) ?_) ?_
 ·rcases h13 with h | h
  ·subst h; exact pP rfl
  ·subst h; rfl
 have cc:evE ftL (n+75) [x0,x1,x2,.fro (aC b),x4,x5,x6,x7,x8,x9,x10,.fro (aC k),x12,.fro (.list (brs.map (brD b))),x14,.fro (.str (mkS (wd (bitsB nb b)))),.mut (kept.map aC),.fro (.str (mkS lead)),.fro (aC x),x19,x20,x21,x22,x23,x24,x25,x26,x27,x28,x29,x30,x31,x32] (.comp (.var 33) [(.one 33,.var 13,[.call 0 [.var 33,.var 15]])] ["one"] [15])=some (.list ((brs.filter fun m=>subGo (f7 m) (f7 nb)).map (brD b))):=by
  refine fD (l:=brs) (enc:=brD b) (fe (aF rfl) (by rw[ag]; exact Pw.xr hl)) (σm:=[.u0,.u0,.u0,.u0,.u0,.u0,.u0,.u0,.u0,.u0,.u0,.u0,.u0,.u0,.u0,.fro (.str (mkS (wd (bitsB nb b)))),.u0,.u0,.u0,.u0,.u0,.u0,.u0,.u0,.u0,.u0,.u0,.u0,.u0,.u0,.u0,.u0,.u0,.u0]) rfl (by exact Pw.xr hl) fun m hm=>⟨[.u0,.u0,.u0,.u0,.u0,.u0,.u0,.u0,.u0,.u0,.u0,.u0,.u0,.u0,.u0,.fro (.str (mkS (wd (bitsB nb b)))),.u0,.u0,.u0,.u0,.u0,.u0,.u0,.u0,.u0,.u0,.u0,.u0,.u0,.u0,.u0,.u0,.u0,.fro (brD b m)],rfl,?_,fun υ=>aF rfl⟩
  refine fu (hbr m hm) fun q1 q2=>?_
  have:=AM (ft:=ftA) q1 q2 hb (fun j hj=>lV (m:=nb) hb hj) hw
  unfold bitsB at this
  rw[m8]at this
  exact fF (eT ft0L (by exact Pw.Lz) (aS (aF rfl) (aS (aF rfl) bU)) this) rfl
 have ce:=nX (l:=(brs.filter fun m=>subGo (f7 m) (f7 nb)).map (brD b)) (by
  intro d hd
  refine bq (bg.mp hd) fun m hm e3_1=>?_; subst e3_1
  refine fu (hbr m (List.mem_filter.mp hm).1) fun q1 q2=>?_
  exact Bp hb q1 q2) (by
  intro d hd
  refine bq (bg.mp hd) fun m hm e7_1=>?_; subst e7_1
  exact bK _)
 rw[tZ]at ce
 have ht:=fF (n:=n+76) (ei cc (d8 bU (by decide)) ce) rfl
 change _=some (!badP brs nb) at ht
 cases hbad:badP brs nb with
 | true=>
  rw[hbad]at ht
  refine aj (aH (aj (fV ht) cU)) ?_
  rfl
 | false=>
  rw[hbad]at ht
  have hn5:=gV nb
  have d1:mtD .count (.str (mkS (wd (bitsB nb b)))) [.str (aa ",")]=some (.int ((f7 nb).length:Nat)):=by
   rw[fL,EL (by rw[bO,few_eq]; exact Pw.BR hw),show(",".toList.map Char.toNat)=[44] from rfl,wU,tT nb hx b hb]
  have d2:dO .Mult (.str (aa " ")) (.int ((f7 nb).length:Nat))=some (.str (mkS (aq (f7 nb).length 32))):=by
   rw[fL,EC ⟨by exact Pw.Ly hn5,by rw[bO]; decide,by exact Pw.aq90⟩]
   rw[show(" ".toList.map Char.toNat)=[32] from rfl,C5 _ (by exact Pw.Lx hn5)]
  have d3:=Ce (x:=lead) (y:=aq (f7 nb).length 32) (by rw[bG]; exact Pw.Lw hll hn5)
  have d4:dO .Add (.str (mkS (lead++aq (f7 nb).length 32))) (.str (aa "\t"))=some (.str (mkS (lead++(aq (f7 nb).length 32++[9])))):=by
   rw[fL,show("\t".toList.map Char.toNat)=[9] from rfl,Ce (by rw[ak,bG]; simp only[ah,aE]; exact Pw.Lv hll hn5),bo]
  refine aj (aH (aj (jC ht) ?_)) cU
  refine aj (aH (gI rfl (cm (aF rfl) (cm cO (aF rfl) c1) c2) (by rw[ag,few_eq]; exact Pw.BL hkl))) ?_
  refine aj (aH (bf (cm (cm (aF rfl) (cm ji (qt (aF rfl) (aS ji bU) d1) d2) d3) ji d4))) ?_
  rw[if_neg (by decide),if_neg (by decide),aZ]
  exact cU
end
theorem p8(brs:List Nat)(k B:Nat):∀(xs:List Nat) (s:List Nat×List Nat),(∀x∈xs,x+2^k<B)→(∀y∈s.1,y<B)→
  (∀y∈(f5 brs k xs s).1,y<B)∧(f5 brs k xs s).1.length≤s.1.length+xs.length∧(f5 brs k xs s).2.length≤s.2.length+6*xs.length:=by
 intro xs
 induction xs with
 | nil=>
  exact fun s υ h2=>⟨h2,bL _,bL _⟩
 | cons x xs ih=>
  intro s h1 h2
  have hx:=h1 x (.head _)
  rw[oY]
  cases badP brs (x+2^k) with
  | true=>
   refine lq (ih s (fun y hy=>h1 y (.tail _ hy)) h2) fun a b c=>?_
   rw[if_pos rfl]
   refine⟨a,?_,?_⟩<;>rw[ah]<;>(first | exact Pw.Lu b | exact Pw.Ls c)
  | false=>
   have h5:=gV (x+2^k)
   obtain⟨a,b,c⟩:=ih (s.1++[x+2^k],s.2++(aq (f7 (x+2^k)).length 32++[9])) (fun y hy=>h1 y (.tail _ hy)) (by
    intro y hy
    rcases dm.mp hy with h | h
    ·exact h2 y h
    ·rw[ay]at h; exact Pw.Lr hx h)
   rw[if_neg (by decide)]
   simp only[ak,bG,ah,aE]at b c⊢
   refine ur a (by exact Pw.BP b) (by exact Pw.Lq c h5)
noncomputable def zi:List IS:=[.fore (.one 18) (.bi .lst [.bor 16]) sQ []]
section
variable {n b k:Nat}{x0 x1 x2 x4 x5 x6 x7 x8 x9 x10 x12 x14 x19 x20 x21 x22 x23 x24 x25 x26 x27 x28 x29 x30 x31 x32:Var}{brs:List Nat}
theorem Aa(hb:b<8)(hk:k<5)(hbr:∀m∈brs,m<16∧0<m)(hl:brs.length<100):∀(xs kept lead:List Nat) (v13 v15 v18:Var),(∀x∈xs,x+2^k<32)→(v13= .mut (brs.map (brD b))∨v13= .fro (.list (brs.map (brD b))))→kept.length+xs.length<1000→lead.length+6*xs.length<10000→
  ∃w13 w15 w18,(w13= .mut (brs.map (brD b))∨w13= .fro (.list (brs.map (brD b))))∧
  eV (.one 18) (fun σ=>dU ftL (n+80) σ sQ) (xs.map aC) [x0,x1,x2,.fro (aC b),x4,x5,x6,x7,x8,x9,x10,.fro (aC k),x12,v13,x14,v15,.mut (kept.map aC),.fro (.str (mkS lead)),v18,x19,x20,x21,x22,x23,x24,x25,x26,x27,x28,x29,x30,x31,x32]=
  some (.next,[x0,x1,x2,.fro (aC b),x4,x5,x6,x7,x8,x9,x10,.fro (aC k),x12,w13,x14,w15,.mut ((f5 brs k xs (kept,lead)).1.map aC),.fro (.str (mkS (f5 brs k xs (kept,lead)).2)),w18,x19,x20,x21,x22,x23,x24,x25,x26,x27,x28,x29,x30,x31,x32]):=by
 intro xs
 induction xs with
 | nil=>
  exact fun kept lead v13 v15 v18 υ h υ υ=>⟨v13,v15,v18,h,rfl⟩
 | cons x xs ih=>
  intro kept lead v13 v15 v18 hx h hkl hll
  rw[ah]at hkl hll
  have h5:=gV (x+2^k)
  obtain⟨w13,w15,w18,hw,hh⟩:=ih (if badP brs (x+2^k) then kept else kept++[x+2^k]) (if badP brs (x+2^k) then lead else lead++(aq (f7 (x+2^k)).length 32++[9])) (.fro (.list (brs.map (brD b)))) (.fro (.str (mkS (wd (bitsB (x+2^k) b))))) (.fro (aC x)) (fun y hy=>hx y (.tail _ hy)) (.inr rfl) (by
    split
    ·exact Pw.FD hkl
    ·rw[ak]; simp only[ah,aE]; exact Pw.BK hkl) (by
    split
    ·exact Pw.Lp hll
    ·simp only[ak,bG,ah,aE]; exact Pw.Ln hll h5)
  refine DA w13 w15 w18 hw ?_
  rw[aB]
  refine aj (fb rfl (zZ (x15:=v15) hb hk (hx x (.head _)) hbr hl h (by exact az (aA _ _) (by assumption)) (by exact az (aA _ _) (by assumption)))) ?_
  have e:f5 brs k (x::xs) (kept,lead)=f5 brs k xs ((if badP brs (x+2^k) then kept else kept++[x+2^k]),(if badP brs (x+2^k) then lead else lead++(aq (f7 (x+2^k)).length 32++[9]))):=by
   rw[oY]
   cases badP brs (x+2^k)<;>rfl
  rw[e]
  exact hh
theorem vi(hb:b<8)(hbr:∀m∈brs,m<16∧0<m)(hl:brs.length<100):∀(m k:Nat) (kept lead:List Nat) (v11 v13 v15 v18:Var),k+m≤5→(v13= .mut (brs.map (brD b))∨v13= .fro (.list (brs.map (brD b))))→(∀x∈kept,x<2^k)→kept.length≤2^k→lead.length≤6*2^k→
  ∃w11 w13 w15 w18,
  eV (.one 11) (fun σ=>dU ftL (n+90) σ zi) ((bT k m).map aC) [x0,x1,x2,.fro (aC b),x4,x5,x6,x7,x8,x9,x10,v11,x12,v13,x14,v15,.mut (kept.map aC),.fro (.str (mkS lead)),v18,x19,x20,x21,x22,x23,x24,x25,x26,x27,x28,x29,x30,x31,x32]=
  some (.next,[x0,x1,x2,.fro (aC b),x4,x5,x6,x7,x8,x9,x10,w11,x12,w13,x14,w15,.mut ((su brs m k (kept,lead)).1.map aC),.fro (.str (mkS (su brs m k (kept,lead)).2)),w18,x19,x20,x21,x22,x23,x24,x25,x26,x27,x28,x29,x30,x31,x32]):=by
 intro m
 induction m with
 | zero=>
  exact fun k kept lead v11 v13 v15 v18 υ υ υ υ υ=>⟨v11,v13,v15,v18,rfl⟩
 | succ m ih=>
  intro k kept lead v11 v13 v15 v18 hk h h1 h2 h3
  have hp:(2:Nat)^k≤2^4:=aY (by decide) (by exact Pw.Fe hk)
  refine uz (Aa (n:=n+8) (x0:=x0) (x1:=x1) (x2:=x2) (x4:=x4) (x5:=x5) (x6:=x6) (x7:=x7) (x8:=x8) (x9:=x9) (x10:=x10) (x12:=x12) (x14:=x14) (x19:=x19) (x20:=x20) (x21:=x21) (x22:=x22) (x23:=x23) (x24:=x24) (x25:=x25) (x26:=x26) (x27:=x27) (x28:=x28) (x29:=x29) (x30:=x30) (x31:=x31) (x32:=x32) hb (by exact Pw.BQ hk:k<5) hbr hl kept kept lead v13 v15 v18 (fun x hx=>by have:=h1 x hx; exact Pw.Lm this hp) h (by exact Pw.Ll hp h2) (by exact Pw.Lk h3 hp h2)) fun w13 w15 w18 hw hh=>?_
  refine lq (p8 brs k (2^(k+1)) kept (kept,lead) (fun x hx=>by have:=h1 x hx; rw[cC]; exact Pw.Lj this) (fun x hx=>by have:=h1 x hx; rw[cC]; exact Pw.Li this)) fun i1 i2 i3=>?_
  refine FO (ih (k+1) (f5 brs k kept (kept,lead)).1 (f5 brs k kept (kept,lead)).2 (.fro (aC k)) w13 w15 w18 (by exact Pw.oy hk) hw i1 (by dsimp only at i2; rw[cC]; exact Pw.Lh i2 h2) (by dsimp only at i3; rw[cC]; exact Pw.Lg h3 i3 h2)) fun u11 u13 u15 u18 hu=>?_
  refine Dz u11 u13 u15 u18 ?_
  rw[dw,aB]
  refine aj (fb rfl (aj (aH (aj (fW (items:=kept.map aC) (yL (kq (aS (ic rfl) bU) ?_) (by rw[ag]; exact Pw.Lf hp h2)) hh) cU)) cU)) ?_
  ·exact EF (by rw[ag,few_eq]; exact Pw.Ld hp h2)
  ·exact hu
end
section
variable {ft:FT}{n:Nat}{σ:St}{e k:IE}{i:Nat}{d:D}
theorem lA{ds:List D}{j:Nat}(h0:σ[i]? =some (.mut ds))(h1:evE ft n σ e=some d)(h2:evE ft n σ k=some (aC j))(hj:j<ds.length)(hl:ds.length<100000):evS ft (n+1) σ (.setidx i k e)=some (.next,σ.set i (.mut (ds.set j d))):=
 ob1 h1 (oG (F:=fun o:Option Var=>match o with | some (.mut ds)=>(evE ft n σ k).bind fun y=>(match y with | .int j=>if 0≤j∧j<ds.length∧ds.length≤few then some (Fl.next,σ.set i (.mut (ds.set j.toNat d))) else none | _=>none) | _=>none) h0 (ob1 h2 (oi1 ⟨aN _,bN.mpr hj,by rw[few_eq]; exact Pw.jm hl⟩)))
theorem fU{fs:List (String×D)}{nm:String}(h0:σ[i]? =some (.minst fs))(h1:evE ft n σ e=some d)(h2:(fs.lookup nm).isNone=true)(h3:onlyMinst σ i=true):evS ft (n+1) σ (.setattr i nm e)=some (.next,σ.set i (.minst (fs++[(nm,d)]))):=
 oG (F:=fun o:Option Var=>match o with | some (.minst fs)=>(evE ft n σ e).bind fun d=>if(fs.lookup nm).isNone∧onlyMinst σ i=true then some (Fl.next,σ.set i (.minst (fs++[(nm,d)]))) else none | _=>none) h0 (ob1 h1 (oi1 ⟨h2,h3⟩))
theorem AP{fs:List (String×D)}{nm:String}(h0:σ[i]? =some (.minst fs))(h:fs.lookup nm=some d):evE ft (n+1) σ (.attr i nm)=some d:=
 oG (F:=fun o:Option Var=>match o with | some (.inst fs)=>fs.lookup nm | some (.minst fs)=>fs.lookup nm | _=>none) h0 h
theorem n7{fs:List (String×D)}{nm:String}(h0:σ[i]? =some (.inst fs))(h:fs.lookup nm=some d):evE ft (n+1) σ (.attr i nm)=some d:=
 oG (F:=fun o:Option Var=>match o with | some (.inst fs)=>fs.lookup nm | some (.minst fs)=>fs.lookup nm | _=>none) h0 h
theorem jU{js:List Nat}(h:evE ft n σ e=some d):evS ft (n+1) σ (.assigns js e)=some (.next,mj σ d js):=om1 h
end
structure Wst where
 cnt:List Nat
 b:Nat
 n:Nat
 nt:Nat
noncomputable def om(cnt:List Nat)(c:Nat):List Nat:=
 let l:=if cnt.length≤c then cnt++aq (c-cnt.length+1) 0 else cnt
 l.set c (l.getD c 0+1)
noncomputable def wgo:List Nat→Wst→Wst
 | [],s=>s
 | c::r,s=>if c=32 then wgo r ⟨s.cnt,s.b+1,s.n+1,s.nt⟩ else wgo r ⟨om s.cnt s.b,0,s.n+1,s.nt+1⟩
theorem Cc{c r s}:wgo (c::r) s=(if c=32 then wgo r ⟨s.cnt,s.b+1,s.n+1,s.nt⟩ else wgo r ⟨om s.cnt s.b,0,s.n+1,s.nt+1⟩):=rfl
noncomputable def uC:List IS:=[.ife (.cmp .Eq (.var 8) (.var 2)) [.assign 6 (.bin .Add (.var 6) (.int 1)),.assign 5 (.bin .Add (.var 5) (.int 1))] [.ife (.cmp .Eq (.var 8) (.var 3)) [.assign 6 (.bin .Add (.var 6) (.int 1)),.assign 7 (.bin .Add (.var 7) (.int 1)),.ife (.cmp .GtE (.var 5) (.bi .len [.bor 4])) [.assignM 4 (.bin .Add (.bor 4) (.bin .Mult (.list [.int 0]) (.bin .Add (.bin .Sub (.var 5) (.bi .len [.bor 4])) (.int 1))))] [],.setidx 4 (.var 5) (.bin .Add (.idx (.bor 4) (.var 5)) (.int 1)),.assign 5 (.int 0)] [.brk]]]
noncomputable def chD(c:Nat):D:= .str (mkS [c])
theorem tX(a b:Nat):gj .Eq (chD a) (chD b)=some (decide (a=b)):=by
 show some ((mkS [a]).cps.toList==(mkS [b]).cps.toList)=_
 congr 1
 rw[bJ,beq_iff_eq,decide_eq_true_iff]
 constructor
 ·intro h; exact(List.cons.inj h).1
 ·intro h; rw[h]
section
variable {ft:FT}{n:Nat}{v0 v1:Var}{cnt:List Nat}{b m nt:Nat}
noncomputable def wSt(v0 v1:Var)(cnt:List Nat)(b m nt:Nat)(v8:Var):St:=[v0,v1,.fro (chD 32),.fro (chD 9),.mut (cnt.map aC),.fro (aC b),.fro (aC m),.fro (aC nt),v8]
theorem yv:dU ft (n+20) (wSt v0 v1 cnt b m nt (.fro (chD 32))) uC=some (.next,wSt v0 v1 cnt (b+1) (m+1) nt (.fro (chD 32))):=by
 have c1:gj .Eq (chD 32) (chD 32)=some true:=tX 32 32
 have c2:dO .Add (aC m) (.int 1)=some (aC (m+1)):=dZ m 1
 have c3:dO .Add (aC b) (.int 1)=some (aC (b+1)):=dZ b 1
 refine aj (aH (aj (jC (fF (ei (aF rfl) (aF rfl) c1) rfl)) ?_)) cU
 refine aj (aH (bf (cm (aF rfl) cO c2))) ?_
 refine aj (aH (bf (cm (aF rfl) cO c3))) ?_
 exact cU
theorem w_x:∃σ',dU ft (n+20) (wSt v0 v1 cnt b m nt (.fro (chD 120))) uC=some (.brk,σ')∧σ'=wSt v0 v1 cnt b m nt (.fro (chD 120)):=by
 have c1:gj .Eq (chD 120) (chD 32)=some false:=tX 120 32
 have c2:gj .Eq (chD 120) (chD 9)=some false:=tX 120 9
 refine gX _ (dt (aj (fV (fF (ei (aF rfl) (aF rfl) c1) rfl)) ?_) (by exact Fl.noConfusion)) rfl
 exact dt (aj (fV (fF (ei (aF rfl) (aF rfl) c2) rfl)) (dt Cp (by exact Fl.noConfusion))) (by exact Fl.noConfusion)
theorem rep0(k:Nat):(aq k [PyData.int 0]).flatten=(aq k 0).map aC:=by
 induction k with
 | zero=>rfl
 | succ k ih=>rw[dK,List.flatten_cons,ih,dK,aB]; rfl
theorem Gg(hb:b<900)(hc:cnt.length<900):dU ft (n+30) (wSt v0 v1 cnt b m nt (.fro (chD 9))) uC=some (.next,wSt v0 v1 (om cnt b) 0 (m+1) (nt+1) (.fro (chD 9))):=by
 have c1:gj .Eq (chD 9) (chD 32)=some false:=tX 9 32
 have c2:gj .Eq (chD 9) (chD 9)=some true:=tX 9 9
 have c3:dO .Add (aC m) (.int 1)=some (aC (m+1)):=dZ m 1
 have c4:dO .Add (aC nt) (.int 1)=some (aC (nt+1)):=dZ nt 1
 have c5:=iM (xs:=cnt.map aC) (by rw[ag]; exact Pw.Fd hc)
 rw[ag]at c5
 have c6:gj .GtE (aC b) (.int (cnt.length:Nat))=some (decide (cnt.length≤b)):=by
  show some (decide _)=_
  congr 1
  rw[decide_eq_decide]; exact Pw.Lc
 refine aj (aH (aj (fV (fF (ei (aF rfl) (aF rfl) c1) rfl)) ?_)) cU
 refine aj (aH (aj (jC (fF (ei (aF rfl) (aF rfl) c2) rfl)) ?_)) cU
 refine aj (aH (bf (cm (aF rfl) cO c3))) ?_
 refine aj (aH (bf (cm (aF rfl) cO c4))) ?_
 have main:∀l:List Nat,b<l.length→l.length<5000→dU ft (n+23) (wSt v0 v1 l b (m+1) (nt+1) (.fro (chD 9))) [.setidx 4 (.var 5) (.bin .Add (.idx (.bor 4) (.var 5)) (.int 1)),.assign 5 (.int 0)]=some (.next,wSt v0 v1 (l.set b (l.getD b 0+1)) 0 (m+1) (nt+1) (.fro (chD 9))):=by
  intro l h1 h2
  have d1:idxD (l.map aC) (b:Int)=some (aC (l.getD b 0)):=by rw[gM (by exact Pw.La hb),aW,aR h1,bW,aR h1]; rfl
  have d2:dO .Add (aC (l.getD b 0)) (.int 1)=some (aC (l.getD b 0+1)):=dZ _ 1
  refine aj (aH (lA rfl (cm (j6 (ic rfl) (aF rfl) rfl d1) cO d2) (aF rfl) (by rw[ag]; exact h1) (by rw[ag]; exact Pw.K9 h2))) ?_
  refine aj (aH (bf cO)) ?_
  rw[←List.map_set]
  exact cU
 have e:om cnt b=(if cnt.length≤b then cnt++aq (b-cnt.length+1) 0 else cnt).set b ((if cnt.length≤b then cnt++aq (b-cnt.length+1) 0 else cnt).getD b 0+1):=rfl
 by_cases hle:cnt.length≤b
 ·rw[decide_eq_true hle]at c6
  rw[e,if_pos hle]
  have d1:=gG hle
  have d2:dO .Add (.int ((b-cnt.length:Nat):Int)) (.int 1)=some (.int ((b-cnt.length+1:Nat):Int)):=dZ _ 1
  have d3:dO .Mult (.list [.int 0]) (.int ((b-cnt.length+1:Nat):Int))=some (.list ((aq (b-cnt.length+1) 0).map aC)):=by
   rw[ED ⟨by exact Pw.K8 hb,by decide,by exact aN _⟩,aG,rep0]
  have d4:=lk (a:=cnt.map aC) (b:=(aq (b-cnt.length+1) 0).map aC) (by rw[ag,ag,bG]; exact Pw.K7 hb hle)
  rw[←aZ]at d4
  refine aj (aH (aj (jC (fF (ei (aF rfl) (kq (aS (ic rfl) bU) c5) c6) rfl)) (aj (aH (dX (cm (ic rfl) (cm (d8 (aS cO bU) (by rw[few_eq]; decide)) (cm (cm (aF rfl) (kq (aS (ic rfl) bU) c5) d1) cO d2) d3) d4))) cU))) ?_
  have:=main (cnt++aq (b-cnt.length+1) 0) (by rw[ak,bG]; exact Pw.K6) (by rw[ak,bG]; exact Pw.K5 hb hle)
  exact this
 ·rw[decide_eq_false hle]at c6
  rw[e,if_neg hle]
  refine aj (aH (aj (fV (fF (ei (aF rfl) (kq (aS (ic rfl) bU) c5) c6) rfl)) cU)) ?_
  have:=main cnt (by exact Nat.lt_of_not_le (by assumption)) (by exact af (by assumption) (by decide))
  exact this
end
theorem mL(cnt:List Nat)(b:Nat):(om cnt b).length≤max cnt.length (b+1):=by
 unfold om
 dsimp only
 rw[dn]
 split
 ·rw[ak,bG]; exact Pw.K4 (by assumption)
 ·exact Pw.K3
section
variable {ft:FT}{n:Nat}{v0 v1:Var}
theorem Cf:∀(l:List Nat) (s:Wst) (v8:Var),(∀c∈l,c=32∨c=9)→l.length+s.b<900→s.cnt.length<900→
  eV (.one 8) (fun σ=>dU ft (n+30) σ uC) ((l++[120]).map chD) (wSt v0 v1 s.cnt s.b s.n s.nt v8)=some (.brk,wSt v0 v1 (wgo l s).cnt (wgo l s).b (wgo l s).n (wgo l s).nt (.fro (chD 120))):=by
 intro l
 induction l with
 | nil=>
  intro s v8 υ υ υ
  refine bq (w_x (ft:=ft) (n:=n+10) (v0:=v0) (v1:=v1) (cnt:=s.cnt) (b:=s.b) (m:=s.n) (nt:=s.nt)) fun σ' h1 h2=>?_
  subst h2
  exact tf rfl h1 (by exact Fl.noConfusion)
 | cons c l ih=>
  intro s v8 h hb hc
  rw[ah]at hb
  rw[cY,aB,Cc]
  rcases h c (.head _) with e | e
  ·subst e
   rw[if_pos rfl]
   refine aj (fb rfl (yv (n:=n+10))) ?_
   exact ih ⟨s.cnt,s.b+1,s.n+1,s.nt⟩ _ (fun q hq=>h q (.tail _ hq)) (by dsimp only; exact Pw.Fc hb) hc
  ·subst e
   rw[if_neg (by decide)]
   refine aj (fb rfl (Gg (n:=n) (by exact az (ar _ _) (by assumption)) (by assumption))) ?_
   have:=mL s.cnt s.b
   exact ih ⟨om s.cnt s.b,0,s.n+1,s.nt+1⟩ _ (fun q hq=>h q (.tail _ hq)) (by dsimp only; exact Pw.Fb hb) (by dsimp only; exact Pw.E9 hb hc this)
end
theorem yK{ft:FT}{n:Nat}{σ:St}{i:Nat}{nm:String}{s:List Nat}(h:evE ft n σ (.attr i nm)=some (.str (mkS s)))(hs:jn s=true)(hl:s.length<100000):jF (evE ft n) σ (.attr i nm)=some (s.map chD):=by
 refine ob1 h ?_
 show(if(mkS s).length≤few∧(mkS s).cps.all (·<128) then some ((mkS s).cps.toList.map fun c=>PyData.str ⟨#[c]⟩) else none)=_
 rw[bO,jc,if_pos]
 ·rfl
 ·refine⟨by rw[few_eq]; exact Pw.jm hl,?_⟩
  unfold mkS
  rw[List.all_toArray]
  exact hs
noncomputable def wres(raw:D)(s:Wst):List (String×D):=[("raw",raw),("n",aC s.n),("nt",aC s.nt),("norm",.tuple [.tuple (s.cnt.map aC),aC s.b]),("is_simple",.bool (decide (s.cnt.length≤1)))]
theorem yt:∀(l:List Nat) (s:Wst),l.length+s.b<900→s.cnt.length<900→(wgo l s).cnt.length<900:=by
 intro l
 induction l with
 | nil=>
  exact fun s υ h=>h
 | cons c l ih=>
  intro s hb hc
  rw[ah]at hb
  rw[Cc]
  split
  ·exact ih _ (by dsimp only; exact Pw.Fc hb) hc
  ·have:=mL s.cnt s.b
   exact ih _ (by dsimp only; exact Pw.Fb hb) (by dsimp only; exact Pw.E9 hb hc this)
theorem winit_run{lead:List Nat}(h:∀c∈lead,c=32∨c=9)(hl:lead.length<800):pH ft0 40 j5 [.str (mkS (lead++[120]))]=some (.tuple ((wres (.str (mkS (lead++[120]))) (wgo lead ⟨[],0,0,0⟩)).map (·.2))):=by
 have hi:=yt lead ⟨[],0,0,0⟩ (by dsimp only; exact Pw.E8 hl) (by decide)
 generalize hw:wgo lead ⟨[],0,0,0⟩=w at*
 have g2:DG 2=some (chD 32):=by show some (PyData.str (aa " "))=_; rw[fL]; rfl
 have g3:DG 3=some (chD 9):=by show some (PyData.str (aa "\t"))=_; rw[fL]; rfl
 have hsm:jn (lead++[120])=true:=by
  unfold jn
  rw[bh]
  intro c hc
  rw[decide_eq_true_iff]
  rcases dm.mp hc with q | q
  ·rcases h c q with e | e<;>(first | exact Pw.K2 e | exact Pw.K1 e)
  ·rw[ay]at q; exact Pw.K0 q
 have c5:=iM (xs:=w.cnt.map aC) (by rw[ag]; exact Pw.Fd hi)
 rw[ag]at c5
 have c6:gj .LtE (.int (w.cnt.length:Nat)) (.int 1)=some (decide (w.cnt.length≤1)):=by
  show some (decide _)=_
  congr 1
  rw[decide_eq_decide]; exact Pw.KZ
 have c7:biD .tup [.list (w.cnt.map aC)]=some (.tuple (w.cnt.map aC)):=by
  exact Ii (by rw[ag,few_eq]; exact Pw.E7 hi)
 have hlp:=Cf (ft:=ft0) (n:=4) (v0:= .minst [("raw",.str (mkS (lead++[120])))]) (v1:= .fro (.str (mkS (lead++[120])))) lead ⟨[],0,0,0⟩ .u0 h (by dsimp only; exact Pw.E8 hl) (by decide)
 rw[hw]at hlp
 have:∃r,dU ft0 40 [.minst [],.fro (.str (mkS (lead++[120]))),.u0,.u0,.u0,.u0,.u0,.u0,.u0] j5.body=some (.next,.minst (wres (.str (mkS (lead++[120]))) w)::r):=by
  refine⟨[.fro (.str (mkS (lead++[120]))),.fro (chD 32),.fro (chD 9),.mut (w.cnt.map aC),.fro (aC w.b),.fro (aC w.n),.fro (aC w.nt),.fro (chD 120)],?_⟩
  unfold j5
  refine aj (aH (fU rfl (aF rfl) rfl rfl)) ?_
  refine aj (aH (iG (wL g2) (wL g3))) ?_
  refine aj (aH (dX (d8 bU (by decide)))) ?_
  refine aj (aH (jU cO)) ?_
  refine aj (aH (qY (yK (AP rfl rfl) hsm (by rw[ak]; simp only[ah,aE]; exact Pw.E6 hl)) hlp)) ?_
  refine aj (aH (fU rfl (aF rfl) rfl rfl)) ?_
  refine aj (aH (fU rfl (aF rfl) rfl rfl)) ?_
  refine aj (aH (fU rfl (lR (aS (kq (aS (ic rfl) bU) c7) (aS (aF rfl) bU)) (by rw[few_eq]; show 2≤_; exact Pw.jE)) rfl rfl)) ?_
  refine aj (aH (fU rfl (ei (kq (aS (ic rfl) bU) c5) cO c6) rfl rfl)) ?_
  exact cU
 refine dh this fun r hr=>?_
 show Cg (dU ft0 40 [.minst [],.fro (.str (mkS (lead++[120]))),.u0,.u0,.u0,.u0,.u0,.u0,.u0] j5.body)=_
 rw[hr]
 exact yw rfl
theorem wrun_run{raw:D}{s:Wst}(hb:s.b=0)(h0:0<s.cnt.length)(hc:s.cnt.length<900):Cb ft0 40 nW [.tuple ((wres raw s).map (·.2))]=some (aC (s.cnt.length-1)):=by
 have c5:biD .len [.tuple (s.cnt.map aC)]=some (.int (s.cnt.length:Nat)):=by
  exact EG (ag _) (by rw[few_eq]; exact Pw.E7 hc)
 have c6:dO .Sub (.int (s.cnt.length:Nat)) (.int 1)=some (aC (s.cnt.length-1)):=gG (b:=1) (by assumption)
 have c7:biD .max2 [aC (s.cnt.length-1),aC s.b]=some (aC (s.cnt.length-1)):=by
  show some (PyData.int (if(s.b:Int)>((s.cnt.length-1:Nat):Int) then _ else _))=_
  rw[hb,if_neg (by exact Pw.KY)]; rfl
 have:dU ft0 40 [.inst (wres raw s),.u0,.u0] nW.body=some (.ret (aC (s.cnt.length-1)),[.inst (wres raw s),.fro (.tuple (s.cnt.map aC)),.fro (aC s.b)]):=by
  unfold nW
  refine aj (aH (fP (n7 rfl rfl))) ?_
  exact dt (gQ (kq (aS (cm (kq (aS (aF rfl) bU) c5) cO c6) (aS (aF rfl) bU)) c7)) (by exact Fl.noConfusion)
 show FU (dU ft0 40 [.inst (wres raw s),.u0,.u0] nW.body)=_
 rw[this]; rfl
section
variable {n:Nat}{σ:St}{e:IE}{i:Nat}{d:D}
theorem yR{lead:List Nat}(h:∀c∈lead,c=32∨c=9)(hl:lead.length<800)(hn:42≤n)(he:evE ftL n σ e=some (.str (mkS (lead++[120])))):
  evS ftL (n+1) σ (.mkW i e)=some (.next,σ.set i (.inst (wres (.str (mkS (lead++[120]))) (wgo lead ⟨[],0,0,0⟩)))):=by
 have f20:ftL 20=some (42,pH ft0 40 j5):=rfl
 exact oG (F:=fun o:Option (Nat×(List D→Option D))=>match o with | some (c,F)=>if c≤n then(evE ftL n σ e).bind fun d=>(match F [d]with | some (.tuple [a,b,c,d,e])=>some (Fl.next,σ.set i (.inst [("raw",a),("n",b),("nt",c),("norm",d),("is_simple",e)])) | _=>none) else none | none=>none) f20
  (oi2 hn (ob1 he (oG (F:=fun o:Option D=>match o with | some (.tuple [a,b,c,d,e])=>some (Fl.next,σ.set i (.inst [("raw",a),("n",b),("nt",c),("norm",d),("is_simple",e)])) | _=>none) (winit_run h hl) rfl)))
theorem n6{raw:D}{s:Wst}(h0:σ[i]? =some (.inst (wres raw s)))(hb:s.b=0)(h1:0<s.cnt.length)(hc:s.cnt.length<900)(hn:41≤n):evE ftL (n+1) σ (.methW i)=some (aC (s.cnt.length-1)):=by
 have f21:ftL 21=some (41,Cb ft0 40 nW):=rfl
 exact oG (F:=fun o:Option Var=>match o with | some (.inst fs)=>(match ftL 21 with | some (c,F)=>if c≤n∧fs.map Prod.fst=wNames then F [.tuple (fs.map Prod.snd)] else none | none=>none) | _=>none) h0
  (oG (F:=fun o:Option (Nat×(List D→Option D))=>match o with | some (c,F)=>if c≤n∧(wres raw s).map Prod.fst=wNames then F [.tuple ((wres raw s).map Prod.snd)] else none | none=>none) f21 (oi2 ⟨hn,rfl⟩ (wrun_run hb h1 hc)))
end
theorem ma{ft:FT}{n:Nat}{σ:St}{e:IE}{k:Nat}(h:evE ft n σ e=some (aC k))(hk:k<100000):jF (evE ft n) σ (.bi .range [e])=some ((bT 0 k).map aC):=by
 have:([e]:List IE).mapM (evE ft n σ)=some [aC k]:=aS h bU
 refine ob1 this ((nk (by rw[few_eq]; exact Pw.KW hk)).trans ?_)
 unfold fH
 rw[if_pos rfl,bw,←List.range_eq_range',Int.sub_zero,aG]
 congr 1
 refine bQ fun j υ=>?_
 show PyData.int (0+(j:Int))=_
 rw[Int.zero_add]; rfl
noncomputable def gc(r:List Nat):D:= .list (r.map aC)
noncomputable def mxP:List Nat→Nat
 | []=>0
 | a::r=>r.foldl (fun m x=>if m<x then x else m) a
theorem wb:∀(r:List Nat) (a:Nat),(r.map fun(n:Nat)=>(n:Int)).foldl (fun m x=>if m<x then x else m) (a:Int)=((r.foldl (fun m x=>if m<x then x else m) a:Nat):Int):=by
 intro r
 induction r with
 | nil=>
  exact fun υ=>rfl
 | cons b r ih=>
  intro a
  rw[aB,bH,bH,←ih]
  congr 1
  by_cases h:a<b
  ·rw[if_pos h,if_pos (by exact Pw.Fx h)]
  ·rw[if_neg h,if_neg (by exact Pw.KV h)]
theorem GR{r:List Nat}(h:r≠[]):biD .max1 [gc r]=some (aC (mxP r)):=by
 show(gL (r.map aC)).bind _=_
 rw[gz,gK]
 cases r with
 | nil=>exact absurd rfl h
 | cons a r=>
  show(xS (_::_)).map _=_
  rw[xS]
  show some (PyData.int _)=_
  rw[wb]; rfl
noncomputable def ffI(x:Int):Nat→Int
 | 0=>1
 | k+1=>ffI x k*(x-k)
theorem wy{x:Int}:ffI x 0=(1):=rfl
theorem tu{x:Int}{k}:ffI x (k+1)=(ffI x k*(x-k)):=rfl
theorem tq{x:Int}(hx:x.natAbs+100<2^1000):∀k,k≤20→(ffI x k).natAbs≤2^(1000*k):=by
 intro k
 induction k with
 | zero=>
  exact fun υ=>by show(1:Int).natAbs≤_; simp
 | succ k ih=>
  intro hk
  have ih:=ih (by exact Pw.uv hk)
  rw[tu,Int.natAbs_mul,show 1000*(k+1)=1000*k+1000 from by exact Pw.KU,d6]
  exact fk ih (by exact Pw.KS hk hx)
theorem oV{a b:Int}(ha:a.natAbs<2^40000)(hb:b.natAbs<2^40000):iJ a b=true:=by
 unfold iJ
 rw[decide_eq_true ha,decide_eq_true hb]; rfl
theorem zG{a b:Int}(ha:a.natAbs<2^40000)(hb:b.natAbs<2^40000):dO .Mult (.int a) (.int b)=some (.int (a*b)):=by
 exact BE (oV ha hb)
theorem ff{a k:Nat}(h:a≤2^k)(hk:k<40000):a<2^40000:=az h (cp (by decide) hk)
noncomputable def ql(rows:List (List Nat))(x:Int):Int:=(rows.map fun r=>ffI x (mxP r+1)).sum
section
variable {ft:FT}{n:Nat}{v0 v3:Var}{x:Int}
theorem AE(hx:x.natAbs+100<2^1000){t:Var}:∀(m k:Nat) (v5:Var),k+m≤20→∃w5,
  eV (.one 5) (fun σ=>dU ft (n+20) σ [.assign 4 (.bin .Mult (.var 4) (.bin .Sub (.var 1) (.var 5)))]) ((bT k m).map aC) [v0,.fro (.int x),t,v3,.fro (.int (ffI x k)),v5]=some (.next,[v0,.fro (.int x),t,v3,.fro (.int (ffI x (k+m))),w5]):=by
 intro m
 induction m with
 | zero=>
  exact fun k v5 υ=>⟨v5,rfl⟩
 | succ m ih=>
  intro k v5 h
  refine dh (ih (k+1) (.fro (aC k)) (by exact Pw.oy h)) fun w5 hh=>?_
  refine⟨w5,?_⟩
  have c1:dO .Sub (.int x) (aC k)=some (.int (x-k)):=rfl
  have c2:dO .Mult (.int (ffI x k)) (.int (x-k))=some (.int (ffI x (k+1))):=by
   rw[zG (ff (tq hx k (by exact Pw.KQ h)) (by exact Pw.KP h)) (ff (k:=1000) (by exact Pw.KO h hx) (by decide))]; rfl
  rw[dw,aB]
  refine aj (fb rfl (aj (aH (bf (cm (aF rfl) (cm (aF rfl) (aF rfl) c1) c2))) cU)) ?_
  rw[show k+(m+1)=k+1+m from by exact Pw.F3]
  exact hh
noncomputable def A7:List IS:=[.assign 4 (.int 1),.fore (.one 5) (.bi .range [.bin .Add (.bi .max1 [.var 3]) (.int 1)]) [.assign 4 (.bin .Mult (.var 4) (.bin .Sub (.var 1) (.var 5)))] [],.assign 2 (.bin .Add (.var 2) (.var 4))]
theorem wV(hx:x.natAbs+100<2^1000):∀(rows:List (List Nat)) (t:Int) (v3 v4 v5:Var),(∀r∈rows,r≠[]∧mxP r<10)→∃w3 w4 w5,
  eV (.one 3) (fun σ=>dU ft (n+30) σ A7) (rows.map gc) [v0,.fro (.int x),.fro (.int t),v3,v4,v5]=some (.next,[v0,.fro (.int x),.fro (.int (t+ql rows x)),w3,w4,w5]):=by
 intro rows
 induction rows with
 | nil=>
  exact fun t v3 v4 v5 υ=>⟨v3,v4,v5,by rw[show t+ql [] x=t from Int.add_zero _]; rfl⟩
 | cons r rows ih=>
  intro t v3 v4 v5 h
  refine fu (h r (.head _)) fun h1 h2=>?_
  refine dh (AE (ft:=ft) (n:=n+7) (v0:=v0) (v3:= .fro (gc r)) hx (t:= .fro (.int t)) (mxP r+1) 0 v5 (by exact Pw.KN h2)) fun w5' hf=>?_
  rw[cR]at hf
  refine Gc (ih (t+ffI x (mxP r+1)) (.fro (gc r)) (.fro (.int (ffI x (mxP r+1)))) w5' (fun q hq=>h q (.tail _ hq))) fun w3 w4 w5 hh=>?_
  refine Hf w3 w4 w5 ?_
  rw[aB]
  have c1:=GR h1
  have c2:dO .Add (aC (mxP r)) (.int 1)=some (aC (mxP r+1)):=dZ _ 1
  refine aj (fb rfl (σ'':=[v0,.fro (.int x),.fro (.int (t+ffI x (mxP r+1))),.fro (gc r),.fro (.int (ffI x (mxP r+1))),w5']) ?_) ?_
  ·refine aj (aH (bf cO)) ?_
   refine aj (aH (aj (fW (ma (cm (kq (aS (aF rfl) bU) c1) cO c2) (by exact Pw.KL h2)) hf) cU)) ?_
   refine aj (aH (bf (cm (aF rfl) (aF rfl) rfl))) ?_
   exact cU
  ·rw[hh]
   have:t+ffI x (mxP r+1)+ql rows x=t+ql (r::rows) x:=by
    unfold ql
    rw[aB,dG]; exact Pw.KJ
   rw[this]
end
theorem oh{ft:FT}{x:Int}{rows:List (List Nat)}(hx:x.natAbs+100<2^1000)(h:∀r∈rows,r≠[]∧mxP r<10)(hl:rows.length<100000):DW.run ft 40 [.list (rows.map gc),.int x]=some (.int (ql rows x)):=by
 refine Gc (wV (ft:=ft) (n:=7) (v0:= .fro (.list (rows.map gc))) hx rows 0 .u0 .u0 .u0 h) fun w3 w4 w5 hh=>?_
 rw[Int.zero_add]at hh
 refine fz (σ:=[.fro (.list (rows.map gc)),.fro (.int x),.fro (.int (ql rows x)),w3,w4,w5]) rfl ?_
 unfold DW
 refine aj (aH (bf cO)) ?_
 refine aj (aH (aj (fW (fe (aF rfl) (by rw[ag]; exact hl)) hh) cU)) ?_
 exact dt (gQ (aF rfl)) (by exact Fl.noConfusion)
noncomputable def jQ(marks:List Nat)(e:Nat):List Nat:=marks.map fun m=>if m=marks.getD (lo e) 0 then marks.getD (hi e) 0 else m
noncomputable def pw(acc:List Nat)(x:Nat):List Nat:=if acc.any (fun y=>y==x) then acc else acc++[x]
noncomputable def mA(rs:List Nat):List Nat:=rs.foldl jQ [0,1,2,3,4,5]
noncomputable def gP(rs:List Nat):Nat:=((mA rs).foldl pw []).length
theorem AZ:∀(l acc:List Nat),(l.map fun(n:Nat)=>(n:Int)).foldl PyProof.Rows.step_dedup (acc.map fun(n:Nat)=>(n:Int))=(l.foldl pw acc).map fun(n:Nat)=>(n:Int):=by
 intro l
 induction l with
 | nil=>
  exact fun υ=>rfl
 | cons a l ih=>
  intro acc
  rw[aB,bH,bH,←ih]
  congr 1
  unfold PyProof.Rows.step_dedup pw
  have:(acc.map fun(n:Nat)=>(n:Int)).any (fun y=>y==(a:Int))=acc.any (fun y=>y==a):=by
   rw[List.any_map]
   congr 1
   funext y
   rw[bJ,beq_iff_eq]
   show((y:Int)==(a:Int))=true↔_
   rw[beq_iff_eq]; exact Pw.BJ
  rw[this]
  cases acc.any (fun y=>y==a)
  ·rw[if_neg (by decide),if_neg (by decide),aZ]; rfl
  ·rfl
theorem vH{l:List Nat}(h:l.length≤1000):biD .lenset [.list (l.map aC)]=some (aC (l.foldl pw []).length):=by
 rw[gz]
 show(gL _).bind _=_
 rw[gK,bC,if_pos (by rw[ag]; exact h)]
 unfold PyProof.Rows.firstMet
 have e:(bu (l.map fun(n:Nat)=>(n:Int)).length).map (fun i=>(l.map fun(n:Nat)=>(n:Int)).getD i 0)=l.map fun(n:Nat)=>(n:Int):=by
  refine List.ext_getElem (by simp) fun i h1 h2=>?_
  rw[List.getElem_map,List.getElem_range,bW,aR h2]; rfl
 rw[e]
 have:=AZ l []
 rw[List.map_nil]at this
 rw[this,ag]; rfl
theorem eqI(a b:Nat):gj .Eq (aC a) (aC b)=some (decide (a=b)):=by
 show some (_==_)=_
 congr 1
 rw[bJ,beq_iff_eq,decide_eq_true_iff]; exact Pw.BJ
theorem te{l:List Nat}{i:Nat}(hi:i<l.length)(h:i<1000):idxD (l.map aC) (i:Int)=some (aC (l.getD i 0)):=by
 rw[gM h,aW,aR hi,bW,aR hi]; rfl
section
variable {ft:FT}{n:Nat}{v0:Var}
noncomputable def oR:List IS:=[.assign 1 (.comp (.ite (.cmp .Eq (.var 4) (.idx (.var 1) (.var 2))) (.idx (.var 1) (.var 3)) (.var 4)) [(.one 4,.var 1,[])] ["mark"] [1,2,3])]
theorem rF{marks:List Nat}{e:Nat}(he:e<10)(hm:marks.length=6):dU ft (n+30) [v0,.fro (.list (marks.map aC)),.fro (aC (lo e)),.fro (aC (hi e))] oR=some (.next,[v0,.fro (.list ((jQ marks e).map aC)),.fro (aC (lo e)),.fro (aC (hi e))]):=by
 have hlh:=lohi e he
 refine aj (aH (bf (jL (l:=marks) (enc:=aC) (g:=fun m=>aC (if m=marks.getD (lo e) 0 then marks.getD (hi e) 0 else m)) (fe (aF rfl) (by rw[ag]; exact Pw.E5 hm)) (σm:=[.u0,.fro (.list (marks.map aC)),.fro (aC (lo e)),.fro (aC (hi e)),.u0]) rfl (by exact Pw.E5 hm) fun m υ=>⟨[.u0,.fro (.list (marks.map aC)),.fro (aC (lo e)),.fro (aC (hi e)),.fro (aC m)],rfl,?_⟩))) ?_
 ·refine HO (ei (aF rfl) (j6 (aF rfl) (aF rfl) rfl (te (by exact Pw.KH hlh hm) (by exact Pw.KG hlh))) (eqI _ _)) rfl ?_
  by_cases h:m=marks.getD (lo e) 0
  ·rw[decide_eq_true h,if_pos rfl,if_pos h]
   exact j6 (aF rfl) (aF rfl) rfl (te (by exact Pw.KE hlh hm) (by exact Pw.KD hlh))
  ·rw[decide_eq_false h,if_neg (by decide),if_neg h]
   exact aF rfl
 ·unfold jQ
  rw[bw]
  exact cU
theorem rG:∀(rs marks:List Nat) (v2 v3:Var),(∀e∈rs,e<10)→marks.length=6→∃w2 w3,
  eV (.two 2 3) (fun σ=>dU ft (n+30) σ oR) (rs.map road) [v0,.fro (.list (marks.map aC)),v2,v3]=some (.next,[v0,.fro (.list ((rs.foldl jQ marks).map aC)),w2,w3]):=by
 intro rs
 induction rs with
 | nil=>
  exact fun marks v2 v3 υ υ=>⟨v2,v3,rfl⟩
 | cons e rs ih=>
  intro marks v2 v3 h hm
  refine mW (ih (jQ marks e) (.fro (aC (lo e))) (.fro (aC (hi e))) (fun q hq=>h q (.tail _ hq)) (by unfold jQ; rw[ag]; exact hm)) fun w2 w3 hh=>?_
  refine uq w2 w3 ?_
  rw[aB]
  exact aj (fb rfl (rF (h e (.head _)) hm)) hh
end
theorem sb:∀(rs marks:List Nat),(rs.foldl jQ marks).length=marks.length:=by
 intro rs
 induction rs with
 | nil=>
  exact fun υ=>rfl
 | cons e rs ih=>
  exact fun marks=>by rw[bH,ih]; unfold jQ; rw[ag]
theorem rC{ft:FT}{rs:List Nat}(h:∀e∈rs,e<10)(hl:rs.length<1000)(hp:0<gP rs):mH.run ft 40 [rsD rs]=some (aC (gP rs-1)):=by
 refine mW (rG (ft:=ft) (n:=7) (v0:= .fro (rsD rs)) rs [0,1,2,3,4,5] .u0 .u0 h rfl) fun w2 w3 hh=>?_
 have c1:=vH (l:=mA rs) (by unfold mA; rw[sb]; decide)
 have c2:dO .Sub (aC (gP rs)) (.int 1)=some (aC (gP rs-1)):=gG (b:=1) hp
 refine fz (σ:=[.fro (rsD rs),.fro (.list ((mA rs).map aC)),w2,w3]) rfl ?_
 unfold mH
 refine aj (aH (bf (d:= .list ([0,1,2,3,4,5].map aC)) (d8 (by trivial) (by rw[few_eq]; decide)))) ?_
 refine aj (aH (aj (fW (fe (aF rfl) (by rw[ag]; exact Pw.ox hl)) hh) cU)) ?_
 exact dt (gQ (cm (kq (aS (aF rfl) bU) c1) cO c2)) (by exact Fl.noConfusion)
noncomputable abbrev Arc:=Nat×Nat
noncomputable def l3(a:Arc):D:= .tuple [aC a.1,aC a.2]
noncomputable def gb(w:List Arc):D:= .list (w.map l3)
noncomputable def eS(ws:List (List Arc))(e:Nat):List (List Arc):=ws.flatMap fun w=>[w++[(lo e,hi e)],w++[(hi e,lo e)]]
noncomputable def fO(a:List Arc):List Arc:=a.filter fun p=>(a.map Prod.snd).any fun x=>x==p.1
noncomputable def peelP:Nat→List Arc→List Arc
 | 0,a=>a
 | k+1,a=>if(fO a).length<a.length then peelP k (fO a) else fO a
theorem lG{k a}:peelP (k+1) a=(if(fO a).length<a.length then peelP k (fO a) else fO a):=rfl
noncomputable def acycP(w:List Arc):Bool:=(peelP 99 w).isEmpty
theorem waysUp_len(ws:List (List Arc))(e:Nat):(eS ws e).length=2*ws.length:=by
 unfold eS
 induction ws with
 | nil=>rfl
 | cons a r ih=>rw[cP,ak,ih,ah]; simp only[ah,aE]; exact Pw.KC
theorem kO{ws:List (List Arc)}{e k:Nat}(h:∀w∈ws,w.length=k):∀w∈eS ws e,w.length=k+1:=by
 intro w hw
 unfold eS at hw
 refine bq (List.mem_flatMap.mp hw) fun u hu hw=>?_
 have:=h u hu
 rcases aP.mp hw with h | h
 ·subst h; rw[ak]; simp only[ah,aE]; exact Pw.E4 this
 ·rw[ay]at h
  subst h; rw[ak]; simp only[ah,aE]; exact Pw.E4 this
noncomputable def xQ:List Nat→Nat
 | []=>0
 | a::r=>((r.foldl eS [[(lo a,hi a)]]).filter acycP).length
theorem in_D(l:List Nat)(a:Nat):gj .In (aC a) (.list (l.map aC))=some (l.any fun x=>x==a):=by
 have h1:cu (aC a)=true:=rfl
 rw[EJ (by rw[h1,ij]; rfl),List.any_map]
 congr 2
 funext x
 show PyData.eqv (.int (x:Int)) (.int (a:Int))=(x==a)
 rw[bJ,beq_iff_eq]
 simp only[PyData.eqv,beq_iff_eq]
 exact Pw.BJ
section
variable {ft:FT}{n:Nat}{v0 v1 v2 v3 v4 v5 v8 v9:Var}
noncomputable def xE:List IS:=[.assign 1 (.comp (.bin .Add (.var 10) (.list [.var 11])) [(.one 10,.var 1,[]),(.one 11,.list [.tup [.var 2,.var 3],.tup [.var 3,.var 2]],[])] ["way","arc"] [2,3])]
theorem yy{ws:List (List Arc)}{e:Nat}{v6 v7:Var}(hl:ws.length≤1000)(hw:∀w∈ws,w.length<1000):dU ft (n+30) [v0,.fro (.list (ws.map gb)),.fro (aC (lo e)),.fro (aC (hi e)),v4,v5,v6,v7,v8,v9] xE=some (.next,[v0,.fro (.list ((eS ws e).map gb)),.fro (aC (lo e)),.fro (aC (hi e)),v4,v5,v6,v7,v8,v9]):=by
 have c:evE ft (n+28) [v0,.fro (.list (ws.map gb)),.fro (aC (lo e)),.fro (aC (hi e)),v4,v5,v6,v7,v8,v9] (.comp (.bin .Add (.var 10) (.list [.var 11])) [(.one 10,.var 1,[]),(.one 11,.list [.tup [.var 2,.var 3],.tup [.var 3,.var 2]],[])] ["way","arc"] [2,3])=some (.list ((eS ws e).map gb)):=by
  refine tK ?_
  unfold j8
  dsimp only
  rw[fe (xs:=ws.map gb) (aF rfl) (by rw[ag]; exact Pw.KA hl),bC,jI (g:=fun w=>[gb (w++[(lo e,hi e)]),gb (w++[(hi e,lo e)])])]
  ·have e1:(ws.flatMap fun w=>[gb (w++[(lo e,hi e)]),gb (w++[(hi e,lo e)])])=(eS ws e).map gb:=by
    unfold eS
    rw[List.map_flatMap]; rfl
   rw[bC,e1,if_pos]
   rw[ag,waysUp_len,few_eq]; exact Pw.Kz hl
  ·intro w hmem
   have c1:∀a:Arc,dO .Add (gb w) (.list [l3 a])=some (gb (w++[a])):=by
    intro a
    have:=hw w hmem
    have:=lk (a:=w.map l3) (b:=[l3 a]) (by rw[ag]; simp only[ah,aE]; exact Pw.Ky this)
    unfold gb
    rw[this,aZ]; rfl
   show((some ([.u0,.u0,.fro (aC (lo e)),.fro (aC (hi e)),.u0,.u0,.u0,.u0,.u0,.u0,.fro (gb w),.u0]:St)).bind _)=_
   rw[bC]
   show(nS (evE ft (n+27)) _ _ _)=_
   rw[Ap,uP (xs:=[l3 (lo e,hi e),l3 (hi e,lo e)]) (d8 (aS (lR (aS (aF rfl) (aS (aF rfl) bU)) (by rw[few_eq]; show 2≤_; exact Pw.jE)) (aS (lR (aS (aF rfl) (aS (aF rfl) bU)) (by rw[few_eq]; show 2≤_; exact Pw.jE)) bU)) (by rw[few_eq]; show 2≤_; exact Pw.jE)) (by show 2<_; exact Pw.Kx),bC]
   have k1:∀a:Arc,evE ft (n+27) [.u0,.u0,.fro (aC (lo e)),.fro (aC (hi e)),.u0,.u0,.u0,.u0,.u0,.u0,.fro (gb w),.fro (l3 a)] (.bin .Add (.var 10) (.list [.var 11]))=some (gb (w++[a])):=fun a=>cm (aF rfl) (d8 (aS (aF rfl) bU) (by rw[few_eq]; show 1≤_; exact Pw.mP)) (c1 a)
   refine aj (jI (enc:=l3) (l:=[(lo e,hi e),(hi e,lo e)]) (g:=fun a=>[gb (w++[a])]) fun a υ=>?_) rfl
   show(evE ft (n+27) [.u0,.u0,.fro (aC (lo e)),.fro (aC (hi e)),.u0,.u0,.u0,.u0,.u0,.u0,.fro (gb w),.fro (l3 a)] (.bin .Add (.var 10) (.list [.var 11]))).map _=_
   rw[k1 a]; rfl
 refine aj (aH (bf c)) ?_
 exact cU
theorem yz{v6 v7:Var}:∀(es:List Nat) (ws:List (List Arc)) (k:Nat) (w2 w3:Var),(∀w∈ws,w.length=k)→k+es.length<100→ws.length*2^es.length≤1000→
  ∃u2 u3,eV (.two 2 3) (fun σ=>dU ft (n+30) σ xE) (es.map road) [v0,.fro (.list (ws.map gb)),w2,w3,v4,v5,v6,v7,v8,v9]=some (.next,[v0,.fro (.list ((es.foldl eS ws).map gb)),u2,u3,v4,v5,v6,v7,v8,v9]):=by
 intro es
 induction es with
 | nil=>exact fun ws k w2 w3 υ υ υ=>⟨w2,w3,rfl⟩
 | cons e es ih=>
  intro ws k w2 w3 h hk hl
  rw[ah]at hk
  rw[ah,cC]at hl
  have hp:0<2^es.length:=dp _
  have h1:ws.length*1≤ws.length*(2^es.length*2):=bt _ (by omega)
  obtain⟨u2,u3,hh⟩:=ih (eS ws e) (k+1) (.fro (aC (lo e))) (.fro (aC (hi e))) (kO h) (by omega) (by rw[waysUp_len]; have:ws.length*(2^es.length*2)=2*ws.length*2^es.length:=(by rw[bx (2^es.length) 2,←eD,bx ws.length 2]); exact Pw.Kw this hl)
  refine uq u2 u3 ?_
  rw[aB]
  exact aj (fb rfl (yy (by exact Pw.Fh h1 hl) (fun w hw=>by have:=h w hw; exact Pw.Kv hk this))) hh
end
theorem BH(a:Arc):(l3 a).canLay0=true:=rfl
theorem BI(a:Arc):(l3 a).depth≤10:=by
 show PyData.depth (.tuple [.int _,.int _])≤10
 simp[PyData.depth,PyData.depthAll]
section
variable {ft:FT}{n:Nat}{v0 v1 v2 v3 v4 v5:Var}
noncomputable def qy:List IS:=[.assign 8 (.comp (.var 11) [(.two 10 11,.var 6,[])] ["low","high"] []),.assign 9 (.comp (.var 10) [(.one 10,.var 6,[.cmp .In (.idx (.var 10) (.int 0)) (.var 8)])] ["arc"] [8]),.assign 7 (.cmp .Lt (.bi .len [.var 9]) (.bi .len [.var 6])),.assign 6 (.var 9)]
theorem nf(a:List Arc):(fO a).length≤a.length:=dR _ _
theorem yq{a:List Arc}{v7 v8 v9:Var}(ha:a.length<1000):dU ft (n+30) [v0,v1,v2,v3,v4,v5,.fro (gb a),v7,v8,v9] qy=
  some (.next,[v0,v1,v2,v3,v4,v5,.fro (gb (fO a)),.fro (.bool (decide ((fO a).length<a.length))),.fro (.list ((a.map Prod.snd).map aC)),.fro (gb (fO a))]):=by
 have hs:=nf a
 have c1:evE ft (n+28) [v0,v1,v2,v3,v4,v5,.fro (gb a),v7,v8,v9] (.comp (.var 11) [(.two 10 11,.var 6,[])] ["low","high"] [])=some (.list ((a.map Prod.snd).map aC)):=by
  rw[bw]
  exact jL (l:=a) (enc:=l3) (g:=fun p=>aC p.2) (fe (aF rfl) (by rw[ag]; exact Pw.ox ha)) (σm:=[.u0,.u0,.u0,.u0,.u0,.u0,.u0,.u0,.u0,.u0,.u0,.u0]) rfl (by exact Pw.ox ha) fun p υ=>⟨[.u0,.u0,.u0,.u0,.u0,.u0,.u0,.u0,.u0,.u0,.fro (aC p.1),.fro (aC p.2)],rfl,aF rfl⟩
 refine aj (aH (bf c1)) ?_
 have c2:evE ft (n+27) [v0,v1,v2,v3,v4,v5,.fro (gb a),v7,.fro (.list ((a.map Prod.snd).map aC)),v9] (.comp (.var 10) [(.one 10,.var 6,[.cmp .In (.idx (.var 10) (.int 0)) (.var 8)])] ["arc"] [8])=some (gb (fO a)):=by
  refine fD (l:=a) (enc:=l3) (p:=fun p=>(a.map Prod.snd).any fun x=>x==p.1) (g:=l3) (fe (aF rfl) (by rw[ag]; exact Pw.ox ha)) (σm:=[.u0,.u0,.u0,.u0,.u0,.u0,.u0,.u0,.fro (.list ((a.map Prod.snd).map aC)),.u0,.u0]) rfl (by exact Pw.ox ha) fun p υ=>⟨[.u0,.u0,.u0,.u0,.u0,.u0,.u0,.u0,.fro (.list ((a.map Prod.snd).map aC)),.u0,.fro (l3 p)],rfl,?_,fun υ=>aF rfl⟩
  exact fF (ei (j6 (aF rfl) cO rfl (gM (L:=0) (by decide))) (aF rfl) (in_D _ _)) rfl
 refine aj (aH (bf c2)) ?_
 have c3:=iM (xs:=(fO a).map l3) (by rw[ag]; exact Pw.Ku ha hs)
 have c4:=iM (xs:=a.map l3) (by rw[ag]; exact Pw.ox ha)
 rw[ag]at c3 c4
 have c5:gj .Lt (.int ((fO a).length:Nat)) (.int (a.length:Nat))=some (decide ((fO a).length<a.length)):=by
  show some (decide _)=_
  congr 1
  rw[decide_eq_decide]; exact Pw.Kt
 refine aj (aH (bf (ei (kq (aS (aF rfl) bU) c3) (kq (aS (aF rfl) bU) c4) c5))) ?_
 refine aj (aH (bf (aF rfl))) ?_
 exact cU
theorem yr:∀(k:Nat) (a:List Arc) (v8 v9:Var),a.length<k→k<900→∃w8 w9,
  gR (fun σ=>fN ft (n+30) σ (.var 7)) (fun σ=>dU ft (n+30) σ qy) (k+1) [v0,v1,v2,v3,v4,v5,.fro (gb a),.fro (.bool true),v8,v9]=some (.next,[v0,v1,v2,v3,v4,v5,.fro (gb (peelP k a)),.fro (.bool false),w8,w9]):=by
 intro k
 induction k with
 | zero=>exact fun a υ υ h υ=>absurd h (Nat.not_lt_zero _)
 | succ k ih=>
  intro a v8 v9 h hk
  have hs:=nf a
  have t1:fN ft (n+30) [v0,v1,v2,v3,v4,v5,.fro (gb a),.fro (.bool true),v8,v9] (.var 7)=some true:=fF (aF rfl) rfl
  rw[l7,t1,bC,if_pos rfl,yq (by exact Pw.Ks hk h),bC]
  show ∃w8 w9,gR _ _ (k+1) _=_
  rw[lG]
  by_cases hl:(fO a).length<a.length
  ·rw[decide_eq_true hl,if_pos hl]
   exact ih (fO a) _ _ (by exact Pw.Kr h hl) (by exact Pw.uv hk)
  ·rw[decide_eq_false hl,if_neg hl]
   refine uq (.fro (.list ((a.map Prod.snd).map aC))) (.fro (gb (fO a))) ?_
   have t2:∀{u8 u9:Var},fN ft (n+30) [v0,v1,v2,v3,v4,v5,.fro (gb (fO a)),.fro (.bool false),u8,u9] (.var 7)=some false:=fF (aF rfl) rfl
   rw[l7,t2]
   rfl
noncomputable def pb:List IS:=[.assign 6 (.var 5),.assign 7 (.bool true),.whil 100 (.var 7) qy,.ife (.cmp .Eq (.var 6) (.list [])) [.assign 4 (.bin .Add (.var 4) (.int 1))] []]
theorem ta{a:List Arc}{g:Nat}{v5 v6 v7 v8 v9:Var}(ha:a.length<99):∃w6 w7 w8 w9,dU ft (n+35) [v0,v1,v2,v3,.fro (aC g),.fro (gb a),v6,v7,v8,v9] pb=some (.next,[v0,v1,v2,v3,.fro (aC (g+if acycP a then 1 else 0)),.fro (gb a),w6,w7,w8,w9]):=by
 refine mW (yr (ft:=ft) (n:=n+1) (v0:=v0) (v1:=v1) (v2:=v2) (v3:=v3) (v4:= .fro (aC g)) (v5:= .fro (gb a)) 99 a v8 v9 ha (by decide)) fun w8 w9 hh=>?_
 have ce:=nX (l:=(peelP 99 a).map l3) (by
  intro d hd
  refine bq (bg.mp hd) fun p υ e58_1=>?_; subst e58_1
  exact BH p) (by
  intro d hd
  refine bq (bg.mp hd) fun p υ e61_1=>?_; subst e61_1
  exact BI p)
 rw[List.isEmpty_map]at ce
 change gj .Eq (gb (peelP 99 a)) (.list [])=some (acycP a) at ce
 refine Dz (.fro (gb (peelP 99 a))) (.fro (.bool false)) w8 w9 ?_
 refine aj (aH (bf (aF rfl))) ?_
 refine aj (aH (bf pq)) ?_
 refine aj (aH (σ':=[v0,v1,v2,v3,.fro (aC g),.fro (gb a),.fro (gb (peelP 99 a)),.fro (.bool false),w8,w9]) hh) ?_
 have ht:fN ft (n+30) [v0,v1,v2,v3,.fro (aC g),.fro (gb a),.fro (gb (peelP 99 a)),.fro (.bool false),w8,w9] (.cmp .Eq (.var 6) (.list []))=some (acycP a):=fF (ei (aF rfl) (d8 bU (by decide)) ce) rfl
 have c1:dO .Add (aC g) (.int 1)=some (aC (g+1)):=dZ g 1
 cases hb:acycP a with
 | true=>
  rw[hb]at ht
  refine aj (aH (aj (jC ht) (aj (aH (bf (cm (aF rfl) cO c1))) cU))) ?_
  exact cU
 | false=>
  rw[hb]at ht
  refine aj (aH (aj (fV ht) cU)) ?_
  exact cU
theorem tc:∀(ws:List (List Arc)) (g:Nat) (v5 v6 v7 v8 v9:Var),(∀w∈ws,w.length<99)→∃w5 w6 w7 w8 w9,
  eV (.one 5) (fun σ=>dU ft (n+35) σ pb) (ws.map gb) [v0,v1,v2,v3,.fro (aC g),v5,v6,v7,v8,v9]=some (.next,[v0,v1,v2,v3,.fro (aC (g+(ws.filter acycP).length)),w5,w6,w7,w8,w9]):=by
 intro ws
 induction ws with
 | nil=>exact fun g v5 v6 v7 v8 v9 υ=>⟨v5,v6,v7,v8,v9,rfl⟩
 | cons w ws ih=>
  intro g v5 v6 v7 v8 v9 h
  refine FO (ta (ft:=ft) (n:=n) (v0:=v0) (v1:=v1) (v2:=v2) (v3:=v3) (g:=g) (v5:=v5) (v6:=v6) (v7:=v7) (v8:=v8) (v9:=v9) (h w (.head _))) fun w6 w7 w8 w9 h1=>?_
  refine B7 (ih (g+if acycP w then 1 else 0) (.fro (gb w)) w6 w7 w8 w9 (fun q hq=>h q (.tail _ hq))) fun u5 u6 u7 u8 u9 hh=>?_
  refine i5_1 u5 u6 u7 u8 u9 ?_
  rw[aB]
  refine aj (fb rfl h1) ?_
  rw[hh,dA]
  cases acycP w
  ·rfl
  ·rw[if_pos rfl,if_pos rfl,ah,bP,cS 1]
end
theorem hY:∀(es:List Nat) (ws:List (List Arc)) (k:Nat),(∀w∈ws,w.length=k)→∀w∈es.foldl eS ws,w.length=k+es.length
 | [],ws,k,h=>h
 | e::es,ws,k,h=>by
  intro w hw
  have:=hY es (eS ws e) (k+1) (kO h) w hw
  rw[ah]; exact Pw.Kq this
theorem ia:∀(es:List Nat) (ws:List (List Arc)),(es.foldl eS ws).length=ws.length*2^es.length
 | [],ws=>by simp
 | e::es,ws=>by
  rw[bH,ia es,waysUp_len,ah,cC,bx 2,eD,bx 2]
theorem zm{ft:FT}{a:Nat}{r:List Nat}(hr:r.length≤6):DT.run ft 40 [rsD (a::r)]=some (aC (xQ (a::r))):=by
 have h0:∀w∈[[((lo a,hi a):Arc)]],w.length=1:=by
  intro w hw
  rw[ay]at hw; subst hw; rfl
 have hp:(2:Nat)^r.length≤2^6:=aY (by decide) hr
 refine mW (yz (ft:=ft) (n:=7) (v0:= .fro (rsD (a::r))) (v4:= .u0) (v5:= .u0) (v8:= .u0) (v9:= .u0) (v6:= .u0) (v7:= .u0) r [[(lo a,hi a)]] 1 .u0 .u0 h0 (by exact Pw.Kp hr) (by show 1*_≤_; exact Pw.Kn hp)) fun u2 u3 h1=>?_
 refine B7 (tc (ft:=ft) (n:=0) (v0:= .fro (rsD (a::r))) (v1:= .fro (.list ((r.foldl eS [[(lo a,hi a)]]).map gb))) (v2:=u2) (v3:=u3) (r.foldl eS [[(lo a,hi a)]]) 0 .u0 .u0 .u0 .u0 .u0 (fun w hw=>by have:=hY r _ 1 h0 w hw; exact Pw.Km this hr)) fun w5 w6 w7 w8 w9 h2=>?_
 have e0:0+((r.foldl eS [[(lo a,hi a)]]).filter acycP).length=xQ (a::r):=cR _
 rw[e0]at h2
 refine fz (σ:=[.fro (rsD (a::r)),.fro (.list ((r.foldl eS [[(lo a,hi a)]]).map gb)),u2,u3,.fro (aC (xQ (a::r))),w5,w6,w7,w8,w9]) rfl ?_
 unfold DT
 refine aj (aH (bf (d8 (ds:=[gb [(lo a,hi a)]]) (aS (d8 (ds:=[road a]) (aS (j6 (aF rfl) cO rfl (gM (L:=0) (by decide))) bU) (by rw[few_eq]; show 1≤_; exact Pw.mP)) bU) (by rw[few_eq]; show 1≤_; exact Pw.mP)))) ?_
 refine aj (aH (aj (fW (qK (xs:=r.map road) (n4 (xs:=(a::r).map road) (l:=some ((1:Nat):Int)) (h:=none) (aF rfl) rfl rfl (oP (by decide) (by rw[ag,ah]; exact Pw.Kl hr))) (by rw[ag]; exact Pw.Kk hr)) h1) cU)) ?_
 refine aj (aH (bf cO)) ?_
 refine aj (aH (aj (fW (fe (xs:=(r.foldl eS [[(lo a,hi a)]]).map gb) (aF rfl) (by rw[ag,ia]; show 1*_<_; exact Pw.Kj hp)) h2) cU)) ?_
 exact dt (gQ (aF rfl)) (by exact Fl.noConfusion)
end Pl
end
end
section
open PySem
set_option maxRecDepth 8000
namespace Pl
open Pw
noncomputable def BY(rs:List Nat)(o t:Nat):Bool:=rs.any fun e=>lo e==o&&hi e==t
noncomputable def iq(rs:List Nat)(t:Nat)(row:List Nat):List Nat:=((bT 1 (t-1)).filter fun o=>BY rs o t).map fun o=>row.getD (o-1) 0
noncomputable def topP(row:List Nat):Nat:=row.foldl (fun m x=>if m<x+1 then x+1 else m) 0+1
noncomputable def fQ(rs:List Nat)(t:Nat)(row:List Nat):List (List Nat):=((bT 0 (topP row)).filter fun c=> !((iq rs t row).any fun x=>x==c)).map fun c=>row++[c]
noncomputable def nz(rs:List Nat):List Nat→List (List Nat)→List (List Nat)
 | [],rows=>rows
 | t::ts,rows=>nz rs ts (rows.flatMap (fQ rs t))
theorem rB{rs:List Nat}{t ts rows}:nz rs (t::ts) rows=(nz rs ts (rows.flatMap (fQ rs t))):=rfl
noncomputable def jD(rs:List Nat):List (List Nat):=nz rs [1,2,3,4,5] [[]]
theorem wC(e o t:Nat):PyData.eqv (road e) (.tuple [aC o,aC t])=(lo e==o&&hi e==t):=by
 unfold road aC
 simp only[PyData.eqv,PyData.eqvAll,Bool.and_true]
 rw[bJ]
 simp only[aV,beq_iff_eq]
 exact Pw.MY
theorem mf(rs:List Nat):cu (.list (rs.map road))=true:=by
 refine gH ?_ ?_<;>intro d hd<;>obtain⟨e,_,rfl⟩:=bg.mp hd
 ·rfl
 ·show PyData.depth (.tuple [.int _,.int _])≤10
  simp[PyData.depth,PyData.depthAll]
theorem sN(rs:List Nat)(o t:Nat):gj .In (.tuple [aC o,aC t]) (rsD rs)=some (BY rs o t):=by
 have h1:cu (.tuple [aC o,aC t])=true:=by
  unfold cu SeqAt.shaped
  rw[aV,decide_eq_true_iff]
  refine⟨rfl,?_⟩
  show PyData.depth (.tuple [.int _,.int _])≤_
  simp[PyData.depth,PyData.depthAll]
 unfold rsD
 rw[EJ (by rw[h1,mf]; rfl),List.any_map]
 unfold BY
 congr 2
 funext e
 exact wC e o t
theorem zv(l:List Nat)(a:Nat):gj .NotIn (aC a) (.list (l.map aC))=some (!(l.any fun x=>x==a)):=by
 have h1:cu (aC a)=true:=rfl
 have h:=in_D l a
 change(if cu (aC a)&&cu (.list (l.map aC)) then some ((l.map aC).any fun x=>PyData.eqv x (aC a)) else none)=_ at h
 rw[h1,ij,if_pos (by rfl),ax.injEq]at h
 change(if cu (aC a)&&cu (.list (l.map aC)) then some (!(l.map aC).any fun x=>PyData.eqv x (aC a)) else none)=_
 rw[h1,ij,if_pos (by rfl),h]
theorem kQ{ft:FT}{n:Nat}{σ:St}{e1 e2:IE}{a b:Nat}(h1:evE ft n σ e1=some (aC a))(h2:evE ft n σ e2=some (aC b))(ha:a≤b)(hk:b<100000):jF (evE ft n) σ (.bi .range [e1,e2])=some ((bT a (b-a)).map aC):=by
 have:([e1,e2]:List IE).mapM (evE ft n σ)=some [aC a,aC b]:=aS h1 (aS h2 bU)
 refine ob1 this ((za (by rw[few_eq]; exact Pw.MX hk ha)).trans ?_)
 unfold fH
 rw[if_pos rfl,bw,show((b:Int)-(a:Int)).toNat=b-a from by exact Pw.MW,List.range'_eq_map_range,bw]
 congr 1
theorem tl:∀(r:List Nat) (a:Nat),(r.map fun(n:Nat)=>(n:Int)).foldl (fun m x=>if m<x then x else m) ((a:Int)-1)=((r.foldl (fun m x=>if m<x+1 then x+1 else m) a:Nat):Int)-1:=by
 intro r
 induction r with
 | nil=>
  exact fun υ=>rfl
 | cons b r ih=>
  intro a
  rw[aB,bH,bH,←ih]
  congr 1
  by_cases h:a<b+1
  ·rw[if_pos h,if_pos (by exact Pw.MV h)]; exact Pw.MU
  ·rw[if_neg h,if_neg (by exact Pw.MT h)]
theorem Dd(r:List Nat):biD .max1 [.list (.int (-1)::r.map aC)]=some (.int ((topP r:Int)-2)):=by
 show(gL (.int (-1)::r.map aC)).bind _=_
 rw[sL,gz,gK]
 show(xS (_::_)).map _=_
 rw[xS]
 show some (PyData.int _)=_
 have:=tl r 0
 rw[show((0:Nat):Int)-1= -1 from rfl]at this
 rw[this]
 unfold topP
 congr 2
 exact Pw.MS
section
variable {ft:FT}{n:Nat}{rs:List Nat}{t:Nat}
theorem pL(row:List Nat)(c:Nat)(hc:c<topP row):topP (row++[c])≤topP row+1:=by
 unfold topP at*
 rw[List.foldl_append,bH,List.foldl_nil]
 split<;>(first | exact Pw.ud hc | exact Pw.MQ)
noncomputable def nA:List IS:=[.assign 5 (.comp (.idx (.var 4) (.bin .Sub (.var 6) (.int 1))) [(.one 6,.bi .range [.int 1,.var 2],[.cmp .In (.tup [.var 6,.var 2]) (.var 0)])] ["other"] [0,2,4]),.extend 3 (.comp (.bin .Add (.var 4) (.list [.var 6])) [(.one 6,.bi .range [.bin .Add (.bi .max1 [.bin .Add (.list [.un .USub (.int 1)]) (.var 4)]) (.int 2)],[.cmp .NotIn (.var 6) (.var 5)])] ["c"] [4,5])]
theorem vg{row:List Nat}{ds:List D}{v1 v5:Var}(ht:1≤t)(ht6:t<6)(hr:row.length+1=t)(htop:topP row≤t)(hd:ds.length<10000):
  dU ft (n+30) [.fro (rsD rs),v1,.fro (aC t),.mut ds,.fro (gc row),v5] nA=some (.next,[.fro (rsD rs),v1,.fro (aC t),.mut (ds++(fQ rs t row).map gc),.fro (gc row),.fro (.list ((iq rs t row).map aC))]):=by
 have c1:evE ft (n+28) [.fro (rsD rs),v1,.fro (aC t),.mut ds,.fro (gc row),v5] (.comp (.idx (.var 4) (.bin .Sub (.var 6) (.int 1))) [(.one 6,.bi .range [.int 1,.var 2],[.cmp .In (.tup [.var 6,.var 2]) (.var 0)])] ["other"] [0,2,4])=some (.list ((iq rs t row).map aC)):=by
  unfold iq
  rw[bw]
  refine fD (l:=bT 1 (t-1)) (enc:=aC) (p:=fun o=>BY rs o t) (g:=fun o=>aC (row.getD (o-1) 0)) (kQ (a:=1) cO (aF rfl) ht (by exact Pw.MP ht6)) (σm:=[.fro (rsD rs),.u0,.fro (aC t),.u0,.fro (gc row),.u0,.u0]) rfl (by rw[List.length_range']; exact Pw.MO ht6) fun o ho=>⟨[.fro (rsD rs),.u0,.fro (aC t),.u0,.fro (gc row),.u0,.fro (aC o)],rfl,?_,fun υ=>?_⟩
  ·exact fF (ei (lR (aS (aF rfl) (aS (aF rfl) bU)) (by rw[few_eq]; show 2≤_; exact Pw.jE)) (aF rfl) (sN _ _ _)) rfl
  ·have ho2:=List.mem_range'_1.mp ho
   have c:=gG (a:=o) (b:=1) ho2.1
   exact j6 (aF rfl) (cm (aF rfl) cO c) rfl (te (by exact Pw.MN ho2 hr) (by exact Pw.MM ht6 ho2))
 refine aj (aH (bf c1)) ?_
 have c2:dO .Add (.list [.int (-1)]) (gc row)=some (.list (.int (-1)::row.map aC)):=lk (a:=[.int (-1)]) (b:=row.map aC) (by rw[ag]; simp only[ah,aE]; exact Pw.ML hr ht6)
 have c3:=Dd row
 have c4:dO .Add (.int ((topP row:Int)-2)) (.int 2)=some (aC (topP row)):=by
  show some (PyData.int ((topP row:Int)-2+2))=some (.int (topP row:Nat))
  rw[Int.sub_add_cancel]
 have c5:evE ft (n+27) [.fro (rsD rs),v1,.fro (aC t),.mut ds,.fro (gc row),.fro (.list ((iq rs t row).map aC))] (.comp (.bin .Add (.var 4) (.list [.var 6])) [(.one 6,.bi .range [.bin .Add (.bi .max1 [.bin .Add (.list [.un .USub (.int 1)]) (.var 4)]) (.int 2)],[.cmp .NotIn (.var 6) (.var 5)])] ["c"] [4,5])=some (.list ((fQ rs t row).map gc)):=by
  unfold fQ
  rw[bw]
  have c6:evE ft (n+26) [.fro (rsD rs),v1,.fro (aC t),.mut ds,.fro (gc row),.fro (.list ((iq rs t row).map aC))] (.bin .Add (.bi .max1 [.bin .Add (.list [.un .USub (.int 1)]) (.var 4)]) (.int 2))=some (aC (topP row)):=by
   refine cm (kq (aS (cm (x:= .list [.int (-1)]) (d8 (aS (uu cO rfl) bU) ?_) (aF rfl) c2) bU) c3) cO c4
   rw[few_eq]; show 1≤_; exact Pw.mP
  refine fD (l:=bT 0 (topP row)) (enc:=aC) (p:=fun c=> !((iq rs t row).any fun x=>x==c)) (g:=fun c=>gc (row++[c])) (ma c6 (by exact Pw.Fj ht6 htop)) (σm:=[.u0,.u0,.u0,.u0,.fro (gc row),.fro (.list ((iq rs t row).map aC)),.u0]) rfl (by rw[List.length_range']; exact Pw.Fj ht6 htop) fun c hc=>⟨[.u0,.u0,.u0,.u0,.fro (gc row),.fro (.list ((iq rs t row).map aC)),.fro (aC c)],rfl,?_,fun υ=>?_⟩
  ·exact fF (ei (aF rfl) (aF rfl) (zv _ _)) rfl
  ·have:=lk (a:=row.map aC) (b:=[aC c]) (by rw[ag]; simp only[ah,aE]; exact Pw.MK hr ht6)
   refine(cm (aF rfl) (d8 (aS (aF rfl) bU) (by rw[few_eq]; show 1≤_; exact Pw.mP)) this).trans ?_
   unfold gc
   rw[aZ]; rfl
 have hg:(fQ rs t row).length≤t:=by
  unfold fQ
  rw[ag]
  have:=dR (fun c=> !((iq rs t row).any fun x=>x==c)) (bT 0 (topP row))
  rw[List.length_range']at this; exact Pw.MJ this htop
 refine aj (aH (jH rfl c5 (by rw[ag,few_eq]; exact Pw.MI hd ht6 hg))) ?_
 exact cU
theorem vX{row r:List Nat}(h:r∈fQ rs t row):r.length=row.length+1∧topP r≤topP row+1:=by
 unfold fQ at h
 refine bq (bg.mp h) fun c hc e27_1=>?_; subst e27_1
 have:=(List.mem_filter.mp hc).1
 have:=List.mem_range'_1.mp this
 exact⟨by rw[ak]; rfl,pL _ _ (by exact Pw.MH this)⟩
theorem o8(row:List Nat):(fQ rs t row).length≤topP row:=by
 unfold fQ
 rw[ag]
 have:=dR (fun c=> !((iq rs t row).any fun x=>x==c)) (bT 0 (topP row))
 rwa[List.length_range']at this
theorem rz{v1:Var}(ht:1≤t)(ht6:t<6):∀(rows acc:List (List Nat)) (v4 v5:Var),(∀r∈rows,r.length+1=t∧topP r≤t)→acc.length+rows.length*5<5000→
  ∃w4 w5,eV (.one 4) (fun σ=>dU ft (n+30) σ nA) (rows.map gc) [.fro (rsD rs),v1,.fro (aC t),.mut (acc.map gc),v4,v5]=some (.next,[.fro (rsD rs),v1,.fro (aC t),.mut ((acc++rows.flatMap (fQ rs t)).map gc),w4,w5]):=by
 intro rows
 induction rows with
 | nil=>
  exact fun acc v4 v5 υ υ=>⟨v4,v5,by rw[List.flatMap_nil,List.append_nil]; rfl⟩
 | cons r rows ih=>
  intro acc v4 v5 h hl
  refine fu (h r (.head _)) fun h1 h2=>?_
  have hg:=o8 (rs:=rs) (t:=t) r
  rw[ah]at hl
  refine mW (ih (acc++fQ rs t r) (.fro (gc r)) (.fro (.list ((iq rs t r).map aC))) (fun q hq=>h q (.tail _ hq)) (by rw[ak]; exact Pw.MG hl ht6 h2 hg)) fun w4 w5 hh=>?_
  refine uq w4 w5 ?_
  rw[aB]
  refine aj (fb rfl (vg (v5:=v5) ht ht6 h1 h2 (by rw[ag]; exact Pw.MF hl))) ?_
  rw[←aZ,hh,cP,bo]
noncomputable def CQ:List IS:=[.assignM 3 (.list []),.fore (.one 4) (.var 1) nA [],.frz 3,.assign 1 (.var 3)]
theorem wk{rows:List (List Nat)}(h:∀r∈rows,topP r≤t):(rows.flatMap (fQ rs t)).length≤rows.length*t:=by
 induction rows with
 | nil=>simp
 | cons r rows ih=>
  have h1:=ih fun q hq=>h q (.tail _ hq)
  have h2:=o8 (rs:=rs) (t:=t) r
  have h3:=h r (.head _)
  rw[cP,ak,ah,Nat.succ_mul]; exact Pw.ME h2 h3 h1
theorem rt:∀(k t:Nat) (rows:List (List Nat)) (v2 v3 v4 v5:Var),1≤t→t+k=6→(∀r∈rows,r.length+1=t∧topP r≤t)→rows.length*(bT t k).foldl (·*·) 1≤120→
  ∃w2 w3 w4 w5,eV (.one 2) (fun σ=>dU ft (n+35) σ CQ) ((bT t k).map aC) [.fro (rsD rs),.fro (.list (rows.map gc)),v2,v3,v4,v5]=some (.next,[.fro (rsD rs),.fro (.list ((nz rs (bT t k) rows).map gc)),w2,w3,w4,w5]):=by
 intro k
 induction k with
 | zero=>
  exact fun t rows v2 v3 v4 v5 υ υ υ υ=>⟨v2,v3,v4,v5,rfl⟩
 | succ k ih=>
  intro t rows v2 v3 v4 v5 ht hk h hl
  have hfm:∀(l:List Nat) (a:Nat),l.foldl (·*·) a=a*l.foldl (·*·) 1:=by
   intro l
   induction l with
   | nil=>intro a; simp
   | cons b l ih=>intro a; rw[bH,bH,ih (a*b),ih (1*b),Nat.one_mul,eD]
  have hpos:∀k t:Nat,1≤t→1≤(bT t k).foldl (·*·) 1:=by
   intro k
   induction k with
   | zero=>intro t _; exact bL _
   | succ k ih=>
    intro t ht
    rw[dw,bH,hfm,Nat.one_mul]
    have:=fk ht (ih (t+1) (by exact Pw.Fi))
    exact Pw.qo this
  have hl0:rows.length≤120:=by
   have:=bt rows.length (hpos (k+1) t ht)
   exact Pw.Fh this hl
  refine mW (rz (ft:=ft) (n:=n+2) (rs:=rs) (v1:= .fro (.list (rows.map gc))) ht (by exact Pw.aq34 hk) rows [] v4 v5 h (by rw[aE]; exact Pw.MD hl0)) fun w4 w5 h1=>?_
  rw[List.nil_append]at h1
  have hl2:(rows.flatMap (fQ rs t)).length*(bT (t+1) k).foldl (·*·) 1≤120:=by
   rw[dw,bH,hfm,Nat.one_mul,←eD]at hl
   exact af (cX _ (wk fun r hr=>(h r hr).2)) hl
  obtain⟨u2,u3,u4,u5,hh⟩:=ih (t+1) (rows.flatMap (fQ rs t)) (.fro (aC t)) (.fro (.list ((rows.flatMap (fQ rs t)).map gc))) w4 w5 (by exact Pw.Fi) (by exact Pw.aq35 hk) (by
   intro r hr
   refine bq (List.mem_flatMap.mp hr) fun q hq hr=>?_
   refine fu (vX hr) fun a1 a2=>?_
   refine fu (h q hq) fun b1 b2=>?_
   exact⟨by exact Pw.MC a1 b1,by exact Pw.MB a2 b2⟩) hl2
  refine Dz u2 u3 u4 u5 ?_
  rw[dw,aB]
  refine aj (fb rfl (σ'':=[.fro (rsD rs),.fro (.list ((rows.flatMap (fQ rs t)).map gc)),.fro (aC t),.fro (.list ((rows.flatMap (fQ rs t)).map gc)),w4,w5]) ?_) hh
  refine aj (aH (dX (d8 bU (by decide)))) ?_
  refine aj (aH (aj (fW (fe (aF rfl) (by rw[ag]; exact Pw.MA hl0)) h1) cU)) ?_
  refine aj (aH (pP rfl)) ?_
  refine aj (aH (bf (aF rfl))) ?_
  exact cU
end
theorem zg{ft:FT}{rs:List Nat}:DS.run ft 40 [rsD rs]=some (.list ((jD rs).map gc)):=by
 obtain⟨w2,w3,w4,w5,hh⟩:=rt (ft:=ft) (n:=2) (rs:=rs) 5 1 [[]] .u0 .u0 .u0 .u0 (by decide) rfl (by
  intro r hr
  rw[ay]at hr; subst hr; exact⟨rfl,by decide⟩) (by decide)
 refine fz (σ:=[.fro (rsD rs),.fro (.list ((jD rs).map gc)),w2,w3,w4,w5]) rfl ?_
 unfold DS
 refine aj (aH (bf (d:= .list [gc []]) (d8 (aS (d8 bU (by decide)) bU) (by rw[few_eq]; show 1≤_; exact Pw.mP)))) ?_
 refine aj (aH (aj (fW (kQ (a:=1) (b:=6) cO cO (by decide) (by decide)) hh) cU)) ?_
 exact dt (gQ (aF rfl)) (by exact Fl.noConfusion)
end Pl
end
section
open PySem
set_option maxRecDepth 8000
set_option exponentiation.threshold 50000
namespace Pl
open Pw
theorem k9{a:Nat}:a<2^bitLen (a:Int):=by
 unfold bitLen
 by_cases h:a=0
 ·subst h; decide
 ·rw[if_neg (by exact Pw.F1 h),aT]
  exact(Nat.log2_lt h).mp (bZ _)
theorem iT{a k:Nat}(h:a<2^k):bitLen (a:Int)≤k:=by
 unfold bitLen
 by_cases h0:a=0
 ·subst h0; simp
 ·rw[if_neg (by exact Pw.F1 h0),aT]
  exact(Nat.log2_lt h0).mpr h
theorem kg{a k:Nat}(h:2^k≤a):k+1≤bitLen (a:Int):=by
 have h0:a≠0:=by have:=dp k; exact Pw.Mz this h
 unfold bitLen
 rw[if_neg (by exact Pw.F1 h0),aT]
 have:=(Nat.le_log2 h0).mpr h
 exact Pw.ud this
theorem AS{ft:FT}{a b n:Nat}(hb:0<b)(hb2:b<2^5000)(ha:a<2^4000):B0.run ft 20 [aC a,aC b,aC n]=some (.tuple [aC (a / b),aC (a%b)]):=by
 have hl:=iT ha
 have c1:mtD .bitLength (aC a) []=some (.int (bitLen (a:Int):Nat)):=rfl
 have c2:dO .Sub (.int (bitLen (a:Int):Nat)) (aC n)=some (.int ((bitLen (a:Int):Nat)-(n:Int))):=rfl
 have c3:gj .LtE (.int ((bitLen (a:Int):Nat)-(n:Int))) (.int 4000)=some true:=by
  show some (decide _)=_
  rw[decide_eq_true (by exact Pw.My hl)]
 have c4:biD .divmod [aC a,aC b]=some (.tuple [aC (a / b),aC (a%b)]):=by
  unfold aC
  rw[b_dm ⟨by exact Pw.B4 hb,by rw[aT]; exact hb2⟩,Int.fdiv_eq_ediv_of_nonneg _ (by exact Pw.Fg),fg _ (by exact Pw.Fg)]
  rfl
 refine fz (σ:=[.fro (aC a),.fro (aC b),.fro (aC n),.u0,.u0,.u0,.u0,.u0,.u0,.u0,.u0]) rfl ?_
 unfold B0
 exact dt (aj (jC (fF (ei (cm (qt (aF rfl) bU c1) (aF rfl) c2) (wL rfl) c3) rfl)) (dt (gQ (kq (aS (aF rfl) (aS (aF rfl) bU)) c4)) (by exact Fl.noConfusion))) (by exact Fl.noConfusion)
noncomputable def lv(n:Nat):List Nat→Nat
 | []=>0
 | d::r=>d+2^n*lv n r
theorem lv_1{n:Nat}:lv n []=(0):=rfl
theorem Dg{n:Nat}{d r}:lv n (d::r)=(d+2^n*lv n r):=rfl
noncomputable def dq(b n:Nat):List Nat→List Nat×Nat
 | []=>([],0)
 | d::ds=>(((dq b n ds).2*2^n+d) / b::(dq b n ds).1,((dq b n ds).2*2^n+d)%b)
theorem dq_1{b n:Nat}:dq b n []=(([],0)):=rfl
theorem D6{b n:Nat}{d ds}:dq b n (d::ds)=((((dq b n ds).2*2^n+d) / b::(dq b n ds).1,((dq b n ds).2*2^n+d)%b)):=rfl
theorem tM{b n:Nat}(hb:0<b):∀ds:List Nat,lv n (dq b n ds).1*b+(dq b n ds).2=lv n ds∧(dq b n ds).2<b:=by
 intro ds
 induction ds with
 | nil=>
  exact⟨by simp[dq_1,D6,lv_1,Dg],hb⟩
 | cons d ds ih=>
  obtain⟨h1,h2⟩:=ih
  refine⟨?_,eN _ hb⟩
  rw[D6,Dg,Dg,←h1]
  dsimp only
  generalize(dq b n ds).2=r
  generalize lv n (dq b n ds).1=q
  have:=ek (r*2^n+d) b
  rw[Nat.add_mul,bx (_ / b) b]
  rw[d7,eD,bx (2^n) r]
  exact Pw.Mx this
theorem ye(b n:Nat):∀ds:List Nat,(dq b n ds).1.length=ds.length:=by
 intro ds
 induction ds with
 | nil=>
  exact rfl
 | cons d ds ih=>
  exact by rw[D6,ah,ah,ih]
theorem HQ{b n:Nat}(hb:0<b):∀ds:List Nat,(∀d∈ds,d<2^n)→∀q∈(dq b n ds).1,q<2^n:=by
 intro ds
 induction ds with
 | nil=>
  exact fun υ=>fun q hq=>by cases hq
 | cons d ds ih=>
  intro h
  intro q hq
  rw[D6]at hq
  rcases aP.mp hq with e | e
  ·subst e
   have h2:=(tM (n:=n) hb ds).2
   have h3:=h d (.head _)
   rw[Nat.div_lt_iff_lt_mul hb]
   have:((dq b n ds).2+1)*2^n≤b*2^n:=cX _ h2
   rw[Nat.add_mul,Nat.one_mul]at this
   rw[bx (2^n) b]; exact Pw.Mw h3 this
  ·exact ih (fun x hx=>h x (.tail _ hx)) q e
theorem Df(a n:Nat):∀(k s:Nat),a<2^(n*(s+k))→lv n ((bT s k).map fun i=>a / 2^(n*i)%2^n)=a / 2^(n*s):=by
 intro k
 induction k with
 | zero=>
  intro s h
  rw[Nat.add_zero]at h
  rw[List.range'_zero,List.map_nil,lv_1,dP h]
 | succ k ih=>
  intro s h
  rw[dw,aB,Dg,ih (s+1) (by rw[show s+1+k=s+(k+1) from by exact Pw.ET]; exact h),d7 n s 1,eC,d6,←Nat.div_div_eq_div_mul]
  have:=ek (a / 2^(n*s)) (2^n)
  exact Pw.Mv this
theorem De{a n:Nat}(hn:0<n):lv n (i2dN a n)=a:=by
 unfold i2dN
 rw[List.range_eq_range',Df]
 ·simp
 ·refine aK (k9 (a:=a)) (aY (by decide) ?_)
  have:=ek (bitLen (a:Int)+n-1) n
  have:=eN (bitLen (a:Int)+n-1) hn
  rw[cR]; lia -abstractProof
theorem D9(n:Nat):∀ds:List Nat,kK n (ds.map fun(n:Nat)=>(n:Int))=(lv n ds:Nat):=by
 intro ds
 induction ds with
 | nil=>
  exact rfl
 | cons d ds ih=>
  rw[aB,jy,ih,Dg,cg,b0,cW]; rfl
theorem vZ{t:Tg}{body:St→Option (Fl×St)}{l2:List D}:∀{l1:List D} {σ σ':St},eV t body l1 σ=some (.next,σ')→eV t body (l1++l2) σ=eV t body l2 σ':=by
 intro l1
 induction l1 with
 | nil=>
  intro σ σ' h
  rw[Aw,ax.injEq,Prod.mk.injEq]at h
  rw[List.nil_append,h.2]
 | cons d l1 ih=>
  intro σ σ' h
  rw[tj]at h
  rw[cY,tj]
  refine bq (ao.mp h) fun σ1 h1 h=>?_
  refine bq (ao.mp h) fun w11_1 h2 h=>?_; obtain⟨f,σ2⟩:=w11_1
  rw[h1,bC,h2,bC]
  cases f with
  | next=>exact ih h
  | brk=>cases h
  | ret d=>cases h
theorem ng{ev:St→IE→Option D}{σ:St}{e:IE}{xs:List D}(h:ev σ e=some (.list xs))(hl:xs.length<100000):jF ev σ (.bi .reversed [e])=some xs.reverse:=by
 exact ob1 h (va (by rw[few_eq]; exact Pw.jm hl))
theorem shlB{a i:Nat}(ha:a<2^4000)(h:i<10000):dO .LShift (aC a) (aC i)=some (aC (a*2^i)):=by
 unfold aC
 rw[xn ⟨aN _,by exact Pw.EP h,oV (by rw[aT]; exact ff (bz ha) (by decide)) (by show 0<_; exact dp _)⟩,aG]
 simp
noncomputable def AR:List IS:=[.unpack 7 4 (.call 1 [.bin .Add (.bin .LShift (.var 4) (.var 2)) (.var 6),.var 1,.var 2]),.append 5 (.var 7)]
section
variable {ft:FT}{n b:Nat}{v0 v3 v8:Var}
theorem wM(h1:∃ft',ft 1=some (21,fun ds=>B0.run ft' 20 ds))(hb:0<b)(hb2:b<2^1000)(hn:n<1000)(m:Nat):∀(ds:List Nat) (v6 v7:Var),(∀d∈ds,d<2^n)→ds.length<100→∃w6 w7,
  eV (.one 6) (fun σ=>dU ft (m+30) σ AR) (ds.reverse.map aC) [v0,.fro (aC b),.fro (aC n),v3,.fro (aC 0),.mut [],v6,v7,v8]=some (.next,[v0,.fro (aC b),.fro (aC n),v3,.fro (aC (dq b n ds).2),.mut ((dq b n ds).1.reverse.map aC),w6,w7,v8]):=by
 intro ds
 induction ds with
 | nil=>
  exact fun v6 v7 υ υ=>⟨v6,v7,rfl⟩
 | cons d ds ih=>
  intro v6 v7 h hl
  rw[ah]at hl
  refine mW (ih v6 v7 (fun x hx=>h x (.tail _ hx)) (by exact Pw.uv hl)) fun w6 w7 hh=>?_
  refine dh h1 fun ft' h1'=>?_
  have hr:=(tM (n:=n) hb ds).2
  have hd:=h d (.head _)
  have hlen:=ye b n ds
  rw[D6]
  dsimp only
  generalize(dq b n ds).2=r at*
  generalize(dq b n ds).1=q at*
  have hp:r*2^n+d<2^2000:=by
   have k1:(r+1)*2^n≤2^1000*2^1000:=fk (by exact Pw.Mu hb2 hr) (aY (by decide) (by exact Pw.uv hn))
   rw[←d6,Nat.add_mul,Nat.one_mul]at k1
   have:(2:Nat)^(1000+1000)=2^2000:=rfl
   exact Pw.Ms hd k1 this
  have c1:=shlB (a:=r) (i:=n) (eY (eY hr hb2) (cp (by decide) (by decide))) (by exact Pw.Mr hn)
  have c2:=dZ (r*2^n) d
  have c3:=AS (ft:=ft') (n:=n) hb (eY hb2 (cp (by decide) (by decide))) (eY hp (cp (by decide) (by decide)))
  refine uq (.fro (aC d)) (.fro (aC ((r*2^n+d) / b))) ?_
  rw[List.reverse_cons,aZ]
  refine aj (vZ hh) ?_
  refine aj (fb (σ'':=[v0,.fro (aC b),.fro (aC n),v3,.fro (aC ((r*2^n+d)%b)),.mut ((((r*2^n+d) / b)::q).reverse.map aC),.fro (aC d),.fro (aC ((r*2^n+d) / b)),v8]) rfl ?_) rfl
  refine aj (aH (fP (eT h1' (by exact Pw.Mq) (aS (cm (cm (aF rfl) (aF rfl) c1) (aF rfl) c2) (aS (aF rfl) (aS (aF rfl) bU))) c3))) ?_
  refine aj (aH (gI rfl (aF rfl) (by rw[ag,List.length_reverse,few_eq]; exact Pw.Mp hl hlen))) ?_
  rw[List.reverse_cons,aZ]
  exact cU
end
theorem AQ{ft:FT}{a b:Nat}(h1:∃ft',ft 1=some (21,fun ds=>B0.run ft' 20 ds))(h2:ft 2=some (40,i2d))(h3:ft 3=some (40,d2i))(hb:0<b)(hb2:b<2^999)(ha:a<2^(8*bitLen (b:Int))):
  DV.run ft 60 [aC a,aC b]=some (.tuple [aC (a / b),aC (a%b)]):=by
 have hn1:=iT hb2
 have hn0:0<bitLen (b:Int):=kg (k:=0) (by exact Pw.qo hb)
 have hal:=iT ha
 generalize hn:bitLen (b:Int)=n at*
 have c1:mtD .bitLength (aC b) []=some (aC n):=by rw[←hn]; rfl
 have hlen:(i2dN a n).length≤8:=by
  unfold i2dN
  rw[ag,List.length_range]
  have:=Nat.div_le_div_right (c:=n) (show bitLen (a:Int)+n-1≤8*n+(n-1) by exact Pw.Mo hal)
  rw[bx 8 n,Nat.mul_add_div hn0,dP (by exact Pw.Mn hn0:n-1<n)]at this
  exact Pw.qo this
 have hdig:∀d∈i2dN a n,d<2^n:=by
  intro d hd
  refine bq (bg.mp hd) fun i υ e75_1=>?_; subst e75_1
  exact eN _ (dp n)
 have c2:i2d [aC a,aC n]=some (.list ((i2dN a n).map aC)):=by
  refine DB.trans ?_
  rw[if_pos]
  ·rw[aG,aG]; rfl
  ·refine F0 (aN _) ?_ (by exact Pw.BM hn0) (by exact Pw.Ff hn1) ?_
   ·rw[aT]
    exact aK ha (aY (by decide) (by exact Pw.Mm hn1))
   ·rw[aG]
    unfold i2dN at hlen
    rwa[ag,List.length_range]at hlen
 refine mW (wM (ft:=ft) (v0:= .fro (aC a)) (v3:= .fro (.list ((i2dN a n).map aC))) (v8:= .u0) h1 hb (eY hb2 (cp (by decide) (by decide))) (by exact Pw.Ml hn1:n<1000) 24 (i2dN a n) .u0 .u0 hdig (by exact Pw.Mj hlen)) fun w6 w7 hh=>?_
 refine fu (tM (n:=n) hb (i2dN a n)) fun e1 e2=>?_
 rw[De hn0]at e1
 have hq:=HQ (n:=n) hb _ hdig
 have hql:=ye b n (i2dN a n)
 generalize(dq b n (i2dN a n)).1=q at*
 generalize(dq b n (i2dN a n)).2=r at*
 have u1:a / b=lv n q:=by
  rw[←e1,bx,Nat.mul_add_div hb,dP e2,Nat.add_zero]
 have u2:a%b=r:=by
  rw[←e1,bx,Nat.mul_add_mod,eF e2]
 rw[u1,u2]
 have c3:d2i [.list (q.map aC),aC n]=some (aC (lv n q)):=by
  refine d2i_mk.trans ?_
  rw[gz,gK,bC,if_pos,aG,D9]
  ·rfl
  refine Hh (by exact Pw.BM hn0) (by exact Pw.Ff hn1) (by rw[ag]; exact Pw.IJ hql hlen) ?_
  rw[bh]
  intro x hx
  refine bq (bg.mp hx) fun y hy e11_1=>?_; subst e11_1
  rw[decide_eq_true_iff,aT]
  exact aK (hq y hy) (aY (by decide) (by exact Pw.Mi hn1))
 have e9:((List.map aC q.reverse).reverse:List D)=q.map aC:=by rw[←List.map_reverse,List.reverse_reverse]
 refine fz (σ:=[.fro (aC a),.fro (aC b),.fro (aC n),.fro (.list ((i2dN a n).map aC)),.fro (aC r),.fro (.list (q.map aC)),w6,w7,.fro (aC (lv n q))]) rfl ?_
 unfold DV
 refine aj (aH (bf (qt (aF rfl) bU c1))) ?_
 refine aj (aH (bf (eT h2 (by decide) (aS (aF rfl) (aS (aF rfl) bU)) c2))) ?_
 refine aj (aH (bf cO)) ?_
 refine aj (aH (dX (d8 bU (by decide)))) ?_
 refine aj (aH (aj (fW (items:=(i2dN a n).reverse.map aC) ?_ hh) cU)) ?_
 ·rw[List.map_reverse]
  exact ng (aF rfl) (by rw[ag]; exact Pw.Mh hlen)
 refine aj (aH (jT rfl (by rw[ag,List.length_reverse,few_eq]; exact Pw.Mg hql hlen))) ?_
 rw[e9]
 refine aj (aH (pP rfl)) ?_
 refine aj (aH (bf (eT h3 (by decide) (aS (aF rfl) (aS (aF rfl) bU)) c3))) ?_
 exact dt (gQ (lR (aS (aF rfl) (aS (aF rfl) bU)) (by rw[few_eq]; show 2≤_; exact Pw.jE))) (by exact Fl.noConfusion)
theorem sS{ft:FT}{k a b:Nat}{F:List D→Option D}(h4:ft 4=some (61,F))(hF:F [aC a,aC b]=some (.tuple [aC (a / b),aC (a%b)]))(hb:0<b):tA.run ft (k+75) [aC a,aC b]=some (.tuple [aC (a / b),aC (a%b)]):=by
 have c1:gj .Eq (aC b) (.int 0)=some false:=by
  show some (_==_)=_
  rw[ax.injEq,beq_eq_false_iff_ne]; exact Pw.B4 hb
 have c2:gj .Lt (aC b) (.int 0)=some false:=by
  show some (decide _)=_
  rw[decide_eq_false (by exact Pw.xu)]
 have c3:gj .Lt (aC a) (.int 0)=some false:=by
  show some (decide _)=_
  rw[decide_eq_false (by exact Pw.xu)]
 refine fz (σ:=[.fro (aC a),.fro (aC b),.u0,.u0]) rfl ?_
 unfold tA
 refine dt (aj (fV (fF (ei (aF rfl) cO c1) rfl)) ?_) (by exact Fl.noConfusion)
 refine dt (aj (fV (fF (ei (aF rfl) cO c2) rfl)) ?_) (by exact Fl.noConfusion)
 refine dt (aj (fV (fF (ei (aF rfl) cO c3) rfl)) ?_) (by exact Fl.noConfusion)
 exact dt (gQ (eT h4 (by exact ar _ _) (aS (aF rfl) (aS (aF rfl) bU)) hF)) (by exact Fl.noConfusion)
theorem vU{ft:FT}{k c a b:Nat}{q r:Int}{F:List D→Option D}(hc:c≤k+66)(h5:ft 5=some (c,F))(hF:F [aC a,aC b]=some (.tuple [.int q,.int r]))(hb:0<b):tA.run ft (k+75) [.int (-(a:Int)-1),aC b]=some (.tuple [.int (-q-1),.int (b+(-r-1))]):=by
 have c1:gj .Eq (aC b) (.int 0)=some false:=by
  show some (_==_)=_
  rw[ax.injEq,beq_eq_false_iff_ne]; exact Pw.B4 hb
 have c2:gj .Lt (aC b) (.int 0)=some false:=by
  show some (decide _)=_
  rw[decide_eq_false (by exact Pw.xu)]
 have c3:gj .Lt (.int (-(a:Int)-1)) (.int 0)=some true:=by
  show some (decide _)=_
  rw[decide_eq_true (by exact Pw.Mf)]
 have c4:unD .Invert (.int (-(a:Int)-1))=some (aC a):=by
  show some (PyData.int (-(-(a:Int)-1)-1))=some (.int (a:Int))
  rw[show -(-(a:Int)-1)-1=a from by exact Pw.Fp]
 refine fz (σ:=[.fro (.int (-(a:Int)-1)),.fro (aC b),.fro (.int q),.fro (.int r)]) rfl ?_
 unfold tA
 refine dt (aj (fV (fF (ei (aF rfl) cO c1) rfl)) ?_) (by exact Fl.noConfusion)
 refine dt (aj (fV (fF (ei (aF rfl) cO c2) rfl)) ?_) (by exact Fl.noConfusion)
 refine dt (aj (jC (fF (ei (aF rfl) cO c3) rfl)) ?_) (by exact Fl.noConfusion)
 refine aj (aH (fP (eT h5 (by assumption) (aS (uu (aF rfl) c4) (aS (aF rfl) bU)) hF))) ?_
 exact dt (gQ (lR (aS (uu (aF rfl) rfl) (aS (cm (aF rfl) (uu (aF rfl) rfl) rfl) bU)) (by rw[few_eq]; show 2≤_; exact Pw.jE))) (by exact Fl.noConfusion)
theorem vT{ft:FT}{k c b:Nat}{a q r:Int}{F:List D→Option D}(hc:c≤k+66)(h5:ft 5=some (c,F))(hF:F [.int (-a),aC b]=some (.tuple [.int q,.int r]))(hb:0<b):tA.run ft (k+75) [.int a,.int (-(b:Int))]=some (.tuple [.int q,.int (-r)]):=by
 have c1:gj .Eq (.int (-(b:Int))) (.int 0)=some false:=by
  show some (_==_)=_
  rw[ax.injEq,beq_eq_false_iff_ne]; exact Pw.Me hb
 have c2:gj .Lt (.int (-(b:Int))) (.int 0)=some true:=by
  show some (decide _)=_
  rw[decide_eq_true (by exact Pw.Md hb)]
 have c4:unD .USub (.int (-(b:Int)))=some (aC b):=by
  show some (PyData.int (- -(b:Int)))=some (.int (b:Int))
  rw[Int.neg_neg]
 refine fz (σ:=[.fro (.int a),.fro (.int (-(b:Int))),.fro (.int q),.fro (.int r)]) rfl ?_
 unfold tA
 refine dt (aj (fV (fF (ei (aF rfl) cO c1) rfl)) ?_) (by exact Fl.noConfusion)
 refine dt (aj (jC (fF (ei (aF rfl) cO c2) rfl)) ?_) (by exact Fl.noConfusion)
 refine aj (aH (fP (eT h5 (by exact Pw.Mc hc) (aS (uu (aF rfl) rfl) (aS (uu (aF rfl) c4) bU)) hF))) ?_
 exact dt (gQ (lR (aS (aF rfl) (aS (uu (aF rfl) rfl) bU)) (by rw[few_eq]; show 2≤_; exact Pw.jE))) (by exact Fl.noConfusion)
noncomputable def ftX:FT:=ftAdd ftB 13 60 mF
noncomputable def Hy:FT:=ftAdd ftC 5 80 tA
noncomputable def DJ:FT:=ftAdd Hy 5 90 tA
theorem ft5:ftL 5=some (101,fun ds=>tA.run DJ 100 ds):=rfl
theorem Hv:DJ 5=some (91,fun ds=>tA.run Hy 90 ds):=rfl
theorem Hx:Hy 5=some (81,fun ds=>tA.run ftC 80 ds):=rfl
theorem ftC4:ftC 4=some (61,fun ds=>DV.run ftX 60 ds):=rfl
theorem Hw:DJ 4=some (61,fun ds=>DV.run ftX 60 ds):=rfl
theorem dmpX{a b:Nat}(hb:0<b)(hb2:b<2^999)(ha:a<2^(8*bitLen (b:Int))):DV.run ftX 60 [aC a,aC b]=some (.tuple [aC (a / b),aC (a%b)]):=
 AQ ⟨ftAdd ftA 0 40 AI,rfl⟩ rfl rfl hb hb2 ha
theorem uf{N b:Nat}(hb:0<b)(hb2:b<2^999)(ha:N<2^(8*bitLen (b:Int))):tA.run DJ 100 [aC N,aC b]=some (.tuple [aC (N / b),aC (N%b)]):=
 sS (k:=25) Hw (dmpX hb hb2 ha) hb
theorem uc{N b:Nat}(hN:0<N)(hb:0<b)(hb2:b<2^999)(ha:N<2^(8*bitLen (b:Int))):tA.run DJ 100 [aC N,.int (-(b:Int))]=some (.tuple [.int (-(((N-1) / b:Nat):Int)-1),.int (-((b:Int)+(-(((N-1)%b:Nat):Int)-1)))]):=by
 refine vT (k:=25) (c:=91) (by decide) Hv ?_ hb
 have e: -(N:Int)= -((N-1:Nat):Int)-1:=by exact Pw.Mb hN
 rw[e]
 exact vU (k:=15) (c:=81) (by decide) Hx (sS (k:=5) ftC4 (dmpX hb hb2 (by exact az (eK _ _) (by assumption))) hb) hb
noncomputable def hor:List Int→Int→Int
 | [],_=>0
 | d::r,x=>d+x*hor r x
theorem jg{u1}:hor [] u1=(0):=rfl
theorem hH{d r x}:hor (d::r) x=(d+x*hor r x):=rfl
noncomputable def horQ:List Int→Int→Int→Int
 | [],_,_=>0
 | _::r,x,y=>hor r x+y*horQ r x y
theorem DD{u1 u2}:horQ [] u1 u2=(0):=rfl
theorem xX{u1 r x y}:horQ (u1::r) x y=(hor r x+y*horQ r x y):=rfl
theorem sV:∀(l:List Int) (x y:Int),hor l x=hor l y+(x-y)*horQ l x y:=by
 intro l
 induction l with
 | nil=>
  exact fun x y=>by simp[jg,hH,DD,xX]
 | cons d r ih=>
  intro x y
  rw[hH,hH,xX]
  have:=ih x y
  grind
noncomputable def figT:Nat→List Int
 | 0=>[0,0,-4,8,-5,1]
 | 1=>[0,2,-7,9,-5,1]
 | 2=>[0,3,-9,10,-5,1]
 | _=>[0,4,-10,10,-5,1]
noncomputable def posT:Nat→Nat→Nat
 | 0,z=>z^5+5*z^4+8*z^3+4*z^2
 | 1,z=>z^5+5*z^4+9*z^3+7*z^2+2*z
 | 2,z=>z^5+5*z^4+10*z^3+11*z^2+7*z+2
 | _,z=>z^5+5*z^4+10*z^3+10*z^2+4*z
noncomputable def DH:Nat→Nat→Nat
 | 0,z=>5*z^4+32*z^3+76*z^2+80*z+32
 | 1,z=>5*z^4+31*z^3+73*z^2+78*z+32
 | 2,z=>5*z^4+30*z^3+69*z^2+73*z+30
 | _,z=>5*z^4+30*z^3+70*z^2+76*z+32
noncomputable def negT:Nat→Nat→Nat
 | 0,c=>c^5+5*c^4+8*c^3+4*c^2
 | 1,c=>c^5+5*c^4+9*c^3+7*c^2+2*c
 | 2,c=>c^5+5*c^4+10*c^3+9*c^2+3*c
 | _,c=>c^5+5*c^4+10*c^3+10*c^2+4*c
theorem xN:∀t<4,∀z:Nat,hor (figT t) ((z:Int)+2)=(posT t z:Nat):=by
 intro t ht z
 match t,ht with
 | 0,_=>simp only[figT,jg,hH,posT,cg,b0,cW]; grind
 | 1,_=>simp only[figT,jg,hH,posT,cg,b0,cW]; grind
 | 2,_=>simp only[figT,jg,hH,posT,cg,b0,cW]; grind
 | 3,_=>simp only[figT,jg,hH,posT,cg,b0,cW]; grind
theorem xY:∀t<4,∀z:Nat,posT t z+DH t z=(z+2)^5:=by
 intro t ht z
 match t,ht with
 | 0,_=>simp only[DH,posT]; grind
 | 1,_=>simp only[DH,posT]; grind
 | 2,_=>simp only[DH,posT]; grind
 | 3,_=>simp only[DH,posT]; grind
theorem C2:∀t<4,∀c:Nat,hor (figT t) (-(c:Int))= -(negT t c:Nat):=by
 intro t ht z
 match t,ht with
 | 0,_=>simp only[figT,jg,hH,negT,cg,b0,cW]; grind
 | 1,_=>simp only[figT,jg,hH,negT,cg,b0,cW]; grind
 | 2,_=>simp only[figT,jg,hH,negT,cg,b0,cW]; grind
 | 3,_=>simp only[figT,jg,hH,negT,cg,b0,cW]; grind
theorem CU:∀t<4,hor (figT t) 1=0:=by decide
theorem C0:∀t<4,∀c:Nat,negT t c≤(c+2)^5:=by
 intro t ht c
 have e:(c+2)^5=c^5+10*c^4+40*c^3+80*c^2+80*c+32:=by grind
 match t,ht with
 | 0,_=>simp only[negT]; exact Pw.Ki e
 | 1,_=>simp only[negT]; exact Pw.Kh e
 | 2,_=>simp only[negT]; exact Pw.Kg e
 | 3,_=>simp only[negT]; exact Pw.Kf e
theorem CM:∀t<4,∀z:Nat,z^5≤posT t z:=by
 intro t ht c
 match t,ht with
 | 0,_=>simp only[posT]; exact Pw.Ke
 | 1,_=>simp only[posT]; exact Pw.E3
 | 2,_=>simp only[posT]; exact Pw.Kd
 | 3,_=>simp only[posT]; exact Pw.E3
structure DivOk(t c X N:Nat):Prop where
 eq:hor (figT t) (X:Int)=(N:Int)
 pos:0<N
 le:N≤X^5
 lt:2*c<X
 rest:((N%(X-c):Nat):Int)=hor (figT t) (c:Int)
 owing: -(((X+c:Nat):Int)+(-(((N-1)%(X+c):Nat):Int)-1))=hor (figT t) (-(c:Int))
theorem HR{t c X:Nat}(ht:t<4)(hc:1≤c)(hX:2*(c+2)^5≤X):∃N,DivOk t c X N:=by
 have h2:(c+2)*1≤(c+2)*(c+2)^4:=bt _ (Nat.pow_pos (by exact br _))
 rw[show(c+2)*(c+2)^4=(c+2)^5 from by rw[cC (n:=c+2) (m:=4),bx]]at h2
 have hP:∃P:Nat,hor (figT t) (c:Int)=(P:Int)∧P≤(c+2)^5:=by
  by_cases h1:c=1
  ·subst h1
   exact⟨0,CU t ht,bK _⟩
  ·obtain⟨z,rfl⟩:∃z,c=z+2:=⟨c-2,by exact Pw.Kc hc h1⟩
   refine⟨posT t z,xN t ht z,?_⟩
   have e:=xY t ht z
   have e2:(z+2)^5≤(z+2+2)^5:=Nat.pow_le_pow_left (by exact aA _ _) 5
   exact Pw.Kb e e2
 obtain⟨P,hP1,hP2⟩:=hP
 have hM1:=C2 t ht c
 have hM2:=C0 t ht c
 generalize negT t c=M at*
 obtain⟨z,hz⟩:∃z,X=z+2:=⟨X-2,by exact Pw.Ka h2 hX⟩
 have hN1:=xN t ht z
 have hN2:=CM t ht z
 have hN3:=xY t ht z
 rw[show(z:Int)+2=(X:Int) from by exact Pw.J9 hz]at hN1
 rw[←hz]at hN3
 have hz5:0<z^5:=Nat.pow_pos (by exact Pw.J8 h2 hX hz)
 generalize posT t z=N at*
 refine⟨N,hN1,by exact af (by assumption) (by assumption),by exact Pw.J7 hN3,by exact Pw.J6 h2 hX,?_,?_⟩
 ·have h:=sV (figT t) X c
  rw[hN1,hP1]at h
  rw[hP1]
  have hc2:(X:Int)-c=((X-c:Nat):Int):=by exact Pw.J5 h2 hX
  rw[hc2]at h
  rw[Int.natCast_emod,h,Int.add_mul_emod_self_left,Int.emod_eq_of_lt (by exact aN _) (by exact Pw.J4 h2 hX hP2)]
 ·have h:=sV (figT t) X (-c)
  rw[hN1,hM1]at h
  rw[hM1]
  have hc2:(X:Int) - -(c:Int)=((X+c:Nat):Int):=by exact Pw.J3
  rw[hc2]at h
  generalize horQ (figT t) X (-c)=Q at h
  have e:((N-1:Nat):Int)=((X+c-M-1:Nat):Int)+((X+c:Nat):Int)*(Q-1):=by
   rw[Int.mul_sub,Int.mul_one]
   exact Pw.J2 hX hM2 hz hz5 hN2 h
  rw[Int.natCast_emod,e,Int.add_mul_emod_self_left,Int.emod_eq_of_lt (by exact aN _) (by exact Pw.J1 hz)]
  exact Pw.J0 hX hz hM2
noncomputable def wdt(c:Nat):Nat:=5*bitLen ((c+1:Nat):Int)+1
theorem xD{c:Nat}(hc:c≤10^30):wdt c≤501:=by
 have:=iT (a:=c+1) (k:=100) (by
  have:(10:Nat)^30+1<2^100:=by decide
  exact Pw.JZ hc)
 unfold wdt; exact Pw.JY this
theorem yu(c:Nat):2*(c+2)^5≤2^wdt c:=by
 have h:=k9 (a:=c+1)
 have h2:(c+2)^5≤(2^bitLen ((c+1:Nat):Int))^5:=Nat.pow_le_pow_left (by assumption) 5
 unfold wdt
 rw[cC (m:=5*_),bx 5,Nat.pow_mul]
 exact Pw.JX h2
end Pl
end
section
open PySem
set_option maxRecDepth 100000
namespace Pl
open Pw
noncomputable def GZ:Nat:=1751908409945035750076673653255074652068631875971295050949618705326724305120671564543082594462790367180339669294498255663025053216330650334620155961717532893400419445974082675038858995967114170368641565215399633923446646783410810761968454139432694132099068670421774375675875891982098394179888098979973356618734897794336068242434566814051970564489966564479528406402614406001549528055037970228834278158140544179654634098091628304647108854413624549083340504901609921783436048170894896175404831296179947624807294111292095416274362027455601306841204436802460140309759469807407632222405078391902269603840
noncomputable def sr(u:Nat):Nat:=Nat.mod (Nat.div GZ (Nat.pow 4 u)) 4
noncomputable def BZ:Nat→List (List Nat)
 | 0=>[[7,25,30],[7,26,29],[7,27,28],[11,21,30],[11,22,29],[11,23,28],[13,19,30],[13,22,27],[13,23,26],[14,19,29],[14,21,27],[14,23,25],[15,19,28],[15,21,26],[15,22,25]]
 | 1=>[[7],[11],[13],[14],[19],[21],[22],[25],[26],[28]]
 | 2=>[[15],[23],[27],[29],[30]]
 | _=>[[31]]
noncomputable def yo:Nat→List Nat
 | 0=>[2175541218577478036232553294040627696957046062638668232624693538373170340015086612611958225143175539895620107588696308069024952605769812931200014866202673749663704462653055642054703972352,2074757784440496481055769449662859128630438519195611193545707512166093058946756302244588556742147045271715217747206737451165939791114976454045409290713803561550355115556648270692352,1978645098766048683254696288934468014415496251270304927532718636846327923664336133436957251553306948746165142142316630096733370890497143307588144623374687417822385829854052352,2175541218577478036232553294038911497542013410209922758844530073458710189294198848540868465437834936692188780062952096857078087755670599497838661217605319521374670707059460204689374052352,2074757784440496479256203931845580575506224604686925807400740509860484960339740429457360212100939353636026866138335983219336712368626499813184963772443179914472477841367990811492352,1978643211784836272484020168158738394556208788925385517927401031896052099923587422937960786969757045787074677750578459931134315010405382403214814500700678810233301420489572352,2175541218577478036232553294038911497542013410209922757424923190070144106129094240554437568864380660037906880918193144450734649598707572116951017849868834230827908005929174353742936932352,1886981212410770676120777290495623011165818013120065229346657783409168338702762053431491188962864197568250157415765721175068283516756907721156256462993679028562705252352,1799565517817278554685089678232388859238677462217349806114601300377220607698174599274748256715974612651074827544607664832616298052661657229532263364132810799972352,2074757784440496479256203931845580575506223116121218449997829955970265449160748901159439526998007050164238401051629654125564926387251092907508877557803846589636958734955094227812352,1886981212410770676120777290494134446878067493598077422292251212404070937355531227153469616319158063268264501800942767180549021208407178372369694328604858466612558692352,1716199415034213303020633195886039102932255408188700651419948350372833892317393941943184015819628480876381558030283096100159270536054075590864819568524132352,1978643211784836272484020168157177520281050792809694720603629387786632095680215591357555106109838453842246212599516094337395909609259580515366956990746951381559451644607332352,1799565517817278553124215403075812350431268704528870801302583487901962481569148021255301070839915805026866196833583151330182146690094694038505964976133981354852352,1716199415032652430234040907127751216162373983590459638704874439477531143760947138463442256997659887068624528036042970298526052359425183681297382689225572352]
 | 1=>[730750818665451459101842416358141509827966795776,883423532389192164791648750371459257913741948437809479060803100646834176,971334446112864535459730953411759453321203419526069760625906204869452142602604773376,1018517988167243043134222844204689080525734196832968125318070224677190649881668353092222976,1291124939043454294827959586001505937164852896414611756415329678270323811008420597314822676640068915717951585986374270976,1419606883389857208104148062281258856159455782592418086487285545274686109596480318996466895925319463985864300012238628776434769330176,1488565707357402911845015158554633286356257506687627387456491927921949262056238946972039271861787782268441644249633132407878864135403339776,1716199415032652428745475199770348304317358825035826352348615864796385795849414013030639910165363638744324077847870214509280496999929160953143507072779288576,1799565517817278553124215403074392743547878847320766653240302229044735032268595148127616274441556342859968364253408358049283306422197719875603406072346065542578176,1978643211784836272484020168157177520281050792809694719312504448743177800852254937362531208489944359916781371408129114714810920274454009679740369240815145343332854177190117376]
 | 2=>[1067993517960455041197510853084776057301352261178326384973520803911109862890320275011481043992576,1560874275157996115690798614896583152874299071332485575429578479812685869409882810060153051531745985579913465560703311447723987839644142653669376,1886981212410770676120777290494134445458460610208220214188103150122812081196074426043063362588829383770734187515381922449885292314962396316280717125716348021824698187776,2074757784440496479256203931845580575506223116121218449997828664845326405706454073199853524473551897144098943305650394591197575537705887653943437417056981843530590901700754762366976,2175541218577478036232553294038911497542013410209922757424923190068852981190050786259609609278379154099770693575665668158859588967025488852621393833027941793561932885341770625153958936576]
 | _=>[2281220308811097609320585802850145662446614253624279965289596258949637583604338693252956405658685699889321154786797203655344352360687718999126330659861107094125997337180132475041437096123826176]
noncomputable def mskW:Nat:=814697452488930055302074693227782988983151520584813066687311834681792224979760869608151171629177331992993334806341765562647739143151741182836543218658453028737385006153318560192182117403384680
noncomputable def topW:Nat:=2281222484354390946561707630650544155778671995430305880727180875783205949851467991909412312919878898931545019861927534625664696965844584924519363229139088984889265702339837007509286359587618816
noncomputable def one1:Nat:=1
noncomputable def one2:Nat:=1048577
noncomputable def one4:Nat:=1152922604119523329
noncomputable def one8:Nat:=1393797904137427383071010497786312871903233
noncomputable def CW:Nat:=2037037919005230987192162416774720086405554702674251026342456770209302840312462675557744641
noncomputable def zW(N:Nat):Nat:=Nat.land (Nat.sub topW (Nat.land N mskW)) topW
noncomputable def BW(z:Nat):List Nat→Bool
 | []=>false
 | w::r=>match cq z w with
  | true=>true
  | false=>BW z r
theorem Dc{z:Nat}{w r}:BW z (w::r)=(match cq z w with
  | true=>true
  | false=>BW z r):=rfl
noncomputable def gq(N c one:Nat)(sh:Nat):Nat:=Nat.add N (Nat.mul (Nat.add N (Nat.mul c one)) sh)
noncomputable def qp(p:Nat→Nat→Bool):Bool:=p 72 1&&p 520 2&&p 576 4&&p 4104 8&&p 4160 16&&p 4608 32&&p 32776 64&&p 32832 128&&p 33280 256&&p 36864 512
noncomputable def orB(x:Bool)(y:Bool):Bool:=match x with
 | true=>true
 | false=>y
noncomputable def lv5(c1 c2 c3 c4 u N:Nat):Bool:=qp fun c p=>orB (cq c1 c) (orB (cq c2 c) (orB (cq c3 c) (orB (cq c4 c) (BW (zW (gq N c CW 2135987035920910082395021706169552114602704522356652769947041607822219725780640550022962086936576)) (yo (sr (Nat.add u p)))))))
noncomputable def lv4(c1 c2 c3 u N:Nat):Bool:=qp fun c p=>orB (cq c1 c) (orB (cq c2 c) (orB (cq c3 c) (lv5 c1 c2 c3 c (Nat.add u p) (gq N c one8 1461501637330902918203684832716283019655932542976))))
noncomputable def lv3(c1 c2 u N:Nat):Bool:=qp fun c p=>orB (cq c1 c) (orB (cq c2 c) (lv4 c1 c2 c (Nat.add u p) (gq N c one4 1208925819614629174706176)))
noncomputable def lv2(c1 u N:Nat):Bool:=qp fun c p=>orB (cq c1 c) (lv3 c1 c (Nat.add u p) (gq N c one2 1099511627776))
theorem w0:lv2 72 1 (gq 0 72 one1 1048576)=true:=by decide+kernel
theorem w1:lv2 520 2 (gq 0 520 one1 1048576)=true:=by decide+kernel
theorem w2:lv2 576 4 (gq 0 576 one1 1048576)=true:=by decide+kernel
theorem w3:lv2 4104 8 (gq 0 4104 one1 1048576)=true:=by decide+kernel
theorem w4:lv2 4160 16 (gq 0 4160 one1 1048576)=true:=by decide+kernel
theorem w5:lv2 4608 32 (gq 0 4608 one1 1048576)=true:=by decide+kernel
theorem w6:lv2 32776 64 (gq 0 32776 one1 1048576)=true:=by decide+kernel
theorem w7:lv2 32832 128 (gq 0 32832 one1 1048576)=true:=by decide+kernel
theorem w8:lv2 33280 256 (gq 0 33280 one1 1048576)=true:=by decide+kernel
theorem w9:lv2 36864 512 (gq 0 36864 one1 1048576)=true:=by decide+kernel
end Pl
end
section
open PySem
set_option maxRecDepth 8000
set_option exponentiation.threshold 500
namespace Pl
open Pw
noncomputable def gh(e:Nat):Nat:=[72,520,576,4104,4160,4608,32776,32832,33280,36864].getD e 0
theorem wW(e:Nat):gh e≤36864:=by
 unfold gh
 match e with
 | 0 | 1 | 2 | 3 | 4 | 5 | 6 | 7 | 8 | 9=>decide
 | n+10=>exact bK _
theorem jM{p:Nat→Nat→Bool}(h:qp p=true):∀e<10,p (gh e) (2^e)=true:=by
 unfold qp at h
 simp only[aV]at h
 refine fu h fun w16_1 h9=>?_; obtain⟨⟨⟨⟨⟨⟨⟨⟨h0,h1⟩,h2⟩,h3⟩,h4⟩,h5⟩,h6⟩,h7⟩,h8⟩:=w16_1
 exact Pw.ltS h0 (Pw.ltS h1 (Pw.ltS h2 (Pw.ltS h3 (Pw.ltS h4 (Pw.ltS h5 (Pw.ltS h6 (Pw.ltS h7 (Pw.ltS h8 (Pw.ltS h9 Pw.lt0)))))))))
theorem hU{x y:Bool}(h:orB x y=true)(hx:x=false):y=true:=by subst hx; exact h
theorem gu:∀a<10,∀b<10,a≠b→cq (gh a) (gh b)=false:=by decide+kernel
noncomputable def W2(a b:Nat):Nat:=gq (gq 0 (gh a) one1 (2^20)) (gh b) one2 (2^40)
noncomputable def W3(a b c:Nat):Nat:=gq (W2 a b) (gh c) one4 (2^80)
noncomputable def W4(a b c d:Nat):Nat:=gq (W3 a b c) (gh d) one8 (2^160)
noncomputable def W5(a b c d e:Nat):Nat:=gq (W4 a b c d) (gh e) CW (2^320)
theorem zN:∀a<10,lv2 (gh a) (2^a) (gq 0 (gh a) one1 (2^20))=true:=by
 intro a ha
 match a,ha with
 | 0,_=>exact w0
 | 1,_=>exact w1
 | 2,_=>exact w2
 | 3,_=>exact w3
 | 4,_=>exact w4
 | 5,_=>exact w5
 | 6,_=>exact w6
 | 7,_=>exact w7
 | 8,_=>exact w8
 | 9,_=>exact w9
theorem Gf{a b c d e:Nat}(ha:a<10)(hb:b<10)(hc:c<10)(hd:d<10)(he:e<10)(ab:a≠b)(ac:a≠c)(ad:a≠d)(ae:a≠e)(bc:b≠c)(bd:b≠d)(be:b≠e)(cd:c≠d)(ce:c≠e)(de:d≠e):
  BW (zW (W5 a b c d e)) (yo (sr (2^a+2^b+2^c+2^d+2^e)))=true:=by
 have h:=zN a ha
 have h:=hU (jM h b hb) (gu a ha b hb ab)
 have h:=hU (hU (jM h c hc) (gu a ha c hc ac)) (gu b hb c hc bc)
 have h:=hU (hU (hU (jM h d hd) (gu a ha d hd ad)) (gu b hb d hd bd)) (gu c hc d hd cd)
 exact hU (hU (hU (hU (jM h e he) (gu a ha e he ae)) (gu b hb e he be)) (gu c hc e he ce)) (gu d hd e he de)
noncomputable def pk:List Nat→Nat
 | []=>0
 | s::r=>s+2^20*pk r
theorem pk_1:pk []=(0):=rfl
theorem mr{s r}:pk (s::r)=(s+2^20*pk r):=rfl
theorem rm:∀l m:List Nat,pk (l++m)=pk l+2^(20*l.length)*pk m:=by
 intro l
 induction l with
 | nil=>
  exact fun m=>by simp[pk_1,mr]
 | cons s l ih=>
  intro m
  rw[cY,mr,mr,ih m,ah,d7 20,d6,d7,eC,bx (2^(20*l.length)) (2^20),eD,bP]
theorem CP(c:Nat):∀l:List Nat,pk (l.map (·+c))=pk l+c*pk (aq l.length 1):=by
 intro l
 induction l with
 | nil=>
  exact rfl
 | cons s l ih=>
  rw[aB,mr,ih,mr,ah,dK,mr]
  rw[d7,d7,eC,←eD c,bx c (2^20),eD]
  exact Pw.JW
theorem GK(k:Nat):∀l:List Nat,(∀s∈l,s≤k)→pk l≤pk (aq l.length k):=by
 intro l
 induction l with
 | nil=>
  exact fun υ=>bL _
 | cons s l ih=>
  intro h
  have h1:=ih fun x hx=>h x (.tail _ hx)
  have h2:=h s (.head _)
  rw[mr,ah,dK,mr]
  exact Pw.JV h2 h1
theorem vf(k:Nat):∀l:List Nat,(∀s∈l,s≤k)→pk (aq l.length k)-pk l=pk (l.map (k-·)):=by
 intro l
 induction l with
 | nil=>
  exact fun υ=>rfl
 | cons s l ih=>
  intro h
  have h1:=GK k l fun x hx=>h x (.tail _ hx)
  have h2:=h s (.head _)
  rw[aB,mr,mr,ah,dK,mr,←ih fun x hx=>h x (.tail _ hx),Nat.mul_sub]
  have:2^20*pk l≤2^20*pk (aq l.length k):=bt _ h1
  exact Pw.JU h2 this
theorem rl{m:Nat}(hm:m<2^20):∀l:List Nat,(∀s∈l,s<2^20)→pk l&&&pk (aq l.length m)=pk (l.map (·&&&m)):=by
 intro l
 induction l with
 | nil=>
  exact fun υ=>by simp[pk_1,mr]
 | cons s l ih=>
  intro h
  have ih:=ih fun x hx=>h x (.tail _ hx)
  have hs:=h s (.head _)
  rw[aB,mr,mr,ah,dK,mr,←ih]
  generalize pk l=P
  generalize pk (aq l.length m)=Q
  have h1:((s+2^20*P)&&&(m+2^20*Q))%2^20=s&&&m:=by
   rw[Nat.and_mod_two_pow,Nat.add_mul_mod_self_left,Nat.add_mul_mod_self_left,eF hs,eF hm]
  have h2:((s+2^20*P)&&&(m+2^20*Q)) / 2^20=P&&&Q:=by
   rw[Nat.and_div_two_pow,Nat.add_mul_div_left _ _ (by decide),Nat.add_mul_div_left _ _ (by decide),dP hs,dP hm,cR,cR]
  rw[←h1,←h2,Nat.mod_add_div]
theorem CO:∀l m:List Nat,l.length=m.length→(∀s∈l,s<2^20)→(∀s∈m,s<2^20)→pk l=pk m→l=m:=by
 intro l
 induction l with
 | nil=>exact fun m h υ υ υ=>(bX.mp h.symm).symm
 | cons s l ih=>
  intro m h h1 h2 e
  cases m with
  | nil=>cases h
  | cons t m=>
  skip
  have hs:=h1 s (.head _)
  have ht:=h2 t (.head _)
  rw[mr,mr]at e
  have e1:s=t:=by
   have:=congrArg (· % 2^20) e
   simp only[Nat.add_mul_mod_self_left]at this
   rwa[eF hs,eF ht]at this
  subst e1
  have e2:pk l=pk m:=by exact Pw.JT e
  rw[ih m (Nat.succ.inj h) (fun x hx=>h1 x (.tail _ hx)) (fun x hx=>h2 x (.tail _ hx)) e2]
theorem iC{l:List Nat}{n c one sh:Nat}(hl:l.length=n)(h1:one=pk (aq n 1))(h2:sh=2^(20*n)):gq (pk l) c one sh=pk (l++l.map (·+c)):=by
 subst h1 h2 hl
 rw[rm,CP,bx (2^_)]
 rfl
noncomputable def iW:List Nat→List Nat→List Nat
 | [],acc=>acc
 | e::es,acc=>iW es (acc++acc.map (·+gh e))
theorem yG{e es acc}:iW (e::es) acc=(iW es (acc++acc.map (·+gh e))):=rfl
theorem Ox(a b c d e:Nat):W5 a b c d e=pk (iW [a,b,c,d,e] [0]):=by
 have h0:(0:Nat)=pk [0]:=rfl
 unfold W5 W4 W3 W2
 rw[h0,iC (n:=1) rfl (by decide+kernel) (by decide+kernel),iC (n:=2) (by rfl) (by decide+kernel) (by decide+kernel),iC (n:=4) (by rfl) (by decide+kernel) (by decide+kernel),iC (n:=8) (by rfl) (by decide+kernel) (by decide+kernel),iC (n:=16) (by rfl) (by decide+kernel) (by decide+kernel)]
 rfl
theorem uL:∀(es acc:List Nat) (k:Nat),(∀s∈acc,s≤k)→∀s∈iW es acc,s≤k+es.length*36864:=by
 intro es
 induction es with
 | nil=>exact fun acc k h s hs=>by have:=h s hs; exact Pw.BO this
 | cons e es ih=>
  intro acc k h s hs
  have:=ih (acc++acc.map (·+gh e)) (k+36864) (by
   intro x hx
   rcases dm.mp hx with q | q
   ·have:=h x q; exact Pw.BO this
   ·refine bq (bg.mp q) fun y hy e36_1=>?_; subst e36_1
    have:=h y hy
    have:=wW e
    lia -abstractProof) s hs
  rw[ah]; exact Pw.JS this
theorem qD:∀(es acc:List Nat),(iW es acc).length=acc.length*2^es.length:=by
 intro es
 induction es with
 | nil=>exact fun acc=>(eC _).symm
 | cons e es ih=>intro acc; rw[yG,ih,ak,ag,ah,cC,Nat.add_mul,bx (2^_) 2,←eD,Nat.mul_two,Nat.add_mul]
noncomputable def zs(s:Nat):Nat:=(2^19-(s&&&187240))&&&2^19
theorem F8(s:Nat):zs s<2^20:=by
 have:zs s≤2^19:=Nat.and_le_right
 exact Pw.JR this
theorem yC{w:Nat}(h:w<2^19):w&&&2^19=0:=by
 have h2:(w&&&2^19)%2^19=0:=by rw[Nat.and_mod_two_pow,Nat.mod_self,Nat.and_zero]
 have h3:(w&&&2^19) / 2^19=0:=by rw[Nat.and_div_two_pow,dP h,Nat.zero_and]
 have h4:=Nat.mod_add_div (w&&&2^19) (2^19)
 rw[h2,h3]at h4
 exact h4.symm
theorem yn{s:Nat}(h:s<2^19):(zs s !=0)=(s&&&187240==0):=by
 unfold zs
 have h1:s&&&187240<2^19:=az Nat.and_le_left h
 revert h1
 generalize s&&&187240=v
 intro h1
 cases v with
 | zero=>rw[Nat.sub_zero,Nat.and_self]; rfl
 | succ v=>
  rw[yC (Nat.sub_lt (dp 19) (br v))]; rfl
theorem B5(N:Nat):zW N=(topW-(N&&&mskW))&&&topW:=by
 unfold zW
 generalize mskW=a
 generalize topW=c
 rfl
theorem F9{l:List Nat}(hl:l.length=32)(h:∀s∈l,s<2^19):zW (pk l)=pk (l.map zs):=by
 have hle:∀s∈l.map (·&&&187240),s≤2^19:=by
  intro s hs
  refine bq (bg.mp hs) fun x hx e73_1=>?_; subst e73_1
  exact af Nat.and_le_left (bz (h x hx))
 have k1:mskW=pk (aq l.length 187240):=by rw[hl]; decide+kernel
 have k2:topW=pk (aq (l.map (·&&&187240)).length (2^19)):=by rw[ag,hl]; decide+kernel
 have k3:topW=pk (aq ((l.map (·&&&187240)).map (2^19-·)).length (2^19)):=by rw[ag,ag,hl]; decide+kernel
 have hm:l.map zs=((l.map (·&&&187240)).map (2^19-·)).map (·&&&2^19):=by
  rw[bw,bw]
  unfold zs
  simp only[Function.comp_def]
 have hlt:∀s∈(l.map (·&&&187240)).map (2^19-·),s<2^20:=by
  intro s hs
  refine bq (bg.mp hs) fun x hx e84_1=>?_; subst e84_1
  exact az (eK _ _) (by decide)
 rw[hm,B5,k1,rl (by decide) l (fun s hs=>eY (h s hs) (by decide))]
 have hs:=vf (2^19) (l.map (·&&&187240)) hle
 rw[←k2]at hs
 rw[hs]
 have ht:=rl (m:=2^19) (by decide) _ hlt
 rw[←k3]at ht
 exact ht
noncomputable def FX(F:List Nat):List Nat:=(bu 32).map fun m=>if F.any (·==m)||m==0 then 2^19 else 0
theorem qv:∀t<4,yo t=(BZ t).map fun F=>pk (FX F):=by decide+kernel
theorem vF{z:Nat}:∀{l:List Nat},BW z l=true→z∈l:=by
 intro l
 induction l with
 | nil=>
  exact fun h=>by cases h
 | cons w r ih=>
  intro h
  rw[Dc]at h
  cases e:cq z w with
  | true=>rw[Nat.eq_of_beq_eq_true e]; exact .head _
  | false=>rw[e]at h; exact .tail _ (ih h)
theorem lK(u:Nat):sr u<4:=eN _ (by decide)
theorem zO(F:List Nat):∀s∈FX F,s<2^20:=by
 intro s hs
 refine bq (bg.mp hs) fun m υ e10_1=>?_; subst e10_1
 split<;>decide
noncomputable def q8(l:List Nat):List Nat:=(((bu 32).zip l).filter fun p=>decide (0<p.1)&&p.2 !=0).map Prod.fst
theorem pR:∀t<4,∀F∈BZ t,q8 (FX F)=F:=by decide+kernel
noncomputable def ml(l:List Nat):List Nat:=(((bu 32).zip l).filter fun p=>decide (0<p.1)&&(p.2&&&187240)==0).map Prod.fst
theorem uY{l:List Nat}(h:∀s∈l,s<2^19):ml l=q8 (l.map zs):=by
 unfold ml q8
 rw[List.zip_map_right,List.filter_map,bw]
 have:((bu 32).zip l).filter (fun p=>decide (0<p.1)&&(p.2&&&187240)==0)=((bu 32).zip l).filter ((fun p=>decide (0<p.1)&&p.2 !=0)∘Prod.map id zs):=by
  refine List.filter_congr fun p hp=>?_
  have:=(List.of_mem_zip hp).2
  show _=(decide (0<p.1)&&zs p.2 !=0)
  rw[yn (h _ this)]
 rw[this]
 refine bQ fun p υ=>rfl
noncomputable def kindS(rs:List Nat):Nat:=sr ((rs.map (2^·)).sum)
theorem q7{rs:List Nat}(sq:Sq rs):∃F∈BZ (kindS rs),ml (iW rs [0])=F:=by
 obtain⟨hl,hn,hlt⟩:=sq
 match rs,hl with
 | [a,b,c,d,e],_=>
  simp only[ej,aP,dz,or_false,not_or]at hn hlt
  refine FQ hn fun w32_1 w32_2 w32_3 de υ=>?_; obtain⟨ab,ac,ad,ae⟩:=w32_1; obtain⟨bc,bd,be⟩:=w32_2; obtain⟨cd,ce⟩:=w32_3
  have h:=Gf (hlt a (by simp)) (hlt b (by simp)) (hlt c (by simp)) (hlt d (by simp)) (hlt e (by simp)) ab ac ad ae bc bd be cd ce de
  have hk:kindS [a,b,c,d,e]=sr (2^a+2^b+2^c+2^d+2^e):=by
   unfold kindS
   congr 1
   simp only[aB,List.map_nil,dG,List.sum_nil]; exact Pw.JQ
  have hs:∀s∈iW [a,b,c,d,e] [0],s<2^19:=by
   intro s hs
   have:=uL [a,b,c,d,e] [0] 0 (by simp) s hs
   simp only[ah,aE]at this
   lia
  have hsl:(iW [a,b,c,d,e] [0]).length=32:=by rw[qD]; rfl
  rw[Ox,F9 hsl hs]at h
  have h:=vF h
  rw[←hk]at h
  have hk4:kindS [a,b,c,d,e]<4:=lK _
  rw[qv _ hk4]at h
  refine bq (bg.mp h) fun F hF hp=>?_
  refine gX F hF ?_
  have:=CO (FX F) _ (by rw[ag,hsl]; rfl) (zO F) (fun s hs=>by
   refine bq (bg.mp hs) fun x υ e52_1=>?_; subst e52_1
   exact F8 x) hp
  rw[uY hs,←this,pR _ hk4 F hF]
noncomputable def fw(sh:Nat):List Nat→List Nat
 | []=>[]
 | e::es=>(hi e+sh)::(lo e+sh)::fw sh es
theorem iQ{sh:Nat}{e es}:fw sh (e::es)=((hi e+sh)::(lo e+sh)::fw sh es):=rfl
noncomputable def dg(v:Nat):List Nat→Nat
 | []=>0
 | e::es=>(if hi e=v then 1 else 0)+(if lo e=v then 1 else 0)+dg v es
theorem dg_1{v:Nat}:dg v []=(0):=rfl
theorem HU{v:Nat}{e es}:dg v (e::es)=((if hi e=v then 1 else 0)+(if lo e=v then 1 else 0)+dg v es):=rfl
noncomputable def iX:List Nat→Nat
 | []=>0
 | e::es=>gh e+iX es
theorem yH:iX []=(0):=rfl
theorem lr{e es}:iX (e::es)=(gh e+iX es):=rfl
theorem kZ(sh v:Nat):∀es:List Nat,(fw sh es).count (v+sh)=dg v es:=by
 intro es
 induction es with
 | nil=>
  exact rfl
 | cons e es ih=>
  rw[iQ,List.count_cons,List.count_cons,ih,HU]
  have h1:(hi e+sh==v+sh)=decide (hi e=v):=by
   rw[bJ,beq_iff_eq,decide_eq_true_iff]; exact Pw.EZ
  have h2:(lo e+sh==v+sh)=decide (lo e=v):=by
   rw[bJ,beq_iff_eq,decide_eq_true_iff]; exact Pw.EZ
  rw[h1,h2]
  simp only[decide_eq_true_eq]
  exact Pw.JP
theorem A8:∀e<10,gh e=8*((if hi e=1 then 1 else 0)+(if lo e=1 then 1 else 0))+64*((if hi e=2 then 1 else 0)+(if lo e=2 then 1 else 0))+512*((if hi e=3 then 1 else 0)+(if lo e=3 then 1 else 0))+4096*((if hi e=4 then 1 else 0)+(if lo e=4 then 1 else 0))+32768*((if hi e=5 then 1 else 0)+(if lo e=5 then 1 else 0)):=by decide+kernel
theorem je:∀e<10,1≤lo e∧lo e≤5∧1≤hi e∧hi e≤5∧lo e≠hi e:=by decide+kernel
theorem Cm:∀es:List Nat,(∀e∈es,e<10)→iX es=8*dg 1 es+64*dg 2 es+512*dg 3 es+4096*dg 4 es+32768*dg 5 es:=by
 intro es
 induction es with
 | nil=>
  exact fun υ=>rfl
 | cons e es ih=>
  intro h
  have h1:=A8 e (h e (.head _))
  have h2:=ih fun x hx=>h x (.tail _ hx)
  rw[lr,h1,h2]
  simp only[dg_1,HU]
  exact Pw.JO
theorem HS(v:Nat):∀es:List Nat,(∀e∈es,e<10)→dg v es≤es.length:=by
 intro es
 induction es with
 | nil=>
  exact fun υ=>bL _
 | cons e es ih=>
  intro h
  have h1:=(je e (h e (.head _))).2.2.2.2
  have h2:=ih fun x hx=>h x (.tail _ hx)
  rw[HU,ah]
  split<;>split<;>(first | exact Pw.JN (by assumption) h1 (by assumption) | exact Pw.JM h2 | exact Pw.JL h2)
theorem si{a b x y:Nat}(ha:a<8)(hb:b<8):(8*x+a)&&&(8*y+b)=8*(x&&&y)+(a&&&b):=by
 have h1:((8*x+a)&&&(8*y+b))%2^3=a&&&b:=by
  rw[Nat.and_mod_two_pow,show(8*x+a)%2^3=a from by exact Pw.EY ha,show(8*y+b)%2^3=b from by exact Pw.EY hb]
 have h2:((8*x+a)&&&(8*y+b)) / 2^3=x&&&y:=by
  rw[Nat.and_div_two_pow,show(8*x+a) / 2^3=x from by exact Pw.EX ha,show(8*y+b) / 2^3=y from by exact Pw.EX hb]
 have h3:=Nat.mod_add_div ((8*x+a)&&&(8*y+b)) (2^3)
 rw[h1,h2]at h3
 exact Pw.JK h3
theorem sj:∀d<6,(d&&&5=0)↔(d=0∨d=2):=by decide+kernel
theorem nG{d1 d2 d3 d4 d5:Nat}(h1:d1<6)(h2:d2<6)(h3:d3<6)(h4:d4<6)(h5:d5<6):
  (8*d1+64*d2+512*d3+4096*d4+32768*d5)&&&187240=0↔(d1=0∨d1=2)∧(d2=0∨d2=2)∧(d3=0∨d3=2)∧(d4=0∨d4=2)∧(d5=0∨d5=2):=by
 have e1:8*d1+64*d2+512*d3+4096*d4+32768*d5=8*(8*(8*(8*(8*d5+d4)+d3)+d2)+d1)+0:=by exact Pw.JJ
 have e2:187240=8*(8*(8*(8*(8*5+5)+5)+5)+5)+0:=rfl
 rw[e1,e2,si (by decide) (by decide),si (by exact af (by assumption) (by decide)) (by decide),si (by exact af (by assumption) (by decide)) (by decide),si (by exact af (by assumption) (by decide)) (by decide),si (by exact af (by assumption) (by decide)) (by decide),←sj d1 h1,←sj d2 h2,←sj d3 h3,←sj d4 h4,←sj d5 h5]
 have:(0:Nat)&&&0=0:=rfl
 exact Pw.JI this
theorem wH{sh t:Nat}:∀{es:List Nat},(∀e∈es,e<10)→t∈fw sh es→∃v,1≤v∧v≤5∧t=v+sh:=by
 intro es
 induction es with
 | nil=>
  exact fun υ h=>by cases h
 | cons e es ih=>
  intro he h
  refine FQ (je e (he e (.head _))) fun a1 a2 a3 a4 υ=>?_
  rw[iQ,aP,aP]at h
  rcases h with h | h | h
  ·exact Ae (hi e) a3 a4 h
  ·exact Ae (lo e) a1 a2 h
  ·exact ih (fun x hx=>he x (.tail _ hx)) h
theorem uZ{sh m:Nat}{es:List Nat}(h:∀e∈es,e<10)(hl:es.length≤5):mm (m,fw sh es)=(decide (0<m)&&(iX es&&&187240)==0):=by
 unfold mm
 dsimp only
 congr 1
 have hd:∀v,dg v es<6:=fun v=>by have:=HS v es h; exact Pw.JH hl this
 rw[bJ,fo,List.filter_eq_nil_iff,beq_iff_eq,Cm es h,nG (hd 1) (hd 2) (hd 3) (hd 4) (hd 5)]
 simp only[decide_eq_true_eq,ne_eq,Decidable.not_not]
 have key:∀v,(v+sh∈fw sh es→(fw sh es).count (v+sh)=2)↔(dg v es=0∨dg v es=2):=by
  intro v
  rw[kZ]
  have:v+sh∈fw sh es↔0<dg v es:=by rw[←kZ sh v es,List.count_pos_iff]
  rw[this]; lia -abstractProof
 constructor
 ·intro q
  exact F0 ((key 1).mp (q _)) ((key 2).mp (q _)) ((key 3).mp (q _)) ((key 4).mp (q _)) ((key 5).mp (q _))
 ·rintro⟨q1,q2,q3,q4,q5⟩ t ht
  refine mX (wH h ht) fun v v1 v5 e85_1=>?_; subst e85_1
  have:v=1∨v=2∨v=3∨v=4∨v=5:=by exact Pw.JG v1 v5
  rcases this with e | e | e | e | e<;>subst e
  ·exact(key 1).mpr q1 ht
  ·exact(key 2).mpr q2 ht
  ·exact(key 3).mpr q3 ht
  ·exact(key 4).mpr q4 ht
  ·exact(key 5).mpr q5 ht
noncomputable def pY:Nat→List Nat→List (Nat×List Nat)→List (Nat×List Nat)
 | _,[],ns=>ns
 | k,e::es,ns=>pY (k+1) es (ns++ns.map fun p=>(p.1+2^k,p.2++[e]))
theorem rT{k e es ns}:pY k (e::es) ns=(pY (k+1) es (ns++ns.map fun p=>(p.1+2^k,p.2++[e]))):=rfl
noncomputable def mw:Nat→List Nat→List (Nat×Nat)→List (Nat×Nat)
 | _,[],ns=>ns
 | k,e::es,ns=>mw (k+1) es (ns++ns.map fun p=>(p.1+2^k,p.2+gh e))
theorem zB{k e es ns}:mw k (e::es) ns=(mw (k+1) es (ns++ns.map fun p=>(p.1+2^k,p.2+gh e))):=rfl
theorem pM(e:Nat):∀es:List Nat,iX (es++[e])=iX es+gh e:=by
 intro es
 induction es with
 | nil=>
  exact by simp[yH,lr]
 | cons a es ih=>
  exact by rw[cY,lr,ih,lr]; exact Pw.aq55
theorem nY(sh e:Nat):∀es:List Nat,fw sh (es++[e])=fw sh es++[hi e+sh,lo e+sh]:=by
 intro es
 induction es with
 | nil=>
  exact rfl
 | cons a es ih=>
  exact by rw[cY,iQ,ih,iQ]; rfl
theorem rS(sh:Nat):∀(es:List Nat) (k:Nat) (ns:List (Nat×List Nat)),gZ sh k es (ns.map fun p=>(p.1,fw sh p.2))=(pY k es ns).map fun p=>(p.1,fw sh p.2):=by
 intro es
 induction es with
 | nil=>
  exact fun k ns=>rfl
 | cons e es ih=>
  intro k ns
  rw[rT,←ih,lH,aZ,bw,bw]
  congr 2
  refine bQ fun p υ=>?_
  show(p.1+2^k,fw sh p.2++[hi e+sh,lo e+sh])=(p.1+2^k,fw sh (p.2++[e]))
  rw[nY]
theorem zD:∀(es:List Nat) (k:Nat) (ns:List (Nat×List Nat)),(pY k es ns).map (fun p=>(p.1,iX p.2))=mw k es (ns.map fun p=>(p.1,iX p.2)):=by
 intro es
 induction es with
 | nil=>
  exact fun k ns=>rfl
 | cons e es ih=>
  intro k ns
  rw[rT,ih,zB,aZ,bw,bw]
  congr 2
  refine bQ fun p υ=>?_
  show(p.1+2^k,iX (p.2++[e]))=(p.1+2^k,iX p.2+gh e)
  rw[pM]
theorem mx:∀(es:List Nat) (k m:Nat) (ns:List (Nat×List Nat)),(∀e∈es,e<10)→(∀p∈ns,p.2.length≤m∧∀e∈p.2,e<10)→∀p∈pY k es ns,p.2.length≤m+es.length∧∀e∈p.2,e<10:=by
 intro es
 induction es with
 | nil=>
  exact fun k m ns υ h=>h
 | cons e es ih=>
  intro k m ns he h
  intro p hp
  have:=ih (k+1) (m+1) (ns++ns.map fun p=>(p.1+2^k,p.2++[e])) (fun x hx=>he x (.tail _ hx)) (by
   intro q hq
   rcases dm.mp hq with w | w
   ·refine fu (h q w) fun a b=>?_
    exact⟨by exact Pw.FA a,b⟩
   ·refine bq (bg.mp w) fun r hr e35_1=>?_; subst e35_1
    refine fu (h r hr) fun a b=>?_
    refine⟨by dsimp only; rw[ak,List.length_singleton]; exact Pw.ud a,fun x hx=>?_⟩
    rcases dm.mp hx with e' | e'
    ·exact b x e'
    ·rw[ay]at e'; subst e'; exact he _ (.head _)) p hp
  rw[ah]
  exact⟨by lia -abstractProof,this.2⟩
theorem rR(a b c d e:Nat):mw 0 [a,b,c,d,e] [(0,0)]=(bu 32).zip (iW [a,b,c,d,e] [0]):=rfl
theorem yW{sh:Nat}{rs:List Nat}(sq:Sq rs):((gZ sh 0 rs [(0,[])]).filter mm).map Prod.fst=ml (iW rs [0]):=by
 have h1:=rS sh rs 0 [(0,[])]
 have h2:=zD rs 0 [(0,[])]
 have h3:=mx rs 0 0 [(0,[])] sq.lt (by
  intro p hp
  rw[ay]at hp
  subst hp
  exact⟨bL _,fun x hx=>by cases hx⟩)
 have h4:mw 0 rs [(0,0)]=(bu 32).zip (iW rs [0]):=by
  obtain⟨hl,υ,υ⟩:=sq
  exact Pw.len5 (P:=fun rs=>mw 0 rs [(0,0)]=(bu 32).zip (iW rs [0])) hl rR
 change gZ sh 0 rs [(0,[])]=_ at h1
 change _=mw 0 rs [(0,0)]at h2
 unfold ml
 rw[h1,←h4,←h2,List.filter_map,List.filter_map,bw,bw]
 rw[List.filter_congr (q:=(fun p=>decide (0<p.1)&&(p.2&&&187240)==0)∘fun p:Nat×List Nat=>(p.1,iX p.2))]
 ·rfl
 ·intro p hp
  refine fu (h3 p hp) fun a b=>?_
  rw[sq.len]at a
  exact uZ b (by assumption)
theorem yX{rs:List Nat}(sq:Sq rs):∃F∈BZ (kindS rs),∀sh,((gZ sh 0 rs [(0,[])]).filter mm).map Prod.fst=F:=by
 refine bq (q7 sq) fun F hF h=>?_
 exact gX F hF (fun sh=>by rw[yW sq,h])
noncomputable def jk:Nat→List Nat
 | 0=>[1,5,8,4]
 | 1=>[1,5,9,7,2]
 | 2=>[1,5,10,9,3]
 | _=>[1,5,10,10,4]
noncomputable def rH:Nat→Nat
 | 0=>9
 | 1=>12
 | 2=>14
 | _=>15
noncomputable def j0(F:List Nat):List Nat:=(su (F.map rem) 5 0 ([0],[9])).2
noncomputable def DQ(t:Nat)(F:List Nat):Bool:=
 let l:=j0 F
 let w:=wgo l ⟨[],0,0,0⟩
 F.all (fun r=>Nat.ble 1 r&&Nat.blt r 32&&Nat.ble 1 (rem r)&&Nat.blt (rem r) 16)&&Nat.blt F.length 10&&l.all (fun c=>cq c 32||cq c 9)&&Nat.blt l.length 800&&w.cnt==jk t&&cq w.b 0&&cq w.nt (2*rH t)
theorem tz:∀t<4,∀F∈BZ t,DQ t F=true:=by decide+kernel
structure FamOk(t:Nat)(F:List Nat):Prop where
 r:∀r∈F,0<r∧r<32∧0<rem r∧rem r<16
 l:F.length<10
 c:∀c∈j0 F,c=32∨c=9
 ll:(j0 F).length<800
 cnt:(wgo (j0 F) ⟨[],0,0,0⟩).cnt=jk t
 b:(wgo (j0 F) ⟨[],0,0,0⟩).b=0
 nt:(wgo (j0 F) ⟨[],0,0,0⟩).nt=2*rH t
theorem wB{t:Nat}(ht:t<4){F:List Nat}(hF:F∈BZ t):FamOk t F:=by
 have h:=tz t ht F hF
 unfold DQ at h
 simp only[aV,Nat.beq_eq,beq_iff_eq,Nat.blt_eq,bh,Bool.or_eq_true,Nat.ble_eq]at h
 obtain⟨⟨⟨⟨⟨⟨h1,h2⟩,h3⟩,h4⟩,h5⟩,h6⟩,h7⟩:=h
 exact⟨fun r hr=>by obtain⟨⟨⟨a,b⟩,c⟩,d⟩:=h1 r hr; exact⟨a,b,c,d⟩,h2,h3,h4,h5,h6,h7⟩
noncomputable def qs:List Nat→Nat→List (List Nat)
 | _,0=>[[]]
 | [],_+1=>[]
 | x::l,k+1=>(qs l k).map (x::·)++qs l (k+1)
theorem xH{u1}:qs u1 0=[[]]:=by cases u1<;>rfl
theorem xG{u1}:qs [] (u1+1)=([]):=rfl
theorem oK{x l k}:qs (x::l) (k+1)=((qs l k).map (x::·)++qs l (k+1)):=rfl
theorem nV(p:Nat→Bool):∀l:List Nat,l.filter p∈qs l (l.filter p).length:=by
 intro l
 induction l with
 | nil=>
  exact by simp[xH,xG,oK]
 | cons x l ih=>
  have ih:=ih
  rw[dA]
  cases p x with
  | true=>
   rw[if_pos rfl,ah,oK]
   exact cV _ (List.mem_map_of_mem ih)
  | false=>
   rw[if_neg (by decide)]
   cases hq:(l.filter p).length with
   | zero=>
    rw[hq]at ih
    have:=bX.mp hq
    rw[this]; simp[xH,xG,oK]
   | succ k=>
    rw[hq]at ih
    rw[oK]
    exact dQ _ ih
noncomputable def setR(rs:List Nat):List Nat:=(bu 10).filter fun e=>rs.any (·==e)
theorem iE{rs:List Nat}(h1:rs.Nodup)(h2:∀e∈rs,e<10):rs.Perm (setR rs):=by
 refine(List.perm_ext_iff_of_nodup h1 (List.nodup_range.filter _)).mpr fun e=>?_
 show _↔e∈List.filter _ _
 rw[List.mem_filter,fj,List.any_eq_true]
 constructor
 ·intro h; exact⟨h2 e h,e,h,by simp⟩
 ·rintro⟨_,x,hx,he⟩
  rw[beq_iff_eq]at he; subst he; exact hx
theorem ly{rs:List Nat}(h1:rs.Nodup)(h2:∀e∈rs,e<10):setR rs∈qs (bu 10) rs.length:=by
 rw[(iE h1 h2).length_eq]
 exact nV _ _
theorem jf{rs rs':List Nat}(h:rs.Perm rs'):kindS rs=kindS rs':=by
 unfold kindS
 rw[(h.map (2^·)).sum_nat]
theorem pW{rs rs':List Nat}(h:∀o t,BY rs o t=BY rs' o t):jD rs=jD rs':=by
 have h1:∀t row,iq rs t row=iq rs' t row:=fun t row=>by unfold iq; simp only[h]
 have h2:∀t row,fQ rs t row=fQ rs' t row:=fun t row=>by unfold fQ; simp only[h1]
 have h3:∀t,fQ rs t=fQ rs' t:=fun t=>funext (h2 t)
 have h4:∀ts rows,nz rs ts rows=nz rs' ts rows:=by
  intro ts
  induction ts with
  | nil=>intro rows; rfl
  | cons t ts ih=>intro rows; rw[rB,rB,h3,ih]
 unfold jD
 exact h4 _ _
theorem jV{rs rs':List Nat}(h:rs.Perm rs'):jD rs=jD rs':=
 pW fun υ υ=>h.any_eq
noncomputable def nQ:Nat→List Nat
 | 0=>[0,0,0,3,5,1]
 | 1=>[0,0,0,4,5,1]
 | 2=>[0,0,1,5,5,1]
 | _=>[0,0,0,5,5,1]
noncomputable def DE(rows:List (List Nat)):List Nat:=(bu 6).map fun k=>(rows.filter fun r=>cq (mxP r+1) k).length
noncomputable def uV(r:List Nat):Bool:= !r.isEmpty&&Nat.blt (mxP r) 5
noncomputable def CR(S:List Nat):Bool:=
 let rows:=jD S
 rows.all uV&&Nat.blt rows.length 1000&&DE rows==nQ (kindS S)
theorem rA:(qs (bu 10) 5).all CR=true:=by decide+kernel
theorem uM{a b f:Nat→Int}(l:List Nat):(l.map fun k=>(a k+b k)*f k).sum=(l.map fun k=>a k*f k).sum+(l.map fun k=>b k*f k).sum:=by
 induction l with
 | nil=>rfl
 | cons x l ih=>rw[aB,dG,aB,dG,aB,dG,ih,Int.add_mul,Int.add_assoc,Int.add_assoc,Int.add_left_comm (b x*f x)]
theorem qE{f:Nat→Int}{m:Nat}(n:Nat):((bu n).map fun k=>(if m=k then(1:Int) else 0)*f k).sum=if m<n then f m else 0:=by
 induction n with
 | zero=>rfl
 | succ n ih=>
  rw[eW,aZ,List.sum_append,ih,aB,List.map_nil,dG,List.sum_nil,Int.add_zero]
  by_cases h:m=n
  ·subst h; rw[if_neg (Nat.lt_irrefl m),if_pos rfl,if_pos (bZ m),Int.one_mul,Int.zero_add]
  ·rw[if_neg h,Int.zero_mul,Int.add_zero]
   by_cases q:m<n
   ·rw[if_pos q,if_pos (Nat.lt_succ_of_lt q)]
   ·rw[if_neg q,if_neg fun p=>(Nat.lt_or_eq_of_le (dJ p)).elim q h]
theorem tU{x:Int}:∀rows:List (List Nat),rows.all uV=true→ql rows x=((bu 6).map fun k=>((rows.filter fun r=>cq (mxP r+1) k).length:Int)*ffI x k).sum:=by
 intro rows
 induction rows with
 | nil=>
  exact fun υ=>by simp[ql,eW]
 | cons r rows ih=>
  intro h
  rw[List.all_cons,aV]at h
  have ih:=ih h.2
  have hr:mxP r<5:=by
   have:=h.1
   unfold uV at this
   rw[aV,Nat.blt_eq]at this
   exact this.2
  have e:ql (r::rows) x=ffI x (mxP r+1)+ql rows x:=by unfold ql; rw[aB,dG]
  rw[e,ih]
  have hf:∀k,(((r::rows).filter fun r=>cq (mxP r+1) k).length:Int)=(if mxP r+1=k then 1 else 0)+((rows.filter fun r=>cq (mxP r+1) k).length:Int):=by
   intro k
   rw[dA]
   by_cases hk:mxP r+1=k
   ·rw[if_pos (Nat.beq_eq.mpr hk),if_pos hk,ah,cg,Int.add_comm]; rfl
   ·rw[if_neg (by rw[Nat.beq_eq]; exact hk),if_neg hk,Int.zero_add]
  rw[show(fun k=>(((r::rows).filter fun r=>cq (mxP r+1) k).length:Int)*ffI x k)=fun k=>((if mxP r+1=k then 1 else 0)+((rows.filter fun r=>cq (mxP r+1) k).length:Int))*ffI x k from funext fun k=>by rw[hf]]
  rw[uM,qE (f:=ffI x),if_pos (Nat.succ_lt_succ hr)]
theorem rj:∀t<4,∀x:Int,((bu 6).map fun k=>((nQ t).getD k 0:Int)*ffI x k).sum=hor (figT t) x:=by
 intro t ht x
 match t,ht with
 | 0,_=>simp[eW,nQ,figT,jg,hH,wy,tu]; grind
 | 1,_=>simp[eW,nQ,figT,jg,hH,wy,tu]; grind
 | 2,_=>simp[eW,nQ,figT,jg,hH,wy,tu]; grind
 | 3,_=>simp[eW,nQ,figT,jg,hH,wy,tu]; grind
structure PatOk(rs:List Nat):Prop where
 rows:∀r∈jD rs,r≠[]∧mxP r<10
 len:(jD rs).length<100000
 col:∀x,ql (jD rs) x=hor (figT (kindS rs)) x
theorem vh{rs:List Nat}(sq:Sq rs):PatOk rs:=by
 have hp:=iE sq.nd sq.lt
 have hm:=ly sq.nd sq.lt
 rw[sq.len]at hm
 have h:=bh.mp rA _ hm
 unfold CR at h
 simp only[aV,Nat.blt_eq,beq_iff_eq]at h
 obtain⟨⟨h1,h2⟩,h3⟩:=h
 have h4:∀k<6,((jD (setR rs)).filter fun r=>cq (mxP r+1) k).length=(nQ (kindS (setR rs))).getD k 0:=by
  intro k hk
  rw[←h3]
  unfold DE
  rw[bW,aW,List.getElem?_range hk]; rfl
 refine⟨?_,?_,?_⟩
 ·rw[jV hp]
  intro r hr
  have:=bh.mp h1 r hr
  unfold uV at this
  rw[aV,Nat.blt_eq,fc,List.isEmpty_eq_false_iff]at this
  exact⟨this.1,by lia -abstractProof⟩
 ·rw[jV hp]; exact Pw.ox h2
 ·intro x
  have ht:kindS (setR rs)<4:=lK _
  rw[jV hp,jf hp,tU _ h1]
  revert h3 h4 ht
  generalize kindS (setR rs)=t
  intro h3 h4 ht
  rw[←rj t ht]
  refine congrArg List.sum (bQ fun k hk=>?_)
  rw[h4 k (fj.mp hk)]
noncomputable def fq(f:Nat→Nat)(e:Nat):Nat→Nat:=fun i=>if f i=f (lo e) then f (hi e) else f i
noncomputable def Eqs(f g:Nat→Nat):Prop:=∀i j,f i=f j↔g i=g j
theorem oM{f g:Nat→Nat}{e:Nat}(h:∀i j,f i=f j→g i=g j)(k:g (lo e)=g (hi e))(i j:Nat)(q:fq f e i=fq f e j):g i=g j:=by
 have key:∀i,∃m,f m=fq f e i∧g m=g i:=fun i=>
  if c:f i=f (lo e) then⟨hi e,(if_pos c).symm,k.symm.trans (h _ _ c.symm)⟩ else⟨i,(if_neg c).symm,rfl⟩
 exact(key i).elim fun m p=>(key j).elim fun n r=>p.2.symm.trans ((h m n (p.1.trans (q.trans r.1.symm))).trans r.2)
theorem l9{f:Nat→Nat}{e i j:Nat}(h:f i=f j):fq f e i=fq f e j:=by unfold fq; rw[h]
theorem oN{f:Nat→Nat}{e:Nat}:fq f e (lo e)=fq f e (hi e):=(if_pos rfl).trans (ite_self _).symm
theorem wF{f g:Nat→Nat}(h:Eqs f g)(e:Nat):Eqs (fq f e) (fq g e):=fun i j=>
 ⟨oM (fun i j q=>l9 ((h i j).mp q)) oN i j,oM (fun i j q=>l9 ((h i j).mpr q)) oN i j⟩
theorem pj(f:Nat→Nat)(a b i j:Nat):fq (fq f a) b i=fq (fq f a) b j→fq (fq f b) a i=fq (fq f b) a j:=
 oM (oM (fun υ υ h=>l9 (l9 h)) oN) (l9 oN) i j
theorem wD(f:Nat→Nat)(a b:Nat):Eqs (fq (fq f a) b) (fq (fq f b) a):=fun i j=>⟨pj f a b i j,pj f b a i j⟩
theorem tE{f g h:Nat→Nat}(a:Eqs f g)(b:Eqs g h):Eqs f h:=fun i j=>(a i j).trans (b i j)
theorem pn:∀(rs:List Nat) {f g:Nat→Nat},Eqs f g→Eqs (rs.foldl fq f) (rs.foldl fq g)
 | [],_,_,h=>h
 | e::rs,_,_,h=>pn rs (wF h e)
theorem wG{rs rs':List Nat}(h:rs.Perm rs'):∀f,Eqs (rs.foldl fq f) (rs'.foldl fq f):=by
 induction h with
 | nil=>exact fun f i j=>Iff.rfl
 | cons x _ ih=>exact fun f=>ih (fq f x)
 | swap x y l=>exact fun f=>pn l (wD f y x)
 | trans _ _ ih1 ih2=>exact fun f=>tE (ih1 f) (ih2 f)
noncomputable def mk6(f:Nat→Nat):List Nat:=(bu 6).map f
theorem rY{f:Nat→Nat}{i:Nat}(h:i<6):(mk6 f).getD i 0=f i:=by
 unfold mk6
 rw[bW,aW,List.getElem?_range h]; rfl
theorem vE{f:Nat→Nat}{e:Nat}(he:e<10):jQ (mk6 f) e=mk6 (fq f e):=by
 refine FQ (je e he) fun υ h2 υ h4 υ=>?_
 unfold jQ
 rw[rY (by exact aw (by assumption)),rY (by exact aw (by assumption))]
 unfold mk6
 rw[bw]
 refine bQ fun i υ=>rfl
theorem oW:∀(rs:List Nat) (f:Nat→Nat),(∀e∈rs,e<10)→rs.foldl jQ (mk6 f)=mk6 (rs.foldl fq f):=by
 intro rs
 induction rs with
 | nil=>
  exact fun υ υ=>rfl
 | cons e rs ih=>
  intro f h
  rw[bH,vE (h e (.head _)),ih _ fun x hx=>h x (.tail _ hx)]; rfl
theorem pv(x:Nat):∀(l acc:List Nat),x∈l.foldl pw acc↔x∈acc∨x∈l:=by
 intro l
 induction l with
 | nil=>
  exact fun acc=>by simp
 | cons y l ih=>
  intro acc
  rw[bH,ih]
  unfold pw
  split
  ·rename_i h
   rw[List.any_eq_true]at h
   refine bq h fun z hz e=>?_
   rw[beq_iff_eq]at e; subst e
   rw[aP]
   constructor
   ·rintro(q | q)
    ·exact .inl q
    ·exact .inr (.inr q)
   ·rintro(q | q | q)
    ·exact .inl q
    ·subst q; exact .inl hz
    ·exact .inr q
  ·rw[dm,ay,aP,or_assoc]
theorem A0{f g:Nat→Nat}(h:Eqs f g):∀n:Nat,(((bu n).map f).foldl pw []).length=(((bu n).map g).foldl pw []).length:=by
 intro n
 induction n with
 | zero=>
  exact rfl
 | succ n ih=>
  have ih:=ih
  rw[eW,aZ,aZ,List.foldl_append,List.foldl_append]
  show(pw _ (f n)).length=(pw _ (g n)).length
  have hm:∀u:Nat→Nat,(((bu n).map u).foldl pw []).any (fun y=>y==u n)=true↔∃i,i<n∧u i=u n:=by
   intro u
   rw[List.any_eq_true]
   constructor
   ·rintro⟨y,hy,e⟩
    rw[beq_iff_eq]at e; subst e
    rw[pv]at hy
    rcases hy with q | q
    ·cases q
    ·refine bq (bg.mp q) fun i hi e=>?_
     exact gX i (fj.mp hi) e
   ·rintro⟨i,hi,e⟩
    exact gX (u n) ((pv _ _ _).mpr (.inr (bg.mpr ⟨i,fj.mpr hi,e⟩))) (by simp)
  have he:(((bu n).map f).foldl pw []).any (fun y=>y==f n)=(((bu n).map g).foldl pw []).any (fun y=>y==g n):=by
   rw[bJ,hm,hm]
   constructor
   ·rintro⟨i,hi,e⟩; exact⟨i,hi,(h i n).mp e⟩
   ·rintro⟨i,hi,e⟩; exact⟨i,hi,(h i n).mpr e⟩
  unfold pw at he⊢
  rw[he]
  split
  ·exact ih
  ·rw[ak,ak]
   exact congrArg (·+1) ih
theorem nB{rs rs':List Nat}(h:rs.Perm rs')(hr:∀e∈rs,e<10):gP rs=gP rs':=by
 unfold gP mA
 have e0:([0,1,2,3,4,5]:List Nat)=mk6 id:=rfl
 rw[e0,oW _ _ hr,oW _ _ fun e he=>hr e (h.mem_iff.mpr he)]
 exact A0 (wG h id) 6
noncomputable def xO(S:List Nat):Bool:=cq (gP S) (7-(jk (kindS S)).length)
theorem pX:(qs (bu 10) 5).all xO=true:=by decide+kernel
theorem rE{rs:List Nat}(sq:Sq rs):gP rs=7-(jk (kindS rs)).length:=by
 have hp:=iE sq.nd sq.lt
 have hm:=ly sq.nd sq.lt
 rw[sq.len]at hm
 have h:=bh.mp pX _ hm
 unfold xO at h
 rw[Nat.beq_eq]at h
 rw[nB hp sq.lt,jf hp,h]
theorem pO{a b:List Arc}(h:a.Perm b):(fO a).Perm (fO b):=by
 unfold fO
 have:(fun p:Arc=>(a.map Prod.snd).any fun x=>x==p.1)=fun p:Arc=>(b.map Prod.snd).any fun x=>x==p.1:=funext fun p=>(h.map Prod.snd).any_eq
 rw[this]
 exact h.filter _
theorem kS:∀(k:Nat) {a b:List Arc},a.Perm b→(peelP k a).Perm (peelP k b):=by
 intro k
 induction k with
 | zero=>exact fun h=>h
 | succ k ih=>
  intro a b h
  have h1:=pO h
  rw[lG,lG,h.length_eq,h1.length_eq]
  split
  ·exact ih h1
  ·exact h1
theorem qr{a b:List Arc}(h:a.Perm b):acycP a=acycP b:=by
 have:=(kS 99 h).length_eq
 unfold acycP
 rw[bJ,fo,fo,←bX,←bX,this]
noncomputable def cA:List Nat→List Arc→Nat
 | [],w=>if acycP w then 1 else 0
 | e::es,w=>cA es (w++[(lo e,hi e)])+cA es (w++[(hi e,lo e)])
theorem B2{w}:cA [] w=(if acycP w then 1 else 0):=rfl
theorem Bo{e es w}:cA (e::es) w=(cA es (w++[(lo e,hi e)])+cA es (w++[(hi e,lo e)])):=rfl
theorem tY:∀(es:List Nat) {w w':List Arc},w.Perm w'→cA es w=cA es w':=by
 intro es
 induction es with
 | nil=>intro w w' h; rw[B2,B2,qr h]
 | cons e es ih=>intro w w' h; rw[Bo,Bo,ih (h.append_right _),ih (h.append_right _)]
theorem Bn{es es':List Nat}(h:es.Perm es'):∀w,cA es w=cA es' w:=by
 induction h with
 | nil=>exact fun w=>rfl
 | cons x _ ih=>intro w; rw[Bo,Bo,ih,ih]
 | swap x y l=>
  intro w
  have hs:∀p q:Arc,cA l (w++[p]++[q])=cA l (w++[q]++[p]):=fun p q=>tY l (by
   rw[bo,bo]
   exact List.Perm.append_left _ (List.Perm.swap _ _ _))
  simp only[B2,Bo]
  rw[hs (lo y,hi y),hs (lo y,hi y),hs (hi y,lo y),hs (hi y,lo y)]
  lia -abstractProof
 | trans _ _ ih1 ih2=>exact fun w=>(ih1 w).trans (ih2 w)
theorem Bm:∀(es:List Nat) (ws:List (List Arc)),((es.foldl eS ws).filter acycP).length=(ws.map (cA es)).sum:=by
 intro es
 induction es with
 | nil=>
  intro ws
  induction ws with
  | nil=>rfl
  | cons w ws ih=>
   rw[List.foldl_nil]at ih⊢
   rw[dA,aB,dG,←ih,B2]
   split
   ·rw[ah]; exact Pw.aq45
   ·exact Pw.JF
 | cons e es ih=>
  intro ws
  rw[bH,ih]
  unfold eS
  induction ws with
  | nil=>rfl
  | cons w ws ih=>
   rw[cP,aZ,List.sum_append,ih,aB,dG]
   simp[B2,Bo]
theorem zq(a:Nat)(r:List Nat):xQ (a::r)=cA r [(lo a,hi a)]:=by
 show((r.foldl eS [[(lo a,hi a)]]).filter acycP).length=_
 rw[Bm]; simp
noncomputable def bA(p:Arc):Nat×Nat:=(2^p.1,2^p.2)
noncomputable def jv:List (Nat×Nat)→Nat
 | []=>0
 | p::r=>Nat.lor p.2 (jv r)
theorem vW{p r}:jv (p::r)=(Nat.lor p.2 (jv r)):=rfl
noncomputable def xK(f:List (Nat×Nat)→Bool)(H:Nat):List (Nat×Nat)→List (Nat×Nat)→Bool→Bool
 | [],acc,ch=>match ch with
  | true=>f acc
  | false=>false
 | p::r,acc,ch=>match Nat.land p.1 H with
  | 0=>xK f H r acc true
  | _+1=>xK f H r (p::acc) ch
noncomputable def goB:Nat→List (Nat×Nat)→Bool
 | 0,a=>a.isEmpty
 | k+1,a=>match a with
  | []=>true
  | p::r=>xK (goB k) (jv (p::r)) (p::r) [] false
theorem qb(i:Nat):∀a:List Arc,(jv (a.map bA)).testBit i=(a.map Prod.snd).any fun x=>x==i:=by
 intro a
 induction a with
 | nil=>
  exact Nat.zero_testBit i
 | cons p a ih=>
  rw[aB,vW,aB,List.any_cons,←ih]
  show(2^p.2|||jv (a.map bA)).testBit i=_
  rw[Nat.testBit_or,Nat.testBit_two_pow]
  congr 1
theorem ve(H i:Nat):cq (Nat.land (2^i) H) 0= !H.testBit i:=by
 have h:Nat.land (2^i) H=if H.testBit i then 2^i else 0:=by
  show 2^i&&&H=_
  refine Nat.eq_of_testBit_eq fun j=>?_
  rw[Nat.testBit_and,Nat.testBit_two_pow]
  by_cases h:i=j
  ·subst h
   cases hb:H.testBit i<;>simp
  ·cases hb:H.testBit i<;>simp[h]
 rw[h]
 have:=dp i
 cases H.testBit i
 ·rfl
 ·rw[if_pos rfl,Bool.not_true,Bool.eq_false_iff,ne_eq,Nat.beq_eq]; lia -abstractProof
theorem yZ(f:List (Nat×Nat)→Bool)(H:Nat):∀(a acc:List (Nat×Nat)) (ch:Bool),xK f H a acc ch=if ch||decide ((a.filter fun p=> !cq (Nat.land p.1 H) 0).length<a.length) then f ((a.filter fun p=> !cq (Nat.land p.1 H) 0).reverse++acc) else false:=by
 intro a
 induction a with
 | nil=>
  intro acc ch
  cases ch<;>rfl
 | cons p r ih=>
  intro acc ch
  have hl:=dR (fun p:Nat×Nat=> !cq (Nat.land p.1 H) 0) r
  have e:xK f H (p::r) acc ch=match Nat.land p.1 H with
   | 0=>xK f H r acc true
   | _+1=>xK f H r (p::acc) ch:=rfl
  rw[e,dA]
  cases hh:Nat.land p.1 H with
  | zero=>
   dsimp only
   rw[ih]
   rw[show cq 0 0=true from rfl]
   rw[if_neg (by decide:¬(!true)=true),ah,decide_eq_true (by exact Pw.ud hl:_<r.length+1),Bool.true_or,Bool.or_true]
  | succ m=>
   dsimp only
   rw[ih]
   rw[show cq (m+1) 0=false from rfl,if_pos (by decide:(!false)=true),ah,ah,List.reverse_cons,bo]
   simp only[Nat.add_lt_add_iff_right]
   rfl
theorem uO(a:List Arc):(a.map bA).filter (fun p=> !cq (Nat.land p.1 (jv (a.map bA))) 0)=(fO a).map bA:=by
 rw[List.filter_map]
 unfold fO
 congr 1
 refine List.filter_congr fun p υ=>?_
 show(!cq (Nat.land (2^p.1) _) 0)=_
 rw[ve,qb,Bool.not_not]
theorem mE{α:Type}{a b:List α}(h:a.Perm b):a.isEmpty=b.isEmpty:=by
 rw[bJ,fo,fo,←bX,←bX,h.length_eq]
theorem DF:∀(k:Nat) (a:List Arc),goB k (a.map bA)=(peelP k a).isEmpty:=by
 intro k
 induction k with
 | zero=>exact fun a=>List.isEmpty_map
 | succ k ih=>
  intro a
  cases a with
  | nil=>exact rfl
  | cons p a=>
  skip
  have e:goB (k+1) ((p::a).map bA)=xK (goB k) (jv ((p::a).map bA)) ((p::a).map bA) [] false:=rfl
  rw[e,yZ,uO,ag,ag,lG,List.append_nil,Bool.false_or]
  have hs:=nf (p::a)
  by_cases h:(fO (p::a)).length<(p::a).length
  ·rw[if_pos h,if_pos (decide_eq_true h),←List.map_reverse,ih]
   exact mE (kS k (List.reverse_perm _))
  ·rw[if_neg h,if_neg (by rw[decide_eq_true_iff]; exact h)]
   symm
   rw[List.isEmpty_eq_false_iff,←List.length_pos_iff]
   rw[ah]at h hs
   exact Pw.JE h
noncomputable def cB:List (Nat×Nat)→List (Nat×Nat)→Nat
 | [],w=>match goB 99 w with
  | true=>1
  | false=>0
 | p::es,w=>Nat.add (cB es (p::w)) (cB es ((p.2,p.1)::w))
theorem cB_1{w}:cB [] w=(match goB 99 w with
  | true=>1
  | false=>0):=rfl
theorem cB_2{p es w}:cB (p::es) w=(Nat.add (cB es (p::w)) (cB es ((p.2,p.1)::w))):=rfl
noncomputable def bE(e:Nat):Nat×Nat:=[(2,4),(2,8),(4,8),(2,16),(4,16),(8,16),(2,32),(4,32),(8,32),(16,32)].getD e (0,0)
theorem EN:∀e<10,bE e=(2^lo e,2^hi e):=by decide+kernel
theorem H9:∀(es:List Nat) (w:List Arc),(∀e∈es,e<10)→cB (es.map bE) (w.map bA)=cA es w:=by
 intro es
 induction es with
 | nil=>
  intro w υ
  rw[List.map_nil,cB_1,DF,B2]
  unfold acycP
  cases(peelP 99 w).isEmpty<;>rfl
 | cons e es ih=>
  intro w h
  have h1:=ih ((lo e,hi e)::w) fun x hx=>h x (.tail _ hx)
  have h2:=ih ((hi e,lo e)::w) fun x hx=>h x (.tail _ hx)
  rw[aB]at h1 h2
  have p1:∀x:Arc,cA es (w++[x])=cA es (x::w):=fun x=>tY es List.perm_append_comm
  rw[aB,cB_2,EN e (h e (.head _)),Bo,p1,p1,←h1,←h2]
  rfl
noncomputable def CV(S:List Nat):Bool:=S.all fun a=>cq (cB ((S.filter fun e=> !cq e a).map bE) [bE a]) (rH (kindS S))
theorem rI:(qs (bu 10) 5).all CV=true:=by decide+kernel
theorem zp{a:Nat}{r:List Nat}(sq:Sq (a::r)):xQ (a::r)=rH (kindS (a::r)):=by
 have hp:=iE sq.nd sq.lt
 have hm:=ly sq.nd sq.lt
 rw[sq.len]at hm
 have h:=bh.mp rI _ hm
 unfold CV at h
 have ha:a∈setR (a::r):=hp.mem_iff.mp (.head _)
 have h:=bh.mp h a ha
 rw[Nat.beq_eq]at h
 have hnd:=ej.mp sq.nd
 have hf:(a::r).filter (fun e=> !cq e a)=r:=by
  rw[dA,if_neg (by simp),List.filter_eq_self]
  intro e he
  rw[fc,Bool.eq_false_iff,ne_eq,Nat.beq_eq]
  rintro rfl
  exact hnd.1 he
 have hq:=hp.filter (fun e=> !cq e a)
 rw[hf]at hq
 have hlt:∀e∈(setR (a::r)).filter (fun e=> !cq e a),e<10:=fun e he=>sq.lt e (hp.mem_iff.mpr (List.mem_filter.mp he).1)
 rw[zq,jf hp,←h,Bn hq,←H9 _ _ hlt,EN a (sq.lt a (.head _))]
 rfl
end Pl
end
section
open PySem
set_option maxRecDepth 8000
set_option exponentiation.threshold 50000
namespace Pl
open Pw
noncomputable def Ec:IE:= .or (.cmp .NotEq (.var 21) (.int 0)) (.cmp .NotEq (.var 25) (.call 10 [.var 32,.bin .Pow (.int 2) (.var 24)]))
noncomputable def Eb:IE:= .or (.cmp .NotEq (.var 29) (.call 10 [.var 32,.var 4])) (.cmp .NotEq (.bin .Add (.bin .Mult (.var 28) (.var 26)) (.var 29)) (.var 25))
noncomputable def Ea:IE:= .or (.cmp .NotEq (.var 31) (.call 10 [.var 32,.un .USub (.var 4)])) (.cmp .NotEq (.bin .Add (.bin .Mult (.var 30) (.var 27)) (.var 31)) (.var 25))
noncomputable def retE:IE:= .and (.cmp .Eq (.var 22) (.bin .Sub (.int 5) (.call 11 [.var 1]))) (.cmp .Eq (.attr 19 "nt") (.bin .Mult (.int 2) (.call 12 [.var 1])))
noncomputable def oE:List IS:=[.ife Ec [.ret (.bool false)] [],.ife Eb [.ret (.bool false)] [],.ife Ea [.ret (.bool false)] [],.ret retE]
noncomputable def oH:List IS:=(IS.mkW 19 (.bin .Add (.var 17) (.str "x")))::(IS.unpack 20 21 (.attr 19 "norm"))::(IS.assign 22 (.methW 19))::(IS.assign 23 (.bin .Add (.bin .Mult (.list [.int 0]) (.bin .Sub (.int 5) (.var 22))) (.comp (.bin .Mult (.idx (.var 20) (.var 33)) (.bin .Pow (.un .USub (.int 1)) (.var 33))) [(.one 33,.bi .range [.var 22,.un .USub (.int 1),.un .USub (.int 1)],[])] ["k"] [20])))::(IS.assign 24 (.bin .Add (.bin .Mult (.int 5) (.mt .bitLength (.bin .Add (.var 4) (.int 1)) [])) (.int 1)))::(IS.assign 25 (.call 3 [.var 23,.var 24]))::(IS.assign 26 (.bin .Sub (.bin .Pow (.int 2) (.var 24)) (.var 4)))::(IS.assign 27 (.bin .Sub (.un .USub (.bin .Pow (.int 2) (.var 24))) (.var 4)))::(IS.unpack 28 29 (.call 5 [.var 25,.var 26]))::(IS.unpack 30 31 (.call 5 [.var 25,.var 27]))::(IS.assign 32 (.call 9 [.var 1]))::oE
theorem Ia:fLawB.body=(IS.ife (.cmp .NotEq (.var 9) (.comp (.list [.bin .Add (.var 34) (.var 2),.bin .Add (.var 33) (.var 2)]) [(.two 33 34,.var 1,[])] ["low","high"] [2])) [.ret (.bool false)] [])::(IS.assign 10 (.list [.tup [.int 0,.list []]]))::(IS.fore (.one 11) (.bi .range [.int 5]) [.assign 10 (.bin .Add (.var 10) (.comp (.tup [.bin .Add (.var 33) (.bin .Pow (.int 2) (.var 11)),.bin .Add (.var 34) (.idx (.var 9) (.var 11))]) [(.two 33 34,.var 10,[])] ["bits","ends"] [9,11]))] [])::(IS.assign 12 (.comp (.var 33) [(.two 33 34,.var 10,[.and (.cmp .Gt (.var 33) (.int 0)) (.cmp .Eq (.comp (.var 35) [(.one 35,.var 34,[.cmp .NotEq (.mt .count (.var 34) [.var 35]) (.int 2)])] ["town"] [34]) (.list []))])] ["bits","ends"] []))::(IS.assignM 13 (.list []))::(IS.fore (.one 14) (.var 12) [.assign 15 (.call 13 [.bin .Sub (.var 14) (.bin .Pow (.int 2) (.bin .Sub (.mt .bitLength (.var 14) []) (.int 1))),.var 3]),.append 13 (.bin .Add (.bin .Add (.str "...") (.mt .replace (.var 15) [.str ", ",.str ",... "])) (.str "..."))] [])::(IS.assignM 16 (.list [.int 0]))::(IS.assign 17 (.str "\t"))::(IS.fore (.one 11) (.bi .range [.int 5]) [.fore (.one 18) (.bi .lst [.bor 16]) [.assign 15 (.call 13 [.bin .Add (.var 18) (.bin .Pow (.int 2) (.var 11)),.var 3]),.frz 13,.ife (.cmp .Eq (.comp (.var 33) [(.one 33,.var 13,[.call 0 [.var 33,.var 15]])] ["one"] [15]) (.list [])) [.append 16 (.bin .Add (.var 18) (.bin .Pow (.int 2) (.var 11))),.assign 17 (.bin .Add (.bin .Add (.var 17) (.bin .Mult (.str " ") (.mt .count (.var 15) [.str ","]))) (.str "\t"))] []] []] [])::oH:=rfl
section
variable {b sh:Nat}{x0 x4 x5 x6 x7 x8 x10 x11 x12 x13 x14 x15 x16 x17 x18 x19 x20 x21 x22 x23 x24 x25 x26 x27 x28 x29 x30 x31 x32:Var}{rs F:List Nat}
theorem GY(sq:Sq rs)(hb:b<8)(hF:∀sh,((gZ sh 0 rs [(0,[])]).filter mm).map Prod.fst=F)(hr:∀r∈F,0<r∧r<32∧0<rem r∧rem r<16)(hl:F.length<10):
  ∃w10 w11 w13 w14 w15 w16 w18,dU ftL 150 [x0,.fro (rsD rs),.fro (.int (sh:Nat)),.fro (aC b),x4,x5,x6,x7,x8,.fro (.list (rs.map (fM sh))),x10,x11,x12,x13,x14,x15,x16,x17,x18,x19,x20,x21,x22,x23,x24,x25,x26,x27,x28,x29,x30,x31,x32] fLawB.body=
  dU ftL 141 [x0,.fro (rsD rs),.fro (.int (sh:Nat)),.fro (aC b),x4,x5,x6,x7,x8,.fro (.list (rs.map (fM sh))),w10,w11,.fro (.list (F.map aC)),w13,w14,w15,w16,.fro (.str (mkS (j0 F))),w18,x19,x20,x21,x22,x23,x24,x25,x26,x27,x28,x29,x30,x31,x32] oH:=by
 have hn:∀p∈gZ sh 0 rs [(0,[])],p.2.length≤100:=by
  intro p hp
  rw[show [((0:Nat),([]:List Nat))]=[((0:Nat),([]:List Nat))].map (fun p=>(p.1,fw sh p.2)) from rfl,rS]at hp
  refine bq (bg.mp hp) fun q hq e22_1=>?_; subst e22_1
  have:=(mx rs 0 0 [(0,[])] sq.lt (by
   intro p hp
   rw[ay]at hp
   subst hp
   exact⟨bL _,fun x hx=>by cases hx⟩) q hq).1
  have h2:∀es:List Nat,(fw sh es).length=2*es.length:=by
   intro es
   induction es with
   | nil=>rfl
   | cons e es ih=>rw[iQ,ah,ah,ih,ah]; exact Pw.M4
  rw[sq.len]at this
  show(fw sh q.2).length≤100
  rw[h2]; exact Pw.Jn this
 have hnl:(gZ sh 0 rs [(0,[])]).length≤100:=by
  have:∀(es:List Nat) (k:Nat) (ns:List (Nat×List Nat)),(gZ sh k es ns).length=ns.length*2^es.length:=by
   intro es
   induction es with
   | nil=>intro k ns; simp[zC,lH]
   | cons e es ih=>intro k ns; rw[lH,ih,ak,ag,ah,cC,Nat.add_mul,←d7,←Nat.mul_two]
  rw[this,sq.len]; decide
 obtain⟨v11,h1⟩:=vx (ft:=ftL) (n:=116) (all:=rs) (sh:=sh) (x0:=x0) (x1:= .fro (rsD rs)) (x2:= .fro (.int (sh:Nat))) (x3:= .fro (aC b)) (x4:=x4) (x5:=x5) (x6:=x6) (x7:=x7) (x8:=x8) (x12:=x12) (x13:=x13) (x14:=x14) (x15:=x15) (x16:=x16) (x17:=x17) (x18:=x18) (x19:=x19) (x20:=x20) (x21:=x21) (x22:=x22) (x23:=x23) (x24:=x24) (x25:=x25) (x26:=x26) (x27:=x27) (x28:=x28) (x29:=x29) (x30:=x30) (x31:=x31) (x32:=x32) rs 0 [(0,[])] x11 rfl (by rw[sq.len]; decide) (by decide) (by
  intro p hp
  rw[ay]at hp; subst hp; exact bL _)
 rw[sq.len]at h1
 have h2:=uX (ft:=ftL) (n:=115) (x0:=x0) (x1:= .fro (rsD rs)) (x2:= .fro (.int (sh:Nat))) (x3:= .fro (aC b)) (x4:=x4) (x5:=x5) (x6:=x6) (x7:=x7) (x8:=x8) (x9:= .fro (.list (rs.map (fM sh)))) (x11:=v11) (x12:=x12) (x13:=x13) (x14:=x14) (x15:=x15) (x16:=x16) (x17:=x17) (x18:=x18) (x19:=x19) (x20:=x20) (x21:=x21) (x22:=x22) (x23:=x23) (x24:=x24) (x25:=x25) (x26:=x26) (x27:=x27) (x28:=x28) (x29:=x29) (x30:=x30) (x31:=x31) (x32:=x32) hnl hn
 rw[hF sh]at h2
 refine mW (xg (n:=63) (x0:=x0) (x1:= .fro (rsD rs)) (x2:= .fro (.int (sh:Nat))) (x4:=x4) (x5:=x5) (x6:=x6) (x7:=x7) (x8:=x8) (x9:= .fro (.list (rs.map (fM sh)))) (x10:= .fro (.list ((gZ sh 0 rs [(0,[])]).map mU))) (x11:=v11) (x12:= .fro (.list (F.map aC))) (x16:=x16) (x17:=x17) (x18:=x18) (x19:=x19) (x20:=x20) (x21:=x21) (x22:=x22) (x23:=x23) (x24:=x24) (x25:=x25) (x26:=x26) (x27:=x27) (x28:=x28) (x29:=x29) (x30:=x30) (x31:=x31) (x32:=x32) hb F [] x14 x15 hr (by rw[aE]; exact Pw.Jm hl)) fun v14 v15 h3=>?_
 rw[List.nil_append]at h3
 obtain⟨w11,w13,w15,w18,h4⟩:=vi (n:=50) (b:=b) (brs:=F.map rem) (x0:=x0) (x1:= .fro (rsD rs)) (x2:= .fro (.int (sh:Nat))) (x4:=x4) (x5:=x5) (x6:=x6) (x7:=x7) (x8:=x8) (x9:= .fro (.list (rs.map (fM sh)))) (x10:= .fro (.list ((gZ sh 0 rs [(0,[])]).map mU))) (x12:= .fro (.list (F.map aC))) (x14:=v14) (x19:=x19) (x20:=x20) (x21:=x21) (x22:=x22) (x23:=x23) (x24:=x24) (x25:=x25) (x26:=x26) (x27:=x27) (x28:=x28) (x29:=x29) (x30:=x30) (x31:=x31) (x32:=x32) hb (by
  intro m hm
  refine bq (bg.mp hm) fun r hr' e53_1=>?_; subst e53_1
  have:=hr r hr'
  exact⟨this.2.2.2,this.2.2.1⟩) (by rw[ag]; exact Pw.Jl hl) 5 0 [0] [9] v11 (.mut ((F.map rem).map (brD b))) v15 x18 (by decide) (.inl rfl) (by
  intro x hx
  rw[ay]at hx; subst hx; decide) (by decide) (by decide)
 refine i7_1 (.fro (.list ((gZ sh 0 rs [(0,[])]).map mU))) w11 w13 v14 w15 (.mut ((su (F.map rem) 5 0 ([0],[9])).1.map aC)) w18 ?_
 rw[Ia]
 refine aj (aH (aj (fV (yD (n:=128) (by rw[sq.len]; decide))) cU)) ?_
 refine aj (aH (bf (d:= .list ([((0:Nat),([]:List Nat))].map mU)) (d8 (aS (lR (aS cO (aS (d8 bU (by decide)) bU)) (by rw[few_eq]; show 2≤_; exact Pw.jE)) bU) (by rw[few_eq]; show 1≤_; exact Pw.mP)))) ?_
 refine aj (aH (aj (fW xM h1) cU)) ?_
 refine aj (aH (bf h2)) ?_
 refine aj (aH (dX (d8 bU (by decide)))) ?_
 refine aj (aH (aj (fW (fe (aF rfl) (by rw[ag]; exact Pw.Jk hl)) h3) cU)) ?_
 refine aj (aH (dX (ds:=[0].map aC) (d8 (aS cO bU) (by rw[few_eq]; show 1≤_; exact Pw.mP)))) ?_
 refine aj (aH (bf (d:= .str (mkS [9])) ?_)) ?_
 ·have:aa "\t"=mkS [9]:=fL _
  rw[←this]; exact ji
 refine aj (aH (aj (fW xM h4) cU)) ?_
 rfl
end
theorem ft3L:ftL 3=some (40,d2i):=rfl
theorem ft9:∃ft',ftL 9=some (41,fun ds=>DS.run ft' 40 ds):=⟨_,rfl⟩
theorem ft10:∃ft',ftL 10=some (41,fun ds=>DW.run ft' 40 ds):=⟨_,rfl⟩
theorem ft11:∃ft',ftL 11=some (41,fun ds=>mH.run ft' 40 ds):=⟨_,rfl⟩
theorem ft12:∃ft',ftL 12=some (41,fun ds=>DT.run ft' 40 ds):=⟨_,rfl⟩
theorem rO(raw:D)(w:Wst):(wres raw w).lookup "norm"=some (.tuple [.tuple (w.cnt.map aC),aC w.b]):=rfl
theorem zu(raw:D)(w:Wst):(wres raw w).lookup "nt"=some (aC w.nt):=rfl
theorem wX:∀t<4,0<(jk t).length∧(jk t).length<900:=by decide+kernel
noncomputable def figE:IE:= .bin .Add (.bin .Mult (.list [.int 0]) (.bin .Sub (.int 5) (.var 22))) (.comp (.bin .Mult (.idx (.var 20) (.var 33)) (.bin .Pow (.un .USub (.int 1)) (.var 33))) [(.one 33,.bi .range [.var 22,.un .USub (.int 1),.un .USub (.int 1)],[])] ["k"] [20])
section
variable {x0 x1 x2 x3 x4 x5 x6 x7 x8 x9 x10 x11 x12 x13 x14 x15 x16 x17 x18 x19 x21 x23 x24 x25 x26 x27 x28 x29 x30 x31 x32:Var}
theorem AB:∀t<4,evE ftL 136 [x0,x1,x2,x3,x4,x5,x6,x7,x8,x9,x10,x11,x12,x13,x14,x15,x16,x17,x18,x19,.fro (.tuple ((jk t).map aC)),x21,.fro (aC ((jk t).length-1)),x23,x24,x25,x26,x27,x28,x29,x30,x31,x32] figE=some (.list ((figT t).map PyData.int)):=by
 intro t ht
 match t,ht with
 | 0,_=>kernel_rfl
 | 1,_=>kernel_rfl
 | 2,_=>kernel_rfl
 | 3,_=>kernel_rfl
end
theorem A4(n:Nat):∀l:List Int,kK n l=hor l ((2^n:Nat):Int):=by
 intro l
 induction l with
 | nil=>
  exact rfl
 | cons d l ih=>
  rw[jy,hH,ih,cW]; rfl
theorem AD:∀t<4,(figT t).length≤8∧(figT t).all (fun i=>decide (i.natAbs<2^4))=true:=by decide+kernel
theorem A5{t w N:Nat}(ht:t<4)(hw:0<w)(hw2:w<1000)(hN:hor (figT t) ((2^w:Nat):Int)=(N:Int)):d2i [.list ((figT t).map PyData.int),aC w]=some (aC N):=by
 refine fu (AD t ht) fun h1 h2=>?_
 refine d2i_mk.trans ?_
 rw[gK,bC,if_pos,aG,A4,hN]
 ·rfl
 refine Hh (by exact Pw.BM hw) (by exact Pw.Jj hw2) h1 ?_
 rw[bh]at h2⊢
 intro i hi
 have:=h2 i hi
 rw[decide_eq_true_iff]at this⊢
 exact eY this (cp (by decide) (by decide))
section
variable {c t N:Nat}{x0 x2 x3 x5 x6 x7 x8 x9 x10 x11 x12 x13 x14 x15 x16 x18 x19 x20 x21 x22 x23 x24 x25 x26 x27 x28 x29 x30 x31 x32:Var}{rs lead:List Nat}
set_option maxHeartbeats 8000000 in
theorem GX(ht:t<4)(hc1:1≤c)(hc:c≤10^30)(D:DivOk t c (2^wdt c) N)(h1:∀c∈lead,c=32∨c=9)(h2:lead.length<800)(h3:(wgo lead ⟨[],0,0,0⟩).cnt=jk t)(h4:(wgo lead ⟨[],0,0,0⟩).b=0):
  dU ftL 141 [x0,.fro (rsD rs),x2,x3,.fro (aC c),x5,x6,x7,x8,x9,x10,x11,x12,x13,x14,x15,x16,.fro (.str (mkS lead)),x18,x19,x20,x21,x22,x23,x24,x25,x26,x27,x28,x29,x30,x31,x32] oH=
  dU ftL 130 [x0,.fro (rsD rs),x2,x3,.fro (aC c),x5,x6,x7,x8,x9,x10,x11,x12,x13,x14,x15,x16,.fro (.str (mkS lead)),x18,.inst (wres (.str (mkS (lead++[120]))) (wgo lead ⟨[],0,0,0⟩)),.fro (.tuple ((jk t).map aC)),.fro (aC 0),.fro (aC ((jk t).length-1)),.fro (.list ((figT t).map PyData.int)),.fro (aC (wdt c)),.fro (aC N),.fro (aC (2^wdt c-c)),.fro (.int (-((2^wdt c+c:Nat):Int))),.fro (aC (N / (2^wdt c-c))),.fro (aC (N%(2^wdt c-c))),.fro (.int (-(((N-1) / (2^wdt c+c):Nat):Int)-1)),.fro (.int (hor (figT t) (-(c:Int)))),.fro (.list ((jD rs).map gc))] oE:=by
 have hw:=xD hc
 have hw0:0<wdt c:=br _
 have hcl:0<(jk t).length∧(jk t).length<900:=by
  exact wX t ht
 have d1:=Ce (x:=lead) (y:=[120]) (by simp only[ah,aE]; exact Pw.E6 h2)
 have e120:aa "x"=mkS [120]:=fL _
 rw[←e120]at d1
 have hmw:=yR (n:=139) (σ:=[x0,.fro (rsD rs),x2,x3,.fro (aC c),x5,x6,x7,x8,x9,x10,x11,x12,x13,x14,x15,x16,.fro (.str (mkS lead)),x18,x19,x20,x21,x22,x23,x24,x25,x26,x27,x28,x29,x30,x31,x32]) (i:=19) (e:= .bin .Add (.var 17) (.str "x")) h1 h2 (by decide) (cm (aF rfl) ji d1)
 have hmm:=n6 (n:=136) (σ:=[x0,.fro (rsD rs),x2,x3,.fro (aC c),x5,x6,x7,x8,x9,x10,x11,x12,x13,x14,x15,x16,.fro (.str (mkS lead)),x18,.inst (wres (.str (mkS (lead++[120]))) (wgo lead ⟨[],0,0,0⟩)),.fro (.tuple ((jk t).map aC)),.fro (aC 0),x22,x23,x24,x25,x26,x27,x28,x29,x30,x31,x32]) (i:=19) (raw:= .str (mkS (lead++[120]))) (s:=wgo lead ⟨[],0,0,0⟩) rfl h4 (by rw[h3]; exact hcl.1) (by rw[h3]; exact hcl.2) (by decide)
 rw[h3]at hmm
 have hno:(wres (.str (mkS (lead++[120]))) (wgo lead ⟨[],0,0,0⟩)).lookup "norm"=some (.tuple [.tuple ((jk t).map aC),aC 0]):=by
  have:=rO (.str (mkS (lead++[120]))) (wgo lead ⟨[],0,0,0⟩)
  rw[h3,h4]at this
  exact this
 have c1:dO .Add (aC c) (.int 1)=some (aC (c+1)):=dZ c 1
 have c2:mtD .bitLength (aC (c+1)) []=some (aC (bitLen ((c+1:Nat):Int))):=rfl
 have hbl:bitLen ((c+1:Nat):Int)≤100:=by
  have e:wdt c=5*bitLen ((c+1:Nat):Int)+1:=rfl
  exact Pw.Ji e hw
 have c3:dO .Mult (.int 5) (aC (bitLen ((c+1:Nat):Int)))=some (aC (5*bitLen ((c+1:Nat):Int))):=lI (a:=5) (by decide) (by exact Pw.Jh hbl)
 have c4:dO .Add (aC (5*bitLen ((c+1:Nat):Int))) (.int 1)=some (aC (wdt c)):=dZ _ 1
 have c5:=A5 ht hw0 (by exact Pw.Jg hw) D.eq
 have c6:dO .Pow (.int 2) (aC (wdt c))=some (aC (2^wdt c)):=mq (k:=wdt c) (by exact Pw.EV hw)
 have hlt:=D.lt
 have c7:dO .Sub (aC (2^wdt c)) (aC c)=some (aC (2^wdt c-c)):=gG (by exact Pw.Jf hlt)
 have c8:unD .USub (aC (2^wdt c))=some (.int (-((2^wdt c:Nat):Int))):=rfl
 have c9:dO .Sub (.int (-((2^wdt c:Nat):Int))) (aC c)=some (.int (-((2^wdt c+c:Nat):Int))):=by
  show some (PyData.int (-((2^wdt c:Nat):Int)-(c:Int)))=_
  rw[cg,Int.neg_add]; rfl
 have hXs:2^wdt c+c≤2^(wdt c+1):=by rw[cC]; exact Pw.EU hlt
 have hB1:2^wdt c-c<2^999:=az (eK _ _) (cp (by decide) (by exact Pw.Je hw))
 have hB2:2^wdt c+c<2^999:=az hXs (cp (by decide) (by exact Pw.Jd hw))
 have hXw:2^wdt c=2*2^(wdt c-1):=by
  rw[show wdt c=(wdt c-1)+1 from by clear hB1 hB2; exact Pw.Jc hw0,cC,Nat.add_sub_cancel]; clear hB1 hB2; exact Pw.Jb
 have hb0:0<2^wdt c-c:=by clear hB1 hB2; exact Pw.Ja hlt
 have hb00:0<2^wdt c+c:=by clear hB1 hB2; exact Pw.I9 hb0
 have b1:=kg (a:=2^wdt c-c) (k:=wdt c-1) (by clear hB1 hB2; exact Pw.I8 hlt hXw)
 have b2:=kg (a:=2^wdt c+c) (k:=wdt c) (by clear hB1 hB2; exact Pw.xv)
 have hN:∀k,wdt c≤k→N<2^(8*k):=by
  intro k hk
  have h5:(2^wdt c)^5=2^(5*wdt c):=by rw[←Nat.pow_mul,bx]
  have:=D.le
  rw[h5]at this
  exact az this (cp (by decide) (by clear hB1 hB2; exact Pw.I7 hw0 hk))
 have k1:=uf (N:=N) (b:=2^wdt c-c) hb0 hB1 (hN _ (by clear hB1 hB2; exact Pw.I6 b1))
 have k2:=uc (N:=N) (b:=2^wdt c+c) D.pos hb00 hB2 (hN _ (by clear hB1 hB2; exact Pw.uv b2))
 rw[D.owing]at k2
 refine dh ft9 fun ft' f9=>?_
 unfold oH
 refine aj (aH hmw) ?_
 refine aj (aH (fP (n7 rfl hno))) ?_
 refine aj (aH (bf hmm)) ?_
 refine aj (aH (bf (AB t ht))) ?_
 refine aj (aH (bf (cm (cm cO (qt (cm (aF rfl) cO c1) bU c2) c3) cO c4))) ?_
 refine aj (aH (bf (eT ft3L (by decide) (aS (aF rfl) (aS (aF rfl) bU)) c5))) ?_
 refine aj (aH (bf (cm (cm cO (aF rfl) c6) (aF rfl) c7))) ?_
 refine aj (aH (bf (cm (uu (cm cO (aF rfl) c6) c8) (aF rfl) c9))) ?_
 refine aj (aH (fP (eT ft5 (by decide) (aS (aF rfl) (aS (aF rfl) bU)) k1))) ?_
 refine aj (aH (fP (eT ft5 (by decide) (aS (aF rfl) (aS (aF rfl) bU)) k2))) ?_
 refine aj (aH (bf (eT f9 (by decide) (aS (aF rfl) bU) zg))) ?_
 rfl
end
theorem jb(i:Int):gj .NotEq (.int i) (.int i)=some false:=by
 show some (i !=i)=_
 rw[bne_self_eq_false]
theorem tF(i:Int):gj .Eq (.int i) (.int i)=some true:=by
 show some (i==i)=_
 rw[beq_self_eq_true]
theorem nums:∀t<4,0<7-(jk t).length∧dO .Sub (.int 5) (aC (7-(jk t).length-1))=some (aC ((jk t).length-1))∧dO .Mult (.int 2) (aC (rH t))=some (aC (2*rH t)):=by
 intro t ht
 match t,ht with
 | 0,_ | 1,_ | 2,_ | 3,_=>exact⟨by decide,rfl,by kernel_rfl⟩
theorem CT{ft:FT}{rs:List Nat}(sq:Sq rs):DT.run ft 40 [rsD rs]=some (aC (xQ rs)):=by
 obtain⟨hl,υ,υ⟩:=sq
 match rs,hl with
 | a::r,hl=>exact zm (by rw[ah]at hl; exact Pw.I5 hl)
theorem zE{a:Nat}:(-(a:Int)).natAbs=a:=by rw[Int.natAbs_neg,aT]
theorem jS{a k:Nat}(h:a≤2^k)(hk:k<990):a+100<2^1000:=by
 have h1:(2:Nat)^k≤2^990:=aY (by decide) (by exact Pw.uv hk)
 have h2:(2:Nat)^1000=2^990*1024:=by rw[show(1024:Nat)=2^10 from rfl,←d6]
 have h3:100<(2:Nat)^990:=aK (by decide:100<2^7) (aY (by decide) (by decide))
 rw[h2]
 generalize(2:Nat)^990=z at*
 exact Pw.I4 h3 h1 h
theorem mulN{q b:Nat}(hq:q<2^40000)(hb:b<2^40000):dO .Mult (aC q) (aC b)=some (.int ((q*b:Nat):Int)):=by
 refine(zG (by rw[aT]; exact hq) (by rw[aT]; exact hb)).trans ?_
 rw[b0]
theorem C6{q b:Nat}(hq:q+1<2^40000)(hb:b<2^40000):dO .Mult (.int (-(q:Int)-1)) (.int (-(b:Int)))=some (.int (((q+1)*b:Nat):Int)):=by
 have e:(-(q:Int)-1)= -((q+1:Nat):Int):=by clear hq hb; exact Pw.I3
 rw[e]
 refine(zG (by rw[zE]; exact hq) (by rw[zE]; exact hb)).trans ?_
 rw[Int.neg_mul_neg,b0]
theorem yl{a b c:Int}(h:a+b=c):dO .Add (.int a) (.int b)=some (.int c):=by
 subst h; rfl
section
variable {c t N:Nat}{w:Wst}{raw:D}{x0 x2 x3 x5 x6 x7 x8 x9 x10 x11 x12 x13 x14 x15 x16 x17 x18 x20 x23:Var}{rs:List Nat}
set_option maxHeartbeats 8000000 in
theorem GW(ht:t<4)(sq:Sq rs)(hc1:1≤c)(hc:c≤10^30)(D:DivOk t c (2^wdt c) N)(hk:kindS rs=t)(P:PatOk rs)(hp:gP rs=7-(jk t).length)(h1:xQ rs=rH t)(hnt:w.nt=2*rH t):
  ∃σ,dU ftL 130 [x0,.fro (rsD rs),x2,x3,.fro (aC c),x5,x6,x7,x8,x9,x10,x11,x12,x13,x14,x15,x16,x17,x18,.inst (wres raw w),x20,.fro (aC 0),.fro (aC ((jk t).length-1)),x23,.fro (aC (wdt c)),.fro (aC N),.fro (aC (2^wdt c-c)),.fro (.int (-((2^wdt c+c:Nat):Int))),.fro (aC (N / (2^wdt c-c))),.fro (aC (N%(2^wdt c-c))),.fro (.int (-(((N-1) / (2^wdt c+c):Nat):Int)-1)),.fro (.int (hor (figT t) (-(c:Int)))),.fro (.list ((jD rs).map gc))] oE=some (.ret (.bool true),σ):=by
 have hw:=xD hc
 have hlt:=D.lt
 refine dh ft10 fun ft' f10=>?_
 refine dh ft11 fun ft'' f11=>?_
 refine dh ft12 fun ft3 f12=>?_
 have hXs:2^wdt c+c≤2^(wdt c+1):=by rw[cC]; exact Pw.EU hlt
 have hcs:c≤2^(wdt c+1):=af (ar _ _) hXs
 have hcol:=P.col
 rw[hk]at hcol
 have q1:DW.run ft' 40 [.list ((jD rs).map gc),aC (2^wdt c)]=some (aC N):=by
  have:=oh (ft:=ft') (x:=((2^wdt c:Nat):Int)) (rows:=jD rs) (by rw[aT]; exact jS (bL _) (by exact Pw.I2 hw)) P.rows P.len
  rw[hcol,D.eq]at this
  exact this
 have q2:DW.run ft' 40 [.list ((jD rs).map gc),aC c]=some (aC (N%(2^wdt c-c))):=by
  have:=oh (ft:=ft') (x:=(c:Int)) (rows:=jD rs) (by rw[aT]; exact jS hcs (by exact Pw.ES hw)) P.rows P.len
  rw[hcol,←D.rest]at this
  exact this
 have q3:DW.run ft' 40 [.list ((jD rs).map gc),.int (-(c:Int))]=some (.int (hor (figT t) (-(c:Int)))):=by
  have:=oh (ft:=ft') (x:= -(c:Int)) (rows:=jD rs) (by rw[zE]; exact jS hcs (by exact Pw.ES hw)) P.rows P.len
  rw[hcol]at this
  exact this
 have c6:dO .Pow (.int 2) (aC (wdt c))=some (aC (2^wdt c)):=mq (k:=wdt c) (by exact Pw.EV hw)
 have hN:N≤2^(5*wdt c):=by
  have h5:(2^wdt c)^5=2^(5*wdt c):=by rw[←Nat.pow_mul,bx]
  have:=D.le
  rwa[h5]at this
 have hpos:=D.pos
 have m1:=mulN (q:=N / (2^wdt c-c)) (b:=2^wdt c-c) (ff (af (Nat.div_le_self _ _) hN) (by exact Pw.ER hw)) (ff (eK _ _) (by exact Pw.I1 hw))
 have m2:dO .Add (.int ((N / (2^wdt c-c)*(2^wdt c-c):Nat):Int)) (aC (N%(2^wdt c-c)))=some (aC N):=by
  refine yl ?_
  rw[←cg,bx,ek]
 have m3:=C6 (q:=(N-1) / (2^wdt c+c)) (b:=2^wdt c+c) (ff (af (by have:=Nat.div_le_self (N-1) (2^wdt c+c); exact Pw.I0 hpos this) hN) (by exact Pw.ER hw)) (ff hXs (by exact Pw.IZ hw))
 have m4:dO .Add (.int ((((N-1) / (2^wdt c+c)+1)*(2^wdt c+c):Nat):Int)) (.int (hor (figT t) (-(c:Int))))=some (aC N):=by
  refine yl ?_
  rw[←D.owing]
  have h1:=ek (N-1) (2^wdt c+c)
  rw[Nat.add_mul,Nat.one_mul,bx]
  generalize(2^wdt c+c)*((N-1) / (2^wdt c+c))=z at*
  generalize(N-1)%(2^wdt c+c)=y at*
  generalize 2^wdt c+c=b at*
  exact Pw.IY h1 hpos
 refine lq (nums t ht) fun n1 n2 n3=>?_
 have p1:mH.run ft'' 40 [rsD rs]=some (aC (gP rs-1)):=rC sq.lt (by rw[sq.len]; decide) (by rw[hp]; exact n1)
 have p2:DT.run ft3 40 [rsD rs]=some (aC (rH t)):=by
  rw[←h1]
  exact CT sq
 have p3:dO .Sub (.int 5) (aC (gP rs-1))=some (aC ((jk t).length-1)):=by
  rw[hp]; exact n2
 have p4:dO .Mult (.int 2) (aC (rH t))=some (aC w.nt):=by
  rw[hnt]; exact n3
 have t1:fN ftL 128 [x0,.fro (rsD rs),x2,x3,.fro (aC c),x5,x6,x7,x8,x9,x10,x11,x12,x13,x14,x15,x16,x17,x18,.inst (wres raw w),x20,.fro (aC 0),.fro (aC ((jk t).length-1)),x23,.fro (aC (wdt c)),.fro (aC N),.fro (aC (2^wdt c-c)),.fro (.int (-((2^wdt c+c:Nat):Int))),.fro (aC (N / (2^wdt c-c))),.fro (aC (N%(2^wdt c-c))),.fro (.int (-(((N-1) / (2^wdt c+c):Nat):Int)-1)),.fro (.int (hor (figT t) (-(c:Int)))),.fro (.list ((jD rs).map gc))] Ec=some false:=by
  refine fF (x:= .bool false) (AN (ei (aF rfl) cO (jb 0)) ?_) rfl
  exact ei (aF rfl) (eT f10 (by decide) (aS (aF rfl) (aS (cm cO (aF rfl) c6) bU)) q1) (jb _)
 have t2:fN ftL 127 [x0,.fro (rsD rs),x2,x3,.fro (aC c),x5,x6,x7,x8,x9,x10,x11,x12,x13,x14,x15,x16,x17,x18,.inst (wres raw w),x20,.fro (aC 0),.fro (aC ((jk t).length-1)),x23,.fro (aC (wdt c)),.fro (aC N),.fro (aC (2^wdt c-c)),.fro (.int (-((2^wdt c+c:Nat):Int))),.fro (aC (N / (2^wdt c-c))),.fro (aC (N%(2^wdt c-c))),.fro (.int (-(((N-1) / (2^wdt c+c):Nat):Int)-1)),.fro (.int (hor (figT t) (-(c:Int)))),.fro (.list ((jD rs).map gc))] Eb=some false:=by
  refine fF (x:= .bool false) (AN ?_ ?_) rfl
  ·exact ei (aF rfl) (eT f10 (by decide) (aS (aF rfl) (aS (aF rfl) bU)) q2) (jb _)
  ·exact ei (cm (cm (aF rfl) (aF rfl) m1) (aF rfl) m2) (aF rfl) (jb _)
 have t3:fN ftL 126 [x0,.fro (rsD rs),x2,x3,.fro (aC c),x5,x6,x7,x8,x9,x10,x11,x12,x13,x14,x15,x16,x17,x18,.inst (wres raw w),x20,.fro (aC 0),.fro (aC ((jk t).length-1)),x23,.fro (aC (wdt c)),.fro (aC N),.fro (aC (2^wdt c-c)),.fro (.int (-((2^wdt c+c:Nat):Int))),.fro (aC (N / (2^wdt c-c))),.fro (aC (N%(2^wdt c-c))),.fro (.int (-(((N-1) / (2^wdt c+c):Nat):Int)-1)),.fro (.int (hor (figT t) (-(c:Int)))),.fro (.list ((jD rs).map gc))] Ea=some false:=by
  refine fF (x:= .bool false) (AN ?_ ?_) rfl
  ·exact ei (aF rfl) (eT f10 (by decide) (aS (aF rfl) (aS (uu (aF rfl) rfl) bU)) q3) (jb _)
  ·exact ei (cm (cm (aF rfl) (aF rfl) m3) (aF rfl) m4) (aF rfl) (jb _)
 have t4:evE ftL 125 [x0,.fro (rsD rs),x2,x3,.fro (aC c),x5,x6,x7,x8,x9,x10,x11,x12,x13,x14,x15,x16,x17,x18,.inst (wres raw w),x20,.fro (aC 0),.fro (aC ((jk t).length-1)),x23,.fro (aC (wdt c)),.fro (aC N),.fro (aC (2^wdt c-c)),.fro (.int (-((2^wdt c+c:Nat):Int))),.fro (aC (N / (2^wdt c-c))),.fro (aC (N%(2^wdt c-c))),.fro (.int (-(((N-1) / (2^wdt c+c):Nat):Int)-1)),.fro (.int (hor (figT t) (-(c:Int)))),.fro (.list ((jD rs).map gc))] retE=some (.bool true):=by
  refine yd ?_ ?_
  ·exact ei (aF rfl) (cm cO (eT f11 (by decide) (aS (aF rfl) bU) p1) p3) (tF _)
  ·exact ei (n7 rfl (zu raw w)) (cm cO (eT f12 (by decide) (aS (aF rfl) bU) p2) p4) (tF _)
 refine⟨[x0,.fro (rsD rs),x2,x3,.fro (aC c),x5,x6,x7,x8,x9,x10,x11,x12,x13,x14,x15,x16,x17,x18,.inst (wres raw w),x20,.fro (aC 0),.fro (aC ((jk t).length-1)),x23,.fro (aC (wdt c)),.fro (aC N),.fro (aC (2^wdt c-c)),.fro (.int (-((2^wdt c+c:Nat):Int))),.fro (aC (N / (2^wdt c-c))),.fro (aC (N%(2^wdt c-c))),.fro (.int (-(((N-1) / (2^wdt c+c):Nat):Int)-1)),.fro (.int (hor (figT t) (-(c:Int)))),.fro (.list ((jD rs).map gc))],?_⟩
 unfold oE
 refine aj (aH (aj (fV t1) cU)) ?_
 refine aj (aH (aj (fV t2) cU)) ?_
 refine aj (aH (aj (fV t3) cU)) ?_
 exact dt (gQ t4) (by exact Fl.noConfusion)
end
theorem vM{script:List Int}{v0 v5 v6 v7:Var}:∃σB,dU ftL 150 [v0,.fro (rsD (rsOf script)),.fro (.int (shOf script:Nat)),.fro (.int (baOf script:Nat)),.fro (.int (cOf script:Nat)),v5,v6,v7,.u0,.fro (.list ((rsOf script).map (fM (shOf script)))),.u0,.u0,.u0,.u0,.u0,.u0,.u0,.u0,.u0,.u0,.u0,.u0,.u0,.u0,.u0,.u0,.u0,.u0,.u0,.u0,.u0,.u0,.u0] fLawB.body=some (.ret (.bool true),σB):=by
 have sq:=lC script
 have hc1:=Bk script
 have hc:=Er script
 have hb:=Bz script
 generalize rsOf script=rs at*
 generalize shOf script=sh at*
 generalize baOf script=b at*
 generalize cOf script=c at*
 refine bq (yX sq) fun F hF hFs=>?_
 have ht:kindS rs<4:=lK _
 have P:=vh sq
 have hp:=rE sq
 have ho:xQ rs=rH (kindS rs):=by
  obtain⟨hl,hn,hlt⟩:=sq
  match rs,hl with
  | a::r,hl=>exact zp ⟨hl,hn,hlt⟩
 have hk:kindS rs=kindS rs:=rfl
 revert hF ht hp ho hk
 generalize hkk:kindS rs=t
 intro hF ht hp ho υ
 have G:=wB ht hF
 refine dh (HR ht hc1 (yu c)) fun N D=>?_
 refine x7_1 (GY (b:=b) (sh:=sh) (rs:=rs) (F:=F) (x0:=v0) (x4:= .fro (aC c)) (x5:=v5) (x6:=v6) (x7:=v7) (x8:= .u0) (x10:= .u0) (x11:= .u0) (x12:= .u0) (x13:= .u0) (x14:= .u0) (x15:= .u0) (x16:= .u0) (x17:= .u0) (x18:= .u0) (x19:= .u0) (x20:= .u0) (x21:= .u0) (x22:= .u0) (x23:= .u0) (x24:= .u0) (x25:= .u0) (x26:= .u0) (x27:= .u0) (x28:= .u0) (x29:= .u0) (x30:= .u0) (x31:= .u0) (x32:= .u0) sq hb hFs G.r G.l) fun w10 w11 w13 w14 w15 w16 w18 e1=>?_
 have e2:=GX (c:=c) (t:=t) (N:=N) (rs:=rs) (lead:=j0 F) (x0:=v0) (x2:= .fro (.int (sh:Nat))) (x3:= .fro (aC b)) (x5:=v5) (x6:=v6) (x7:=v7) (x8:= .u0) (x9:= .fro (.list (rs.map (fM sh)))) (x10:=w10) (x11:=w11) (x12:= .fro (.list (F.map aC))) (x13:=w13) (x14:=w14) (x15:=w15) (x16:=w16) (x18:=w18) (x19:= .u0) (x20:= .u0) (x21:= .u0) (x22:= .u0) (x23:= .u0) (x24:= .u0) (x25:= .u0) (x26:= .u0) (x27:= .u0) (x28:= .u0) (x29:= .u0) (x30:= .u0) (x31:= .u0) (x32:= .u0) ht hc1 hc D G.c G.ll G.cnt G.b
 refine dh (GW (c:=c) (t:=t) (N:=N) (w:=wgo (j0 F) ⟨[],0,0,0⟩) (raw:= .str (mkS (j0 F++[120]))) (rs:=rs) (x0:=v0) (x2:= .fro (.int (sh:Nat))) (x3:= .fro (aC b)) (x5:=v5) (x6:=v6) (x7:=v7) (x8:= .u0) (x9:= .fro (.list (rs.map (fM sh)))) (x10:=w10) (x11:=w11) (x12:= .fro (.list (F.map aC))) (x13:=w13) (x14:=w14) (x15:=w15) (x16:=w16) (x17:= .fro (.str (mkS (j0 F)))) (x18:=w18) (x20:= .fro (.tuple ((jk t).map aC))) (x23:= .fro (.list ((figT t).map PyData.int))) ht sq hc1 hc D hkk P hp ho G.nt) fun σB e3=>?_
 exact⟨σB,e1.trans (e2.trans e3)⟩
theorem rk:∀script:List Int,¬((63:Int)<script.length)→BV script:=by
 intro script h
 refine mW (vO (script:=script) (by exact Pw.IX h)) fun v6 v7 hA=>?_
 refine dh (vM (script:=script) (v0:= .fro (.list (script.map .int))) (v5:= .fro (.list ((um (shOf script) 0 (rsOf script)).map aC))) (v6:=v6) (v7:=v7)) fun σB hB=>?_
 have sq:=lC script
 have e:=gz (um (shOf script) 0 (rsOf script))
 refine i5_9 _ (σB) ((um (shOf script) 0 (rsOf script)).map fun(n:Nat)=>(n:Int)) ((rsOf script).map road) ((rsOf script).map (fM (shOf script))) hA ?_ rfl rfl rfl (vl (yP script) _ 0 sq.lt) ?_ ?_ ?_
 ·rw[←e]; rfl
 ·rw[ag,ag]
 ·rw[ag,sq.len]; decide
 ·rw[←e]
  exact hB
end Pl
end
section
open PySem PySem.W PyProof.Rows PySem.Calls
set_option maxRecDepth 100000
set_option maxHeartbeats 8000000
namespace Pw
theorem Hk(p:Params):nsIn (hd.heap_1 p) aX (aa "law")=some (some (.ref 190)):=by kernel_rfl
theorem k_nt(p:Params):noTabs (hd.heap_1 p)=true:=by kernel_rfl
theorem uA{p:Params}{h:Heap}{xs:List Int}:∀{vs:List Value},WellAll p h vs (ofPys (xs.map PyData.int))→RepAll h vs (xs.map PyData.int):=by
 induction xs with
 | nil=>intro vs w; cases w; exact .nil
 | cons x r ih=>
  intro vs w
  cases w with
  | cons a b=>
   cases a with
   | int i t=>exact .cons (.int _ _) (ih b)
section
variable {prog:Program}{w:World}{s₁:Shared}{mg mb:Str→Option Value}{p:Program}{loose:List Str}{mean:ExcName→Option Value}
theorem vJ(KX:(hd.heap_1 w.params).In s₁.heap)(T:Top p loose mean mg mb s₁.heap)(hT9:TabsAt [(55,51),(48,44)] s₁.heap)(hg:s₁.gens= #[]){a:Addr}{script:List Int}(wl:Well w.params s₁.heap (.ref a) (ofPy (.list (script.map PyData.int))))(L:BV script)
  {cw:ClaimW} {cl:Str→Option Addr} {args:List WData} (hn:∀cls,cw.raises args cls=false) (hp:cw.post args (.bool true) args=true):
  codeAny (model prog w) callerA (.call (.ref 190) ⟨[.ref a],[]⟩) (fun r s'=>GoodW cw cl mean args {s₁ with heap:=ghostOf s₁.heap [(55,51),(48,44)]} r s'∧GrownAll [(55,51),(48,44)] s'.heap) s₁:=by
 have X':=ghost_K hT9 KX (k_nt _)
 have T':=ghost_top hT9 T
 obtain⟨c1,c2,_⟩:=ghost_code hT9
 generalize hG:ghostOf s₁.heap [(55,51),(48,44)]=G at X' T' c1 c2
 have hle:Le G s₁.heap:=fun b o e=>by rw[←hG]at e; exact of_hideAll _ e
 have hnT:∀t∈([51,44]:List Addr),G.get? t=none:=fun t ht=>by rw[←hG]; exact hideAll_none _ ht
 have W:=tops (prog:=prog) (w:=w) (os:=s₁.os) (h0:=G) (mg:=mg) (mb:=mb) (hg:=T'.g) (hb:=T'.b) (hbi:=T'.builtins) (hlim:=T'.nolimit) X' c1 c2 T'.bmain
 have ok:Ok (mkP prog w s₁.os G mg mb T'.g T'.b T'.builtins T'.nolimit) G {s₁ with toks:=1}:=
  ⟨hle,.refl _,hnT,⟨.inl (hT9 (55,51) (.head _)).2,.inl (hT9 (48,44) (.tail _ (.head _))).2⟩,hg,rfl,Nat.one_pos⟩
 have r:Rep G (.ref a) (.list (script.map PyData.int)):=by
  have wl':Well w.params s₁.heap (.ref a) (.list (ofPys (script.map PyData.int))):=wl
  cases wl' with
  | list e wa=>
   rename_i vs
   have e':G.get? a=some {cls:= .type "list",data:= .seq vs.toArray}:=by rw[←hG]; exact ghost_get hT9 e (fun q=>by cases q)
   exact Rep.list (vs:=vs.toArray) ⟨_,e'⟩ (by
    have:=uA wa
    have hints:∀{xs:List Int} {us:List Value},RepAll s₁.heap us (xs.map PyData.int)→RepAll G us (xs.map PyData.int):=fun{xs}=>by
     induction xs with
     | nil=>intro us h; have:=h.nil_inv; subst this; exact .nil
     | cons x xs ih=>
      intro us h
      obtain⟨v,ws,rfl,a,b⟩:=h.cons_inv'
      obtain⟨t,rfl⟩:=a.int_inv
      exact .cons (.int _ _) (ih b)
    simpa using hints this)
 refine vK (P:=mkP prog w s₁.os G mg mb T'.g T'.b T'.builtins T'.nolimit) W X' rfl ⟨rfl,by decide,by decide⟩ ok r L fun s' Z' g=>?_
 refine⟨⟨.inl ⟨.bool true,.bool true,[],rfl,hn,.bool true,hp,fun _=>⟨.nil,fun _ h=>nomatch h⟩⟩,fun b o e=>g.ok.z _ _ (g.le _ _ e),g.ok.os,g.ok.gens⟩,?_⟩
 obtain⟨t1,t2⟩:=g.ok.tab
 have gr:∀{T:Addr} {pos:Pos} {q:Str},jz Z' s'.heap T pos q→GrownAt T s'.heap:=fun x=>by
  rcases x with x | ⟨c,x,_⟩<;>exact⟨_,x⟩
 exact⟨gr t1,gr t2,trivial⟩
end
end Pw
theorem PySem.Challenge.cw_ty0059_01_holds : PySem.Challenge.rw_ty0059_01.Holds :=
 Pw.hd (by
 w_strict (
  k_fill
  intro w s₀ s₁ mg mb G Y fa o pm cd doc dV kV ho hd hcd hD hmg hg args vals as hpre hlay hrd hwl hlo
  have KX:=km_in_of Y
  km_tabs Y
  have X:=(Ground.X G).1
  have V:=(Ground.X G).2
  refine Ground.open G ?_
  intro T B D TE TW
  try(refine guard_noD D (by decide+kernel) ?_; clear D)
  km_lay T hmg ho hd cd
  have hfa:=hmg.symm.trans (mg_of KX T.g (Pw.Hk _))
  wrow_args hpre hlay hrd hwl hlo)
 all_goals(
  first | refine callC_kw (enter_call ?_) | refine enter_call ?_
  w_top on
  kn_posts
  cases hfa
  refine Pw.vJ KX T hT9 hg (by assumption) (Pl.rk _ (by assumption)) (fun υ=>rfl) (by wrow_post)))
end
