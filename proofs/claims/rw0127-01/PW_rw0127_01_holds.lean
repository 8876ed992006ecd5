import PyProof.Rows.All
import Wide.All
import OpenK.AllK
import Wide.FinOn
import Lean
import PySem.Challenge.RW_rw0127_01
set_option Elab.async false
set_option linter.all false
set_option genSizeOf false
set_option genInjectivity false
set_option compiler.extract_closed false
set_option maxRecDepth 100000
set_option maxHeartbeats 4000000
noncomputable section
namespace Mine
open PySem.Challenge
section
theorem via {G:Prop} (k:∀ g:Prop,(G -> g) -> g):G:=k G id
theorem up0 {n k m:Nat} (h:n+k < m):n < m:=Nat.lt_of_le_of_lt (Nat.le_add_right n k) h
theorem up1 {n a k m:Nat} (h:n+k < m) (e:Nat.ble a k=true):n+a < m:=Nat.lt_of_le_of_lt (Nat.add_le_add_left (Nat.le_of_ble_eq_true e) n) h
theorem up2 {n a b k m:Nat} (h:n+k < m) (e:Nat.ble (a+b) k=true):n+a+b < m:=by rw [Nat.add_assoc];exact up1 h e
theorem up3 {n a b c k m:Nat} (h:n+k < m) (e:Nat.ble (a+b+c) k=true):n+a+b+c < m:=by rw [Nat.add_assoc n];exact up2 h e
theorem up4 {n a b c d k m:Nat} (h:n+k < m) (e:Nat.ble (a+b+c+d) k=true):n+a+b+c+d < m:=by rw [Nat.add_assoc n];exact up3 h e
theorem up5 {n a b c d f k m:Nat} (h:n+k < m) (e:Nat.ble (a+b+c+d+f) k=true):n+a+b+c+d+f < m:=by rw [Nat.add_assoc n];exact up4 h e
theorem lel {n a b:Nat} (h:n <= a) (e:Nat.ble a b=true):n <= b:=Nat.le_trans h (Nat.le_of_ble_eq_true e)
theorem lel1 {n a b c:Nat} (h:n <= a) (e:Nat.ble (a+c) b=true):n+c <= b:=Nat.le_trans (Nat.add_le_add_right h c) (Nat.le_of_ble_eq_true e)
theorem nel {a b c:Nat} (h:c < b) (e:Nat.ble a c=true):a≠b:=Nat.ne_of_lt (Nat.lt_of_le_of_lt (Nat.le_of_ble_eq_true e) h)
theorem nel2 {a b c y:Nat} (g:y < b) (h:c < y) (e:Nat.ble a c=true):a≠b:=nel (Nat.lt_trans h g) e
theorem nel3 {a b c y z:Nat} (f:z < b) (g:y < z) (h:c < y) (e:Nat.ble a c=true):a≠b:=nel2 f (Nat.lt_trans h g) e
theorem nea {a b:Nat} (h:a < b):a≠b:=Nat.ne_of_lt h
theorem neb {a b y:Nat} (g:y < b) (h:a < y):a≠b:=Nat.ne_of_lt (Nat.lt_trans h g)
theorem nec {a b y z:Nat} (f:z < b) (g:y < z) (h:a < y):a≠b:=Nat.ne_of_lt (Nat.lt_trans (Nat.lt_trans h g) f)
theorem tn1 {t:Nat}:((t:Int) - 1).toNat=t - 1:=Int.toNat_sub t 1
theorem tnm {k:Nat}:(-1+(k:Int)).toNat=k - 1:=by rw [Int.add_comm];exact Int.toNat_sub k 1
theorem tnlt {x:Int} {k:Nat} (h:0 <= x) (l:x < (k:Int)):x.toNat < k:=(Int.toNat_lt h).mpr l
theorem fitI {x:Int} (h:0 <= x) (k:x < 2 ^ 62):-2 ^ 63 <= x /\ x < 2 ^ 63:=⟨Int.le_trans (by decide) h,Int.lt_trans k (by decide)⟩
theorem fitN {n:Nat} (h:n <= 1000000):-2 ^ 63 <= (n:Int) /\ (n:Int) < 2 ^ 63:=fitI (Int.natCast_nonneg n) (Int.lt_of_le_of_lt (Int.ofNat_le.mpr h) (by decide))
theorem pred1 {n:Nat} (h:1 <= n):(n:Int) - 1=((n - 1:Nat):Int):=(Int.ofNat_sub h).symm
theorem lgB {c b M:Nat} (h:c <= M) (k:b <= M):0 <= max ((c:Int) - 1) (b:Int) /\ max ((c:Int) - 1) (b:Int) <= (M:Int) :=
 ⟨Int.le_trans (Int.natCast_nonneg b) (Int.le_max_right _ _),Int.max_le.mpr ⟨Int.le_trans (Int.sub_le_self _ (by decide)) (Int.ofNat_le.mpr h),Int.ofNat_le.mpr k⟩⟩
theorem dn_size {a:Int} (h:0 <= a):PySem.Builtin.Range.rangeSize a 0 (-1)=a:=by
 unfold PySem.Builtin.Range.rangeSize
 rw [if_neg (by decide)]
 split
 ·show (a - 0 - 1) / 1+1=a
  rw [Int.ediv_one,Int.sub_zero,Int.sub_add_cancel]
 ·exact Int.le_antisymm h (Int.not_lt.mp ‹_›)
theorem dn_small {a:Int} (h:0 <= a) (k:a < 2 ^ 62):PySem.Builtin.Range.small a 0 (-1)=true:=by
 unfold PySem.Builtin.Range.small
 rw [dn_size h]
 simp only [PySem.Builtin.Range.rangeFitsLong,Bool.and_eq_true,Bool.or_eq_true,decide_eq_true_eq,beq_iff_eq,if_neg (show ¬ (-1:Int) > 0 by decide)]
 exact ⟨⟨⟨⟨fitI h k,by decide⟩,by decide⟩,fitI h k⟩,.inr (by decide)⟩
theorem chn {x q a:Nat} {B:Prop} (_:a≠q /\ B) (k:x≠q):x≠q:=k
theorem chk {x q a:Nat} {B:Prop} (_:a < q /\ B) (k:x < q):x < q:=k
theorem chl {x q y:Nat} (_:y < q) (k:x≠q):x≠q:=k
theorem nlit {a b:Nat} (e:Nat.beq a b=false):a≠b:=Nat.ne_of_beq_eq_false e
theorem a1 {a b:Prop} (h:a /\ b):b:=h.2
theorem a2 {a b c:Prop} (h:a /\ b /\ c):c:=h.2.2
theorem a3 {a b c d:Prop} (h:a /\ b /\ c /\ d):d:=h.2.2.2
theorem a4 {a b c d e:Prop} (h:a /\ b /\ c /\ d /\ e):e:=h.2.2.2.2
theorem a5 {a b c d e f:Prop} (h:a /\ b /\ c /\ d /\ e /\ f):f:=h.2.2.2.2.2
theorem a6 {a b c d e f g:Prop} (h:a /\ b /\ c /\ d /\ e /\ f /\ g):g:=h.2.2.2.2.2.2
theorem a7 {a b c d e f g i:Prop} (h:a /\ b /\ c /\ d /\ e /\ f /\ g /\ i):i:=h.2.2.2.2.2.2.2
theorem a8 {a b c d e f g i j:Prop} (h:a /\ b /\ c /\ d /\ e /\ f /\ g /\ i /\ j):j:=h.2.2.2.2.2.2.2.2
section
variable {α:Type}
theorem nx1 {x0 x1:α} {l:List α}:x1∈x0::x1::l:=.tail _ (.head _)
theorem nx2 {x0 x1 x2:α} {l:List α}:x2∈x0::x1::x2::l:=.tail _ (.tail _ (.head _))
theorem nx3 {x0 x1 x2 x3:α} {l:List α}:x3∈x0::x1::x2::x3::l:=.tail _ (.tail _ (.tail _ (.head _)))
theorem nx4 {x0 x1 x2 x3 x4:α} {l:List α}:x4∈x0::x1::x2::x3::x4::l:=.tail _ (.tail _ (.tail _ (.tail _ (.head _))))
theorem nx5 {x0 x1 x2 x3 x4 x5:α} {l:List α}:x5∈x0::x1::x2::x3::x4::x5::l:=.tail _ (.tail _ (.tail _ (.tail _ (.tail _ (.head _)))))
theorem nx6 {x0 x1 x2 x3 x4 x5 x6:α} {l:List α}:x6∈x0::x1::x2::x3::x4::x5::x6::l:=.tail _ (.tail _ (.tail _ (.tail _ (.tail _ (.tail _ (.head _))))))
theorem nx7 {x0 x1 x2 x3 x4 x5 x6 x7:α} {l:List α}:x7∈x0::x1::x2::x3::x4::x5::x6::x7::l:=.tail _ (.tail _ (.tail _ (.tail _ (.tail _ (.tail _ (.tail _ (.head _)))))))
theorem nx8 {x0 x1 x2 x3 x4 x5 x6 x7 x8:α} {l:List α}:x8∈x0::x1::x2::x3::x4::x5::x6::x7::x8::l:=.tail _ (.tail _ (.tail _ (.tail _ (.tail _ (.tail _ (.tail _ (.tail _ (.head _))))))))
theorem nx9 {x0 x1 x2 x3 x4 x5 x6 x7 x8 x9:α} {l:List α}:x9∈x0::x1::x2::x3::x4::x5::x6::x7::x8::x9::l:=.tail _ (.tail _ (.tail _ (.tail _ (.tail _ (.tail _ (.tail _ (.tail _ (.tail _ (.head _)))))))))
theorem nx10 {x0 x1 x2 x3 x4 x5 x6 x7 x8 x9 x10:α} {l:List α}:x10∈x0::x1::x2::x3::x4::x5::x6::x7::x8::x9::x10::l:=.tail _ (.tail _ (.tail _ (.tail _ (.tail _ (.tail _ (.tail _ (.tail _ (.tail _ (.tail _ (.head _))))))))))
theorem nx11 {x0 x1 x2 x3 x4 x5 x6 x7 x8 x9 x10 x11:α} {l:List α}:x11∈x0::x1::x2::x3::x4::x5::x6::x7::x8::x9::x10::x11::l:=.tail _ (.tail _ (.tail _ (.tail _ (.tail _ (.tail _ (.tail _ (.tail _ (.tail _ (.tail _ (.tail _ (.head _)))))))))))
theorem nx12 {x0 x1 x2 x3 x4 x5 x6 x7 x8 x9 x10 x11 x12:α} {l:List α}:x12∈x0::x1::x2::x3::x4::x5::x6::x7::x8::x9::x10::x11::x12::l:=.tail _ (.tail _ (.tail _ (.tail _ (.tail _ (.tail _ (.tail _ (.tail _ (.tail _ (.tail _ (.tail _ (.tail _ (.head _))))))))))))
end
section
variable {α:Type} {za:α} {zA zB zC:List α} {zP:α -> Prop}
theorem mem_h:za∈za::zA:=.head _
theorem mem_t {zb:α} (h:za∈zA):za∈zb::zA:=.tail _ h
theorem mem_l (h:za∈zA):za∈zA ++ zB:=List.mem_append_left zB h
theorem mem_r (h:za∈zB):za∈zA ++ zB:=List.mem_append_right zA h
theorem fn:∀ q∈([]:List α),zP q:=fun _ h=>absurd h List.not_mem_nil
theorem fc (h:zP za) (t:∀ q∈zA,zP q):∀ q∈za::zA,zP q:=fun q hq=>(List.mem_cons.mp hq).elim (fun e=>e▸h) (t q)
theorem fa (h:∀ q∈zA,zP q) (t:∀ q∈zB,zP q):∀ q∈zA ++ zB,zP q:=fun q hq=>(List.mem_append.mp hq).elim (h q) (t q)
theorem sub_i:∀ p,p∈zA -> p∈zA:=fun _ h=>h
theorem sub_n:∀ p,p∈([]:List α) -> p∈zB:=fun _ h=>absurd h List.not_mem_nil
theorem sub_c (h:za∈zB) (t:∀ p,p∈zA -> p∈zB):∀ p,p∈za::zA -> p∈zB:=fc h t
theorem sub_a (h:∀ p,p∈zA -> p∈zC) (t:∀ p,p∈zB -> p∈zC):∀ p,p∈zA ++ zB -> p∈zC:=fa h t
theorem sub_t (h:∀ p,p∈zA -> p∈zB):∀ p,p∈zA -> p∈za::zB:=fun p q=>.tail _ (h p q)
theorem sub_l (h:∀ p,p∈zA -> p∈zB):∀ p,p∈zA -> p∈zB ++ zC:=fun p q=>mem_l (h p q)
theorem sub_r (h:∀ p,p∈zA -> p∈zB):∀ p,p∈zA -> p∈zC ++ zB:=fun p q=>mem_r (h p q)
end
end
section
open PySem PySem.W PyProof.Rows PySem.Spec PySem.Calls
noncomputable def pick {α:Type} (h:Nonempty α) (P:α -> Prop):α:=@Classical.epsilon α h fun a=>¬ P a
theorem pick_all {α:Type} {h:Nonempty α} {P:α -> Prop} (H:P (pick h P)) (a:α):P a:=Classical.byContradiction fun hn=>Classical.epsilon_spec (p:=fun a=>¬ P a) ⟨a,hn⟩ H
theorem pick_of {α:Type} {c:α} {h:Nonempty α} {P:α -> Prop} (e:c=pick h P) (H:P c) (a:α):P a:=pick_all (h:=h) (e▸H) a
theorem neW:Nonempty World:=⟨⟨fun _ _=>0,{ strHash:=fun _=>0,shareClass:=fun _=>0,mergeTok:=id,idOf:=fun _=>0,idOfShared:=fun _ _=>0,followText:=fun _=>true,idOfImm:=fun _=>0 }⟩⟩
theorem ne2 {α β:Type} (h:Nonempty α) (k:Nonempty β):Nonempty (α×β):=h.elim fun a=>k.elim fun b=>⟨(a,b)⟩
theorem neA:Nonempty Around:=⟨{}⟩
theorem neS:Nonempty Shared:=⟨{}⟩
structure Halt (p:Prop):Prop where
 go:p
theorem unhalt {p:Prop} (h:p):Halt p:=⟨h⟩
structure Rd (M:Model) (A:Around) (E:Value -> Shared -> Prop) (s:Shared) (env:Env) (e:Expr) (v:Value):Prop where
 go:∀ Q:Value -> Shared -> Prop,Q v s -> wpAny M A (eval e env) Q E s
noncomputable def ckL (env:Env) (k:NameKind) (x:Str):Bool:=env.scope.kind == .function && env.scope.names.lookup x == some k && (x == ("__debug__":Str)) == false
section
variable {M:Model} {A:Around} {E:Value -> Shared -> Prop} {s:Shared} {env:Env} {h₀:Heap} {m mg mb:Str -> Option Value} {K:Frag} {p:Program} {loose:List Str} {mean:ExcName -> Option Value} {x y z:Str} {a b c v:Value} {pos p1 p2 p3:Pos} {e l r:Expr} {rest:List Expr} {op:Operator} {cop:CmpOp} {whole:Sem Value}
 {h:Heap} {g:Array GenState} {d:Drawn} {tk:Tok} {o:OsState} {Q:Value -> Shared -> Prop} {R:Bool -> Shared -> Prop} {S:List Value -> Shared -> Prop} {i:Int} {k:Nat} {t:Str}
theorem ckL_of {env:Env} {k:NameKind} {x:Str} (h:ckL env k x=true):env.scope.kind=.function /\ env.kindOf x=some k /\ (x == ("__debug__":Str))=false:=by
 simp only [ckL,Bool.and_eq_true,beq_iff_eq] at h
 exact ⟨h.1.1,h.1.2,by simpa using h.2⟩
theorem rdL (F:Fr h₀ env.locals s.heap m) (hv:m x=some v) (hc:ckL env .local x=true):Rd M A E s env (.Name x pos) v :=
 ⟨fun Q h=>wpAny_Name (wpAny_loadName_local (ckL_of hc).1 (ckL_of hc).2.1 F.ns hv h) (ckL_of hc).2.2⟩
theorem rd0:Rd M A E s env (.Constant .none k pos) .none:=⟨fun _ h=>wpAny_Constant_none h⟩
theorem rd1 {b:Bool}:Rd M A E s env (.Constant (.bool b) k pos) (.bool b):=⟨fun _ h=>wpAny_Constant_bool h⟩
theorem binR (ha:Rd M A E s env l a) (H:wpAny M A (eval r env) (fun b s₂=>wpAny M A (binaryOp op a b) Q E s₂) E s):wpAny M A (eval (.BinOp l op r pos) env) Q E s:=wpAny_BinOp (ha.go _ H)
theorem binRR (ha:Rd M A E s env l a) (hb:Rd M A E s env r b) (H:wpAny M A (binaryOp op a b) Q E s):wpAny M A (eval (.BinOp l op r pos) env) Q E s:=binR ha (hb.go _ H)
theorem binRC (ha:Rd M A E ⟨h,g,d,tk,o⟩ env l a) (H:∀ t tk',wpAny M A (binaryOp op a (.int i t)) Q E ⟨h,g,d,tk',o⟩):wpAny M A (eval (.BinOp l op (.Constant (.int i) k p1) pos) env) Q E ⟨h,g,d,tk,o⟩:=binR ha (wpAny_Constant_int (H _ _))
theorem cmpR (ha:Rd M A E s env l a) (H:wpAny M A (eval r env) (fun b s₂=>wpAny M A (compareOp cop a b) (fun c s₃=>wpAny M A (truthy c) R E s₃) E s₂) E s) (hm:behindInMarks cop r=false):wpAny M A (isTrue (.Compare l [cop] [r] pos) env whole) R E s:=wpAny_isTrue_Compare1 (ha.go _ H) hm
theorem cmpRR (ha:Rd M A E s env l a) (hb:Rd M A E s env r b) (H:wpAny M A (compareOp cop a b) (fun c s₃=>wpAny M A (truthy c) R E s₃) E s) (hm:behindInMarks cop r=false):wpAny M A (isTrue (.Compare l [cop] [r] pos) env whole) R E s:=cmpR ha (hb.go _ H) hm
theorem cmpRC (ha:Rd M A E ⟨h,g,d,tk,o⟩ env l a) (H:∀ t tk',wpAny M A (compareOp cop a (.int i t)) (fun c s₃=>wpAny M A (truthy c) R E s₃) E ⟨h,g,d,tk',o⟩) (hm:behindInMarks cop (.Constant (.int i) k p1)=false) :
  wpAny M A (isTrue (.Compare l [cop] [.Constant (.int i) k p1] pos) env whole) R E ⟨h,g,d,tk,o⟩:=cmpR ha (wpAny_Constant_int (H _ _)) hm
theorem cmpRS (ha:Rd M A E ⟨h,g,d,tk,o⟩ env l a) (H:∀ tk' tk'',wpAny M A (compareOp cop a (.str t tk')) (fun c s₃=>wpAny M A (truthy c) R E s₃) E ⟨h,g,d,tk'',o⟩) (hm:behindInMarks cop (.Constant (.str t) k p1)=false) :
  wpAny M A (isTrue (.Compare l [cop] [.Constant (.str t) k p1] pos) env whole) R E ⟨h,g,d,tk,o⟩:=cmpR ha (wpAny_Constant_str (H _ _)) hm
theorem argsR (ha:Rd M A E s env (.Name x p1) a) (H:wpAny M A (spliced (backTo pos (starEach rest env))) (fun vs s₂=>S (a::vs) s₂) E s):wpAny M A (spliced (backTo pos (starEach (.Name x p1::rest) env))) S E s:=args_cons (ha.go _ H)
theorem args1 (ha:Rd M A E s env (.Name x p1) a) (H:S [a] s):wpAny M A (spliced (backTo pos (starEach [.Name x p1] env))) S E s:=argsR ha (args_nil H)
theorem args2 (ha:Rd M A E s env (.Name x p1) a) (hb:Rd M A E s env (.Name y p2) b) (H:S [a,b] s):wpAny M A (spliced (backTo pos (starEach [.Name x p1,.Name y p2] env))) S E s:=argsR ha (argsR hb (args_nil H))
theorem args3 (ha:Rd M A E s env (.Name x p1) a) (hb:Rd M A E s env (.Name y p2) b) (hc:Rd M A E s env (.Name z p3) c) (H:S [a,b,c] s):wpAny M A (spliced (backTo pos (starEach [.Name x p1,.Name y p2,.Name z p3] env))) S E s:=argsR ha (argsR hb (argsR hc (args_nil H)))
theorem argsC (H:∀ t tk',wpAny M A (spliced (backTo pos (starEach rest env))) (fun vs s₂=>S (.int i t::vs) s₂) E ⟨h,g,d,tk',o⟩):wpAny M A (spliced (backTo pos (starEach (.Constant (.int i) k p1::rest) env))) S E ⟨h,g,d,tk,o⟩:=args_cons (wpAny_Constant_int (H _ _))
inductive IntsE:List Expr -> List Int -> Prop
 | nil:IntsE [] []
 | cons:∀ {er:List Expr} {il:List Int} {i0:Int} {k0 p0},IntsE er il -> IntsE (.Constant (.int i0) k0 p0::er) (i0::il)
noncomputable def mkI:(Nat -> Tok) -> List Int -> List Value
 | _,[]=>[]
 | f,i::r=>.int i (f 0)::mkI (fun j=>f (j+1)) r
theorem argsI {pos:Pos} {es:List Expr} {is:List Int} (he:IntsE es is):∀ {S:List Value -> Shared -> Prop} {tk:Tok},(∀ f tk',S (mkI f is) ⟨h,g,d,tk',o⟩) -> wpAny M A (spliced (backTo pos (starEach es env))) S E ⟨h,g,d,tk,o⟩:=by
 induction he with
 | nil=>intro S tk H;exact args_nil (H (fun _=>0) tk)
 | cons _ ih=>intro S tk H;exact argsC fun t tk'=>ih fun f tk''=>H (@Nat.rec (fun _=>Tok) t fun j _=>f j) tk''
inductive PrsE:List Expr -> List (Str×Str) -> Prop
 | nil:PrsE [] []
 | cons:∀ {er:List Expr} {il:List (Str×Str)} {a0 b0:Str} {k0 p0 k1 p1 k2 p2},PrsE er il -> PrsE (.Tuple [.Constant (.str a0) k1 p1,.Constant (.str b0) k2 p2] k0 p0::er) ((a0,b0)::il)
theorem prs_of {es:List Expr} {ps ps':List (Str×Str)} (h:PrsE es ps) (e:ps=ps'):PrsE es ps':=e▸h
theorem argsP {pos:Pos} {L:Addr} {m:Str -> Option Value} {es:List Expr} {ps:List (Str×Str)} (he:PrsE es ps):∀ {S:List Value -> Shared -> Prop} {h:Heap} {tk:Tok} {news:List (Addr×Obj)},Fr h₀ L h m -> News h₀ L h news →
  (∀ (Ts:List Addr) (nw:List (Addr×Obj)) (h':Heap) (tk':Tok),Ts.length=ps.length -> (∀ (i:Nat) (a b:Str),ps[i]?=some (a,b) -> ∃ (T:Addr) (ta tb:Tok),Ts[i]?=some T /\ (T,({ cls:=.type "tuple",data:=.seq #[.str a ta,.str b tb] }:Obj))∈nw) -> (∀ p∈news,p∈nw) -> Fr h₀ L h' m -> News h₀ L h' nw -> S (Ts.map .ref) ⟨h',g,d,tk',o⟩) →
  wpAny M A (spliced (backTo pos (starEach es env))) S E ⟨h,g,d,tk,o⟩:=by
 induction he with
 | nil =>
  intro S h tk news F N H;exact args_nil (H [] news h tk rfl (fun i a b e=>nomatch e) (fun _ q=>q) F N)
 | cons _ ih =>
  intro S h tk news F N H;refine args_cons (Tuple_ (args_cons (Constant_str (args_cons (Constant_str (args_nil ?_))))))
  refine kup_newTuple F N (fun D h' F' N' hl=>?_) (by rw [sizeLine_eq];exact Nat.le_of_ble_eq_true rfl)
  refine ih F' N' fun Ts nw h'' tk'' hT hp hs F'' N''=>?_
  refine H (D::Ts) nw h'' tk'' (congrArg Nat.succ hT) (fun i a' b' e=>?_) (fun q hq=>hs q (.tail _ hq)) F'' N''
  cases i with
  | zero =>
   cases e
   exact ⟨D,_,_,rfl,hs _ (.head _)⟩
  | succ i=>exact hp i a' b' e
theorem subR (ha:Rd M A E s env l a) (H:wpAny M A (eval r env) (fun i s₂=>wpAny M A (subscriptTail l r a i) Q E s₂) E s):wpAny M A (eval (.Subscript l r pos) env) Q E s:=Subscript_ (ha.go _ H)
theorem subRR (ha:Rd M A E s env l a) (hb:Rd M A E s env r b) (H:wpAny M A (subscriptTail l r a b) Q E s):wpAny M A (eval (.Subscript l r pos) env) Q E s:=subR ha (hb.go _ H)
theorem subRC (ha:Rd M A E ⟨h,g,d,tk,o⟩ env l a) (H:∀ t tk',wpAny M A (subscriptTail l (.Constant (.int i) k p1) a (.int i t)) Q E ⟨h,g,d,tk',o⟩):wpAny M A (eval (.Subscript l (.Constant (.int i) k p1) pos) env) Q E ⟨h,g,d,tk,o⟩:=subR ha (wpAny_Constant_int (H _ _))
theorem attrR (ha:Rd M A E s env (.Name x p1) a) (H:wpAny M A (getAttr a t true) Q E s):wpAny M A (eval (.Attribute (.Name x p1) t pos) env) Q E s:=Attribute_Name_ (ha.go _ H)
theorem retR {Q:Flow -> Shared -> Prop} (ha:Rd M A E s env e a) (H:Q (.ret a) s):wpAny M A (exec (.Return (some e) pos) env) Q E s:=wpAny_Return_some (ha.go _ H)
theorem callR {args:List Expr} (ha:Rd M A E s env e a) (H:wpAny M A (callWith pos a [] (backTo pos (starEach args env)) []) Q E s) (he:eval (.Call e args [] pos) env=(do callWith pos (← eval e env) [] (backTo pos (starEach args env)) (backToKw pos (keywordEach [] env)))):wpAny M A (eval (.Call e args [] pos) env) Q E s:=Call_ (ha.go _ H) he
theorem metR {nm:Str} {apos:Pos} {args:List Expr} {pl:Sem Bool} (ha:Rd M A E s env e a) (H:wpAny M A (getMethod a nm pl) (fun fx s₂=>wpAny M A (callWith pos fx.1 fx.2 (backTo pos (starEach args env)) []) Q E s₂) E s)
  (he:eval (.Call (.Attribute e nm apos) args [] pos) env=(do
   let ov <- eval e env
   standAt apos.atName
   let (f,first) <- holding [ov] (getMethod ov nm pl)
   callWith pos f first (backTo pos (starEach args env)) [])):wpAny M A (eval (.Call (.Attribute e nm apos) args [] pos) env) Q E s:=MethodCall_ (ha.go _ H) he
theorem nmR (ha:Rd M A E s env (.Name x pos) v) (H:Q v s):wpAny M A (eval (.Name x pos) env) Q E s:=ha.go _ H
noncomputable abbrev locM (b:List (Str×Value)) (ns:List Str):Str -> Option Value:=fun y=>List.lookup y (List.reverse (List.filterMap (fun n=>Option.map (fun x=>(n,x)) (List.lookup n b)) ns))
theorem fr_loc {L:Addr} {b:List (Str×Value)} {ns:List Str} (F:Fr h₀ L h (fun y=>List.lookup y (List.reverse (List.filterMap (fun n=>Option.map (fun x=>(n,x)) (List.lookup n b)) ns)))):Fr h₀ L h (locM b ns):=F
theorem lfE {P:Env -> Prop} (e:Env) (H:let x:=e;P x):P e:=H
end
end
theorem reg1:True:=by
 w_top off
 k_with "hg"=>(k_here;with_reducible refine Halt.go ?_)
 k_with "cw"=>(conv=>{ lhs;whnf })
 k_with "tl"=>((try dsimp only);(try k_lift B');(try k_fold);(try replace F':=fr_loc F'))
 k_with "hu"=>(first | ktr_units | (simp only [units_under_make,units_in1,units_deeper];ktr_units))
 k_with "ne"=>(haveI:=neW;haveI:=neA;haveI:=neS;repeat' (first | apply ne2 | infer_instance | exact ⟨{}⟩ | (constructor;constructor<;>exact default)))
 k_with "eD"=>(refine' code_def ?k1 ?k2 ?k3 ?k4 ?k5 ?kA ?kF ?kK ?k6 ?k7 ?k8 ?k9 ?kB ?_ ?c2 ?c3 ?c4 ?c5;(case kA | kF=>exact rfl);(case kK=>assumption);(case k1 | k2 | k3 | k4 | k5=>k_asm);(case k6 | k7=>k_is);(case k8=>ktr_room);(case k9=>first | exact BindsTo.of_eq rfl | exact binds_K (by k_in) rfl (by k_is) rfl rfl rfl);(case c5=>decide);(case kB=>exact locs rfl);(case c2 | c3 | c4=>exact rfl);k_whole)
 k_with "kS"=>(refine' ks_code_super ?k1 ?k2 ?k3 ?k4 ?k5 ?kA ?kF ?kK ?k6 ?k7 ?k8 ?k9 ?kB ?_ ?c1 ?c2 ?c3 ?c4;(case kA | kF=>exact rfl);(case kK=>assumption);(case k1 | k2 | k3 | k4 | k5=>k_asm);(case k6 | k7=>k_is);(case k8=>ktr_room);(case k9=>first | exact BindsTo.of_eq rfl | exact binds_K (by k_in) rfl (by k_is) rfl rfl rfl);(case kB=>exact locs rfl);(case c1=>decide);(case c2 | c3 | c4=>exact rfl);k_whole)
 k_with "cB"=>((case B | F | X | T=>k_asm);(case hk=>first | exact rfl | assumption);(case hd=>ktr_room))
 k_with "ol"=>first | exact And.left (by with_reducible assumption) | exact And.left (a1 (by with_reducible assumption)) | exact And.left (a2 (by with_reducible assumption)) | exact And.left (a3 (by with_reducible assumption)) | exact And.left (a4 (by with_reducible assumption)) | exact And.left (a5 (by with_reducible assumption)) | exact And.left (a6 (by with_reducible assumption)) | exact And.left (a7 (by with_reducible assumption)) | exact And.left (a8 (by with_reducible assumption))
 k_with "oq"=>first | (with_reducible assumption) | (refine chn (by with_reducible assumption) ?_;k_extra "ol") | exact nlit rfl | (refine nea ?_;first | (with_reducible assumption) | (refine chk (by with_reducible assumption) ?_;k_extra "ol")) | exact nel (by with_reducible assumption) rfl | (refine chl (by with_reducible assumption) ?_;first | exact neb (by with_reducible assumption) (by with_reducible assumption) | exact nel2 (by with_reducible assumption) (by with_reducible assumption) rfl | exact nec (by with_reducible assumption) (by with_reducible assumption) (by with_reducible assumption) | exact nel3 (by with_reducible assumption) (by with_reducible assumption) (by with_reducible assumption) rfl)
 k_with "omega"=>first | (with_reducible assumption) | (with_reducible show (_:Nat)≠_;first | k_extra "oq" | (with_reducible refine Ne.symm ?_;k_extra "oq")) | (with_reducible show (_:Nat) < _;first | exact up0 (by with_reducible assumption) | exact up1 (by with_reducible assumption) rfl | exact up2 (by with_reducible assumption) rfl | exact up3 (by with_reducible assumption) rfl | exact up4 (by with_reducible assumption) rfl | exact up5 (by with_reducible assumption) rfl | (refine chk (by with_reducible assumption) ?_;k_extra "ol")) | (with_reducible show (_:Nat) <= _;first | exact lel (by with_reducible assumption) rfl | exact lel1 (by with_reducible assumption) rfl) | (with_reducible exact Int.add_nonneg (by assumption) (Int.natCast_nonneg _)) | ((fail_if_success (fail_if_success omega +splitDisjunctions));first | (law_clear;lia) | lia)
 k_with "w_why"=>first | (with_reducible refine' rdL ?F ?v ?c;(case c=>k_dflt exact Eq.refl true);(case F=>k_dflt (k_asm));(case v=>k_dflt exact Eq.refl (some _))) | ((repeat (with_reducible first | apply mem_h | assumption | apply mem_t | (apply mem_l;assumption) | apply mem_r));done)
 k_with "w_head"=>((repeat (with_reducible first | apply sub_i | assumption | apply sub_n | (apply sub_c;(focus ((repeat (with_reducible first | apply mem_h | assumption | apply mem_t | (apply mem_l;assumption) | apply mem_r));done))) | apply sub_a | apply sub_t | (apply sub_l;apply sub_i) | apply sub_r));done)
 k_with "eval BinOp Name"=>(k_here;with_reducible first | refine binRC (by w_why) fun _ _=>?_ | refine binRR (by w_why) (by w_why) ?_ | refine binR (by w_why) ?_)
 k_with "isTrue Compare Name"=>(k_here;with_reducible first | refine cmpRC (by w_why) (fun _ _=>?_) (by k_dflt exact rfl) | refine cmpRS (by w_why) (fun _ _=>?_) (by k_dflt exact rfl) | refine cmpRR (by w_why) (by first | exact rd0 | w_why) ?_ (by k_dflt exact rfl) | refine cmpR (by w_why) ?_ (by k_dflt exact rfl))
 k_with "spliced"=>(k_here;with_reducible first | refine args1 (by w_why) ?_ | refine args2 (by w_why) (by w_why) ?_ | refine args3 (by w_why) (by w_why) (by w_why) ?_ | refine argsR (by w_why) ?_ | refine argsC fun _ _=>?_)
 k_with "eval Subscript Name"=>(k_here;with_reducible first | refine subRC (by w_why) fun _ _=>?_ | refine subRR (by w_why) (by w_why) ?_ | refine subR (by w_why) ?_)
 k_with "eval Attribute Name"=>(k_here;with_reducible refine attrR (by w_why) ?_)
 k_with "eval Call Name"=>(k_here;with_reducible refine callR (by w_why) ?_ (by k_dflt exact rfl))
 k_with "exec Return some"=>(k_here;with_reducible refine retR (by w_why) ?_)
 k_with "eval Call Attribute"=>(k_here;with_reducible refine metR (by w_why) ?_ (by k_dflt exact rfl))
 k_with "eval Name"=>(k_here;with_reducible refine nmR (by w_why) ?_)
 k_with "spliced"=>(k_here;with_reducible refine argsI (is:=_::_::_) (by with_reducible (refine .cons (.cons ?_));(repeat first | exact .nil | refine .cons ?_)) (fun _ _=>?_);dsimp only [mkI])
 k_with "k_inst2"=>((refine' InstAt.of_newsSeq ?N ?h1 ?h2;(case N=>k_asm);(case h1=>k_mem);(case h2=>k_mem)))
 k_with "mul_fits3"=>(exact mulOk_getD (by assumption))
 k_with "k_ne4"=>(exact ne_objs (by k_asm) (by k_mem) (by k_mem) (cls_ne rfl rfl (by decide)))
 k_with "mul_fits5"=>(exact mul_of (by assumption))
 k_with "k_ne6"=>(exact ne_objs (by k_asm) (by k_mem) (by k_mem) tup_list)
 trivial
local macro_rules | `(tactic| omega)=>`(tactic| k_extra "omega")
local macro_rules | `(tactic| w_why)=>`(tactic| k_extra "w_why")
local macro_rules | `(tactic| w_head)=>`(tactic| k_extra "w_head")
local macro_rules | `(tactic| walk_at $s:str)=>`(tactic| k_extra $s)
section
open PySem PySem.W PyProof.Rows PySem.Spec PySem.Calls
noncomputable abbrev bodyS:List Stmt:=pw_rw0127_01.main.body
theorem said_f:sreFenced pw_rw0127_01.main=true:=(congrFun PySem.W.Fast.te11788848310118352699 _).trans (by kernel_rfl)
theorem said_n:namesResolve pw_rw0127_01=true:=(congrFun PySem.W.Fast.te8377067652309620493 _).trans (by kernel_rfl)
theorem said_a:namesMeet pw_rw0127_01 bodyS (fun _ n=>attrL n)=true:=(congrFun (congrFun (congrFun PySem.W.Fast.te17119622794617984870 _) _) _).trans (by kernel_rfl)
theorem said_o:noRoadLSs { strict:=false,foot:=none,bare:=[] } bodyS=true:=(congrFun (congrFun PySem.W.Fast.te8326940854005059898 _) _).trans (by kernel_rfl)
theorem said_1:readsOut pw_rw0127_01 bodyS "vars"=false:=(congrFun (congrFun (congrFun PySem.W.Fast.te13343964577679436407 _) _) _).trans (by kernel_rfl)
theorem said_2:readsOut pw_rw0127_01 bodyS "dir"=false:=(congrFun (congrFun (congrFun PySem.W.Fast.te13343964577679436407 _) _) _).trans (by kernel_rfl)
theorem said_3:readsOut pw_rw0127_01 bodyS "locals"=false:=(congrFun (congrFun (congrFun PySem.W.Fast.te13343964577679436407 _) _) _).trans (by kernel_rfl)
theorem said_s:(!(importedModules bodyS).all cThrough.contains)=false:=by kernel_rfl
theorem not_so {b:Bool} (h:b=false):¬ b=true:=fun e=>Bool.false_ne_true (h.symm.trans e)
theorem said_b:(["vars","dir","locals"]:List Str).filter (readsOut pw_rw0127_01 bodyS)=[] :=
 (List.filter_cons_of_neg (not_so said_1)).trans ((List.filter_cons_of_neg (not_so said_2)).trans (List.filter_cons_of_neg (not_so said_3)))
theorem look_of {a a':Bool} {b b':List Str} (ea:a=a') (eb:b=b') (h:noRoadLSs { strict:=a',foot:=none,bare:=b' } bodyS=true):noRoadLSs { strict:=a,foot:=none,bare:=b } bodyS=true:=by
 subst ea eb;exact h
theorem said_p (h:looksOpen rw_rw0127_01.row.prog=true):rw_rw0127_01.row.wellSaid=true:=(look_both (look_both (look_both (look_both (look_both (look_both (look_both (look_both (look_both (look_both (look_both (look_both (look_both (look_both (look_both h (by kernel_rfl)) (by kernel_rfl)) (by kernel_rfl)) (by kernel_rfl)) (by kernel_rfl)) (by kernel_rfl)) (by kernel_rfl)) (by kernel_rfl)) (by kernel_rfl)) (by kernel_rfl)) (by kernel_rfl)) (by kernel_rfl)) (by kernel_rfl)) (by kernel_rfl)) (by kernel_rfl))
theorem said_l (h:rw_rw0127_01.row.wellSaid=true):rw_rw0127_01.wellSaid=true:=(congrFun PySem.W.Fast.te9446332074065402090 _).trans (look_both (look_both (look_both (look_both (look_both (look_both (look_both (look_both (look_both (look_both (look_both (look_both (look_both (look_both (look_both (look_both (look_both (look_both ((congrFun PySem.W.Fast.te17960256430627541270 _).symm.trans h) (by kernel_rfl)) (by kernel_rfl)) (by kernel_rfl)) (by kernel_rfl)) (by kernel_rfl)) (by kernel_rfl)) (by kernel_rfl)) (by kernel_rfl)) (by kernel_rfl)) (by kernel_rfl)) (by kernel_rfl)) (by kernel_rfl)) (by kernel_rfl)) (by kernel_rfl)) (by kernel_rfl)) (by kernel_rfl)) (by kernel_rfl)) (by kernel_rfl))
theorem said_w:rw_rw0127_01.wellSaid=true :=
 said_l (said_p (look_both (look_both (look_both (look_both (look_both said_f (by kernel_rfl)) said_n) (by kernel_rfl)) (look_of said_s said_b said_o)) said_a))
end
section
open PySem PySem.W PyProof.Rows PySem.Calls
noncomputable def tick {α:Type} (m:Nat) (r:Option (α×Shared×Pos×Nat)):Option (α×Shared×Pos×Nat):=r.map fun r=>(r.1,r.2.1,r.2.2.1,r.2.2.2+m)
noncomputable def sim (S:Setting) (ok:Addr -> Bool) (C:Code -> Shared -> Option (Result×Shared×Nat)) {α:Type}:Sem α -> Shared -> Pos -> Option (α×Shared×Pos×Nat)
 | .pure a,s,p=>some (a,s,p,0)
 | .rule _ k,s,p=>tick 1 (sim S ok C (k ()) s p)
 | .at q k,s,_=>tick 1 (sim S ok C (k ()) s q)
 | .load a _ k,s,p=>(s.heap.get? a).bind fun o=>tick 1 (sim S ok C (k o) s p)
 | .update a _ f k,s,p=>cond (ok a && (s.heap.get? a).isSome) (tick 1 (sim S ok C (k ()) { s with heap:=s.heap.update a f } p)) none
 | .alloc o k,s,p=>tick 1 (sim S ok C (k s.heap.objs.size) { s with heap:=s.heap.push o } p)
 | .point _ k,s,p=>tick 1 (sim S ok C (k ()) s p)
 | .fresh k,s,p=>tick 1 (sim S ok C (k s.toks) { s with toks:=s.toks+1 } p)
 | .ask k,s,p=>tick 1 (sim S ok C (k S) s p)
 | .call c _ _ _ k,s,p=>(C c s).bind fun r=>tick (r.2.2+1) (sim S ok C (k r.1) r.2.1 p)
 | _,_,_=>none
theorem tick_some {α:Type} {m:Nat} {r:Option (α×Shared×Pos×Nat)} {a:α} {s:Shared} {p:Pos} {n:Nat} (h:tick m r=some (a,s,p,n)):∃ n₁,n₁+m=n /\ r=some (a,s,p,n₁):=by
 match r,h with
 | some (a1,s1,p1,n1),h=>cases h;exact ⟨n1,rfl,rfl⟩
theorem bind_cut {α β:Type} {x:Option α} {f:α -> Option β} {y:β} {Q:Prop} (h:x.bind f=some y) (k:∀ o,x=some o -> f o=some y -> Q):Q:=by
 cases x with
 | none=>cases h
 | some o=>exact k o rfl h
theorem no_some {α:Type} {y:α} {Q:Prop} (h:(none:Option α)=some y):Q:=by cases h
theorem tick_mk {α:Type} {m:Nat} {r:Option (α×Shared×Pos×Nat)} {a:α} {s:Shared} {p:Pos} {n:Nat} (h:r=some (a,s,p,n)):tick m r=some (a,s,p,n+m):=by
 rw [h];rfl
theorem cond_cut {α:Type} {b:Bool} {x:Option α} {y:α} {Q:Prop} (h:cond b x none=some y) (k:b=true -> x=some y -> Q):Q:=by
 cases b with
 | true=>exact k rfl h
 | false=>cases h

section
variable {tb:String -> Option Builtin} {p:Program} {w:World} {n₀:Nat} {ann:Option Value} {b:Nat}
theorem go_one {n:Nat} {s s':Shared} {t t':Thread} (he:endAt b t=none) (hk:stepOk n₀ ann t=true) (hs:step (denote tb) p w s t=.go s' t'):segGo tb p w n₀ ann b (n+1) s t=segGo tb p w n₀ ann b n s' t':=by
 rw [segGo,he,hk,hs]
theorem go_app {n m:Nat} {s s' s'':Shared} {t t' t'':Thread} (h:segGo tb p w n₀ ann b n s t=some (s',t')) (k:segGo tb p w n₀ ann b m s' t'=some (s'',t'')):segGo tb p w n₀ ann b (n+m) s t=some (s'',t''):=by
 induction n generalizing s t with
 | zero=>cases h;rw [Nat.zero_add];exact k
 | succ n ih =>
  rw [Nat.succ_add]
  unfold segGo at h ⊢
  cases he:endAt b t with
  | some x=>rw [he] at h;cases h
  | none =>
   rw [he] at h
   cases hk:stepOk n₀ ann t with
   | false=>rw [hk] at h;cases h
   | true =>
    rw [hk] at h
    cases hs:step (denote tb) p w s t with
    | halt o s₂=>rw [hs] at h;cases h
    | go s₂ t₂=>rw [hs] at h;exact ih h
theorem sim_go {C:Code -> Shared -> Option (Result×Shared×Nat)} {c:Code} {q:Pos}
  (HC:∀ c₀ s r s' m,C c₀ s=some (r,s',m) -> ∀ (K:Result -> Sem Fin) h g l code pos kept,segGo tb p w n₀ ann 1 m s ⟨denote tb c₀,c₀,pos,[.ret K h g l code pos kept,topFrame q]⟩=some (s',⟨K r,code,pos,[topFrame q]⟩)) {α:Type} :
  ∀ (x:Sem α) (s:Shared) (p₀:Pos) (a:α) (s':Shared) (p':Pos) (n:Nat),sim ⟨p,w.params⟩ (fun a=>Nat.ble n₀ a || a == mainNs || a == cStatics || ann == some (.ref a)) C x s p₀=some (a,s',p',n) →
   ∀ (K:α -> Sem Fin) (H:Value -> Sem Fin) (gd:Bool -> Bool) (lv:List Value -> List Value),segGo tb p w n₀ ann 1 n s ⟨x.wrap K H gd lv,c,p₀,[topFrame q]⟩=some (s',⟨K a,c,p',[topFrame q]⟩):=by
 intro x;induction x with
 | pure a₀ =>
  intro s p₀ a s' p' n h K H gd lv;cases h
  rfl
 | rule t k ih =>
  intro s p₀ a s' p' n h K H gd lv;obtain ⟨n1,rfl,h1⟩:=tick_some h
  exact (go_one rfl rfl rfl).trans (ih () _ _ _ _ _ _ h1 K H gd lv)
 | «at» t k ih =>
  intro s p₀ a s' p' n h K H gd lv;obtain ⟨n1,rfl,h1⟩:=tick_some h
  exact (go_one rfl rfl rfl).trans (ih () _ _ _ _ _ _ h1 K H gd lv)
 | point t k ih =>
  intro s p₀ a s' p' n h K H gd lv;obtain ⟨n1,rfl,h1⟩:=tick_some h
  exact (go_one rfl rfl rfl).trans (ih () _ _ _ _ _ _ h1 K H gd lv)
 | fresh k ih =>
  intro s p₀ a s' p' n h K H gd lv;obtain ⟨n1,rfl,h1⟩:=tick_some h
  exact (go_one rfl rfl rfl).trans (ih _ _ _ _ _ _ _ h1 K H gd lv)
 | ask k ih =>
  intro s p₀ a s' p' n h K H gd lv;obtain ⟨n1,rfl,h1⟩:=tick_some h
  exact (go_one rfl rfl rfl).trans (ih _ _ _ _ _ _ _ h1 K H gd lv)
 | alloc o k ih =>
  intro s p₀ a s' p' n h K H gd lv;obtain ⟨n1,rfl,h1⟩:=tick_some h
  exact (go_one rfl rfl rfl).trans (ih _ _ _ _ _ _ _ h1 K H gd lv)
 | load a₀ part k ih =>
  intro s p₀ a s' p' n h K H gd lv;refine bind_cut h fun o ho h=>?_
  obtain ⟨n1,rfl,h1⟩:=tick_some h
  refine (go_one rfl rfl ?_).trans (ih o _ _ _ _ _ _ h1 K H gd lv)
  show (match s.heap.get? a₀ with | some _=>_ | none=>_)=_
  rw [ho]
 | update a₀ part f k ih =>
  intro s p₀ a s' p' n h K H gd lv;refine cond_cut h fun ho h=>?_
  obtain ⟨ho1,ho2⟩:=Bool.and_eq_true_iff.mp ho
  obtain ⟨n1,rfl,h1⟩:=tick_some h
  refine (go_one rfl ?_ ?_).trans (ih () _ _ _ _ _ _ h1 K H gd lv)
  ·show (true && _)=true
   rw [Bool.true_and];exact ho1
  ·exact if_pos ho2
 | call c₀ hd g l k ih =>
  intro s p₀ a s' p' n h K H gd lv;refine bind_cut h fun ⟨x,s₁,m⟩ hc h=>?_
  obtain ⟨n1,rfl,h1⟩:=tick_some h
  rw [show n1+(m+1)=m+n1+1 from congrArg Nat.succ (Nat.add_comm n1 m)]
  refine Eq.trans (go_one rfl rfl (by exact rfl)) ?_
  exact go_app (HC _ _ _ _ _ hc (fun x=>(k x).wrap K H gd lv) hd (gd g) (lv l) c p₀ _) (ih x _ _ _ _ _ _ h1 K H gd lv)
 | _=>intro s p₀ a s' p' n h;exact no_some h
end
end
section
open PySem PySem.W PySem.Spec
noncomputable def nthS:List Stmt -> Nat -> Stmt
 | [],_=>.Pass default
 | s::_,0=>s
 | _::r,n+1=>nthS r n
noncomputable def fnV:Stmt -> Arguments×List Stmt×Scope
 | .FunctionDef _ a b _ _ _ sc ..=>(a,b,sc)
 | .ClassDef _ _ _ b ..=>(⟨[],[],none,[],[],none,[]⟩,b,default)
 | _=>(⟨[],[],none,[],[],none,[]⟩,[],default)
noncomputable def asV:Stmt -> List Expr×Expr×Pos
 | .Assign t v p=>(t,v,p)
 | _=>([],.Constant .none 0 default,default)
noncomputable def coV:Expr -> Const
 | .Constant c _ _=>c
 | _=>.none
noncomputable def diV:Expr -> List (Option Expr)×List Expr×Pos
 | .Dict ks vs p=>(ks,vs,p)
 | _=>([],[],default)
noncomputable def sBody (s:Stmt):List Stmt:=(fnV s).2.1
noncomputable def sArgs (s:Stmt):Arguments:=(fnV s).1
noncomputable def sScope (s:Stmt):Scope:=(fnV s).2.2
noncomputable def dAt (i:Nat):Stmt:=nthS pw_rw0127_01.main.body i
noncomputable def mAt (i j:Nat):Stmt:=nthS (sBody (dAt i)) j
noncomputable def fnBy {st:Stmt} {a:Arguments} {b:List Stmt} {sc:Scope} (_:sArgs st=a) (_:sBody st=b) (_:sScope st=sc) (k:Arguments -> List Stmt -> Scope -> Obj):Obj:=k a b sc
noncomputable def intE (e:Expr):Int:=match coV e with
 | .int i=>i
 | _=>0
noncomputable def strE (e:Expr):Str:=match coV e with
 | .str x=>x
 | _=>⟨#[]⟩
noncomputable def pairsE (e:Expr):List (Int×Str):=((diV e).1.map fun k=>match k with | some e=>intE e | none=>0).zip ((diV e).2.1.map strE)
noncomputable def valueS (s:Stmt):Expr:=(asV s).2.1
noncomputable def b3Src:List (Int×Str):=pairsE (valueS (dAt 9))
noncomputable def entry3 (tk:Nat) (q:Int×Str):DictEntry:=⟨PySem.hashInt q.1,.int q.1 tk,.str q.2 (tk+1)⟩
noncomputable def entsBy (st:Nat):Nat -> List (Int×Str) -> List DictEntry
 | _,[]=>[]
 | tk,q::r=>entry3 tk q::entsBy st (tk+st) r
noncomputable def dictO (es:List DictEntry):Obj:=⟨.type "dict",none,.dict es.toArray es.length,#[]⟩
noncomputable def b3Chunk (j:Nat):List DictEntry:=if j=38 then entsBy 2 2411 (b3Src.drop 646) else entsBy 3 (473+51 * j) ((b3Src.drop (17 * j)).take 17)
noncomputable def b3Ents:List DictEntry:=entsBy 3 473 (b3Src.take 646) ++ entsBy 2 2411 (b3Src.drop 646)
noncomputable abbrev kd (P:Params) (k:Str) (t:Tok) (v:Value):DictEntry:=⟨PyData.keyHash P k,.str k t,v⟩
noncomputable abbrev nd (o:Obj) (l r:BT):BT:=.node o l r
noncomputable abbrev lf (o:Obj):BT:=.node o .nil .nil
noncomputable abbrev cu (t:Tok):Value:=.str "/claim/cut.py" t
noncomputable abbrev tp (a:Array Value):Obj:=⟨.type "tuple",.none,.seq a 0,#[]⟩
noncomputable abbrev tu0:Obj:=⟨.type "tuple",.none,.seq #[] 0,#[]⟩
noncomputable abbrev fi0:Obj:=⟨.none,.none,.fields #[],#[]⟩
noncomputable abbrev cdO (a:Str) (n1:Tok) (b:Str) (n2 n3:Tok) (i1 i2 i3 i4 i5:Int) (r1:Addr) (bl:Bool) (i6:Int) (r2 r3 r4 r5:Addr) (t1 i7:Int) (n4:Tok):Obj:=⟨.type "code",.none,.fields #[.str a n1,.str b n2,cu n3,.int i1 0,.int i2 0,.int i3 0,.int i4 0,.int i5 0,.ref r1,.bool bl,.int i6 0,.ref r2,.none,.ref r3,.ref r4,.ref r5,.int t1 0,.int i7 0,cu n4],#[]⟩
def h0 (P:Params):Obj:=⟨.type "dict",.none,.dict #[kd P "__name__" 1 (.str "builtins" 160),kd P "__doc__" 2 (.builtin "builtins.__doc__:str#opaque"),kd P "__package__" 3 (.builtin "builtins.__package__:str#opaque"),kd P "__loader__" 4 (.builtin "builtins.__loader__:shared#opaque"),kd P "__spec__" 5 (.builtin "builtins.__spec__#opaque"),kd P "__build_class__" 6 (.builtin "__build_class__"),kd P "__import__" 7 (.builtin "__import__"),kd P "abs" 8 (.builtin "abs"),kd P "all" 9 (.builtin "all"),kd P "any" 10 (.builtin "any"),kd P "ascii" 11 (.builtin "ascii"),kd P "bin" 12 (.builtin "bin"),kd P "breakpoint" 13 (.builtin "breakpoint"),kd P "callable" 14 (.builtin "callable"),kd P "chr" 15 (.builtin "chr"),kd P "compile" 16 (.builtin "compile"),kd P "delattr" 17 (.builtin "delattr"),kd P "dir" 18 (.builtin "dir"),kd P "divmod" 19 (.builtin "divmod"),kd P "eval" 20 (.builtin "eval"),kd P "exec" 21 (.builtin "exec"),kd P "format" 22 (.builtin "format"),kd P "getattr" 23 (.builtin "getattr"),kd P "globals" 24 (.builtin "globals"),kd P "hasattr" 25 (.builtin "hasattr"),kd P "hash" 26 (.builtin "hash"),kd P "hex" 27 (.builtin "hex"),kd P "id" 28 (.builtin "id"),kd P "input" 29 (.builtin "input"),kd P "isinstance" 30 (.builtin "isinstance"),kd P "issubclass" 31 (.builtin "issubclass"),kd P "iter" 32 (.builtin "iter"),kd P "aiter" 33 (.builtin "aiter"),kd P "len" 34 (.builtin "len"),kd P "locals" 35 (.builtin "locals"),kd P "max" 36 (.builtin "max"),kd P "min" 37 (.builtin "min"),kd P "next" 38 (.builtin "next"),kd P "anext" 39 (.builtin "anext"),kd P "oct" 40 (.builtin "oct"),kd P "ord" 41 (.builtin "ord"),kd P "pow" 42 (.builtin "pow"),kd P "print" 43 (.builtin "print"),kd P "repr" 44 (.builtin "repr"),kd P "round" 45 (.builtin "round"),kd P "setattr" 46 (.builtin "setattr"),kd P "sorted" 47 (.builtin "sorted"),kd P "sum" 48 (.builtin "sum"),kd P "vars" 49 (.builtin "vars"),kd P "None" 50 .none,kd P "Ellipsis" 51 (.ellipsis),kd P "NotImplemented" 52 (.notImplemented),kd P "False" 53 (.bool false),kd P "True" 54 (.bool true),kd P "bool" 55 (.type "bool"),kd P "memoryview" 56 (.type "memoryview"),kd P "bytearray" 57 (.type "bytearray"),kd P "bytes" 58 (.type "bytes"),kd P "classmethod" 59 (.type "classmethod"),kd P "complex" 60 (.type "complex"),kd P "dict" 61 (.type "dict"),kd P "enumerate" 62 (.type "enumerate"),kd P "filter" 63 (.type "filter"),kd P "float" 64 (.type "float"),kd P "frozenset" 65 (.type "frozenset"),kd P "property" 66 (.type "property"),kd P "int" 67 (.type "int"),kd P "list" 68 (.type "list"),kd P "map" 69 (.type "map"),kd P "object" 70 (.type "object"),kd P "range" 71 (.type "range"),kd P "reversed" 72 (.type "reversed"),kd P "set" 73 (.type "set"),kd P "slice" 74 (.type "slice"),kd P "staticmethod" 75 (.type "staticmethod"),kd P "str" 76 (.type "str"),kd P "super" 77 (.type "super"),kd P "tuple" 78 (.type "tuple"),kd P "type" 79 (.type "type"),kd P "zip" 80 (.type "zip"),kd P "__debug__" 81 (.bool true),kd P "BaseException" 82 (.type "BaseException"),kd P "BaseExceptionGroup" 83 (.type "BaseExceptionGroup"),kd P "Exception" 84 (.type "Exception"),kd P "GeneratorExit" 85 (.type "GeneratorExit"),kd P "KeyboardInterrupt" 86 (.type "KeyboardInterrupt"),kd P "SystemExit" 87 (.type "SystemExit"),kd P "ArithmeticError" 88 (.type "ArithmeticError"),kd P "AssertionError" 89 (.type "AssertionError"),kd P "AttributeError" 90 (.type "AttributeError"),kd P "BufferError" 91 (.type "BufferError"),kd P "EOFError" 92 (.type "EOFError"),kd P "ImportError" 93 (.type "ImportError"),kd P "LookupError" 94 (.type "LookupError"),kd P "MemoryError" 95 (.type "MemoryError"),kd P "NameError" 96 (.type "NameError"),kd P "OSError" 97 (.type "OSError"),kd P "ReferenceError" 98 (.type "ReferenceError"),kd P "RuntimeError" 99 (.type "RuntimeError"),kd P "StopAsyncIteration" 100 (.type "StopAsyncIteration"),kd P "StopIteration" 101 (.type "StopIteration"),kd P "SyntaxError" 102 (.type "SyntaxError"),kd P "SystemError" 103 (.type "SystemError"),kd P "TypeError" 104 (.type "TypeError"),kd P "ValueError" 105 (.type "ValueError"),kd P "Warning" 106 (.type "Warning"),kd P "FloatingPointError" 107 (.type "FloatingPointError"),kd P "OverflowError" 108 (.type "OverflowError"),kd P "ZeroDivisionError" 109 (.type "ZeroDivisionError"),kd P "BytesWarning" 110 (.type "BytesWarning"),kd P "DeprecationWarning" 111 (.type "DeprecationWarning"),kd P "EncodingWarning" 112 (.type "EncodingWarning"),kd P "FutureWarning" 113 (.type "FutureWarning"),kd P "ImportWarning" 114 (.type "ImportWarning"),kd P "PendingDeprecationWarning" 115 (.type "PendingDeprecationWarning"),kd P "ResourceWarning" 116 (.type "ResourceWarning"),kd P "RuntimeWarning" 117 (.type "RuntimeWarning"),kd P "SyntaxWarning" 118 (.type "SyntaxWarning"),kd P "UnicodeWarning" 119 (.type "UnicodeWarning"),kd P "UserWarning" 120 (.type "UserWarning"),kd P "BlockingIOError" 121 (.type "BlockingIOError"),kd P "ChildProcessError" 122 (.type "ChildProcessError"),kd P "ConnectionError" 123 (.type "ConnectionError"),kd P "FileExistsError" 124 (.type "FileExistsError"),kd P "FileNotFoundError" 125 (.type "FileNotFoundError"),kd P "InterruptedError" 126 (.type "InterruptedError"),kd P "IsADirectoryError" 127 (.type "IsADirectoryError"),kd P "NotADirectoryError" 128 (.type "NotADirectoryError"),kd P "PermissionError" 129 (.type "PermissionError"),kd P "ProcessLookupError" 130 (.type "ProcessLookupError"),kd P "TimeoutError" 131 (.type "TimeoutError"),kd P "IndentationError" 132 (.type "IndentationError"),kd P "_IncompleteInputError" 133 (.type "_IncompleteInputError"),kd P "IndexError" 134 (.type "IndexError"),kd P "KeyError" 135 (.type "KeyError"),kd P "ModuleNotFoundError" 136 (.type "ModuleNotFoundError"),kd P "NotImplementedError" 137 (.type "NotImplementedError"),kd P "PythonFinalizationError" 138 (.type "PythonFinalizationError"),kd P "RecursionError" 139 (.type "RecursionError"),kd P "UnboundLocalError" 140 (.type "UnboundLocalError"),kd P "UnicodeError" 141 (.type "UnicodeError"),kd P "BrokenPipeError" 142 (.type "BrokenPipeError"),kd P "ConnectionAbortedError" 143 (.type "ConnectionAbortedError"),kd P "ConnectionRefusedError" 144 (.type "ConnectionRefusedError"),kd P "ConnectionResetError" 145 (.type "ConnectionResetError"),kd P "TabError" 146 (.type "TabError"),kd P "UnicodeDecodeError" 147 (.type "UnicodeDecodeError"),kd P "UnicodeEncodeError" 148 (.type "UnicodeEncodeError"),kd P "UnicodeTranslateError" 149 (.type "UnicodeTranslateError"),kd P "ExceptionGroup" 150 (.type "ExceptionGroup"),kd P "EnvironmentError" 151 (.type "OSError"),kd P "IOError" 152 (.type "OSError"),kd P "open" 153 (.builtin "open"),kd P "quit" 154 (.builtin "builtins.quit#opaque"),kd P "exit" 155 (.builtin "builtins.exit#opaque"),kd P "copyright" 156 (.builtin "builtins.copyright#opaque"),kd P "credits" 157 (.builtin "builtins.credits#opaque"),kd P "license" 158 (.builtin "builtins.license#opaque"),kd P "help" 159 (.builtin "builtins.help#opaque")] 159,#[]⟩
def h1 (P:Params):Obj:=⟨.type "dict",.none,.dict #[kd P "builtins" 162 (.ref 4),kd P "__main__" 163 (.ref 5)] 2,#[]⟩
noncomputable def h2:Obj:=⟨.none,.none,.dict #[] 0,#[]⟩
def h3 (P:Params):Obj:=⟨.type "dict",.none,.dict #[kd P "__name__" 165 (.str "__main__" 164),kd P "__doc__" 166 .none,kd P "__package__" 167 .none,kd P "__loader__" 168 (.builtin "__main__.__loader__#opaque"),kd P "__spec__" 169 .none,kd P "__annotations__" 170 (.ref 6),kd P "__builtins__" 171 (.ref 4),kd P "__file__" 173 (.str "/claim/cut.py" 172),kd P "__cached__" 174 .none] 9,#[]⟩
noncomputable def h4:Obj:=⟨.type "module",.some 0,.plain,#[]⟩
noncomputable def h5:Obj:=⟨.type "module",.some 3,.plain,#[]⟩
noncomputable def h6:Obj:=⟨.type "dict",.none,.dict #[] 0,#[]⟩
noncomputable def h7:Obj:=tu0
noncomputable def h8:Obj:=fi0
noncomputable def h9:Obj:=⟨.type "code",.none,.fields #[.str "<module>" 176,.str "<module>" 177,.str "/claim/cut.py" 178,.int 1 0,.int 0 0,.int 0 0,.int 0 0,.int 0 0,.ref 7,.bool false,.int 175 0,.ref 8,.none,.none,.none,.none,.int 179 0,.int 1 0,.str "/claim/cut.py" 180],#[]⟩
noncomputable def h10:Obj:=⟨.type "frame",.none,.plain,#[.some (.ref 9),.some (.ref 3),.some (.ref 3),.none,.some (.str "__main__" 164),.none,.some (.ref 0)]⟩
noncomputable def h13:Obj:=⟨.type "code",.none,.fields #[.str "<module>" 182,.str "<module>" 183,.str "/claim/cut.py" 184,.int 1 0,.int 0 0,.int 0 0,.int 0 0,.int 0 0,.ref 11,.bool false,.int 181 0,.ref 12,.none,.none,.none,.none,.int 185 0,.int 1 0,.str "/claim/cut.py" 186],#[]⟩
noncomputable def h14:Obj:=⟨.type "frame",.none,.plain,#[.some (.ref 13),.some (.ref 3),.some (.ref 3),.none,.some (.str "__main__" 164),.none,.some (.ref 0)]⟩
def h3v1 (P:Params):Obj:=⟨.type "dict",.none,.dict #[kd P "__name__" 165 (.str "cpy313.email.header" 194),kd P "__doc__" 166 .none,kd P "__package__" 167 .none,kd P "__loader__" 168 (.builtin "__main__.__loader__#opaque"),kd P "__spec__" 169 .none,kd P "__annotations__" 170 (.ref 6),kd P "__builtins__" 171 (.ref 4),kd P "__file__" 173 (.str "/claim/cut.py" 172),kd P "__cached__" 174 .none,kd P "_wall" 193 (.ref 21),kd P "NL" 197 (.str "\n" 196), kd P "EMPTYSTRING" 199 (.str "" 198)] 12,#[]⟩
noncomputable def h12v1:Obj:=⟨.none,.none,.fields #[.int 1 0,.int 0 0,.ref 20],#[]⟩
def h17:Obj:=tp #[.str "k" 190]
noncomputable def h19:Obj:=⟨.none,.none,.func ⟨"_wall","_wall",sArgs (dAt 0),.stmts (sBody (dAt 0)),sScope (dAt 0),0,[],.none,.none,.none,.none,.none,.none,.none,0⟩,#[]⟩
def h20:Obj:=cdO "_wall" 187 "_wall" 188 189 1 1 0 0 3 15 true 181 16 17 18 19 191 1 192
def h21:Obj:=fnBy (st:=(dAt 0)) (by k_extra "cw") (by k_extra "cw") (by k_extra "cw") fun sa sb sc=>⟨.type "function",.none,.func ⟨"_wall","_wall",sa,.stmts sb,sc,3,[],.none,.none,.none,.str "__main__" 164,.none,.ref 20,.none,0⟩,#[]⟩
def h3v2 (P:Params):Obj:=⟨.type "dict",.none,.dict #[kd P "__name__" 165 (.str "cpy313.email.header" 194),kd P "__doc__" 166 .none,kd P "__package__" 167 .none,kd P "__loader__" 168 (.builtin "__main__.__loader__#opaque"),kd P "__spec__" 169 .none,kd P "__annotations__" 170 (.ref 6),kd P "__builtins__" 171 (.ref 4),kd P "__file__" 173 (.str "/claim/cut.py" 172),kd P "__cached__" 174 .none,kd P "_wall" 193 (.ref 21),kd P "NL" 197 (.str "\n" 196), kd P "EMPTYSTRING" 199 (.str "" 198), kd P "_ValueFormatter" 307 (.ref 94)] 13,#[]⟩
noncomputable def h12v2:Obj:=⟨.none,.none,.fields #[.int 1 0,.int 0 0,.ref 20,.int 7 0,.int 0 0,.ref 27],#[]⟩
noncomputable def h23:Obj:=⟨.type "builtin_function_or_method",.none,.fields #[.builtin "type.__prepare__",.type "type"],#[]⟩
def h24 (P:Params):Obj:=⟨.type "dict",.none,.dict #[kd P "__module__" 207 (.str "cpy313.email.header" 194),kd P "__qualname__" 209 (.str "_ValueFormatter" 208),kd P "__firstlineno__" 211 (.int 7 210),kd P "__init__" 222 (.ref 35),kd P "_str" 230 (.ref 42),kd P "__str__" 237 (.ref 49),kd P "newline" 245 (.ref 56),kd P "add_transition" 252 (.ref 63),kd P "feed" 262 (.ref 70),kd P "_maxlengths" 269 (.ref 77),kd P "_ascii_split" 279 (.ref 84),kd P "_append_chunk" 293 (.ref 91),kd P "__static_attributes__" 300 (.ref 92)] 13,#[]⟩
noncomputable def h26:Obj:=⟨.none,.none,.fields #[.int 9 0,.int 4 0,.ref 34,.int 17 0,.int 4 0,.ref 41,.int 21 0,.int 4 0,.ref 48,.int 24 0,.int 4 0,.ref 55,.int 35 0,.int 4 0,.ref 62,.int 38 0,.int 4 0,.ref 69,.int 41 0,.int 4 0,.ref 76,.int 44 0,.int 4 0,.ref 83,.int 47 0,.int 4 0,.ref 90],#[]⟩
noncomputable def h27:Obj:=⟨.type "code",.none,.fields #[.str "_ValueFormatter" 202,.str "_ValueFormatter" 203,.str "/claim/cut.py" 204,.int 7 0,.int 0 0,.int 0 0,.int 0 0,.int 0 0,.ref 25,.bool false,.int 181 0,.ref 26,.none,.none,.none,.none,.int 205 0,.int 7 0,.str "/claim/cut.py" 206],#[]⟩
noncomputable def h28:Obj:=⟨.type "frame",.none,.plain,#[.some (.ref 27),.some (.ref 3),.some (.ref 24),.none,.some (.str "cpy313.email.header" 194),.none,.some (.ref 0)]⟩
def h31:Obj:=tp #[.str "self" 215,.str "headerlen" 216,.str "maxlen" 217,.str "continuation_ws" 218,.str "splitchars" 219]
noncomputable def h33:Obj:=⟨.none,.none,.func ⟨"__init__","_ValueFormatter.__init__",sArgs (mAt 4 0),.stmts (sBody (mAt 4 0)),sScope (mAt 4 0),0,[],.none,.none,.none,.none,.none,.none,.none,0⟩,#[]⟩
def h34:Obj:=cdO "__init__" 212 "_ValueFormatter.__init__" 213 214 9 5 0 0 3 29 true 181 30 31 32 33 220 9 221
def h35:Obj:=fnBy (st:=(mAt 4 0)) (by k_extra "cw") (by k_extra "cw") (by k_extra "cw") fun sa sb sc=>⟨.type "function",.none,.func ⟨"__init__","_ValueFormatter.__init__",sa,.stmts sb,sc,3,[],.none,.none,.none,.str "cpy313.email.header" 194,.none,.ref 34,.none,0⟩,#[]⟩
def h38:Obj:=tp #[.str "self" 226,.str "linesep" 227]
noncomputable def h40:Obj:=⟨.none,.none,.func ⟨"_str","_ValueFormatter._str",sArgs (mAt 4 1),.stmts (sBody (mAt 4 1)),sScope (mAt 4 1),0,[],.none,.none,.none,.none,.none,.none,.none,0⟩,#[]⟩
def h41:Obj:=cdO "_str" 223 "_ValueFormatter._str" 224 225 17 2 0 0 3 36 true 181 37 38 39 40 228 17 229
def h42:Obj:=fnBy (st:=(mAt 4 1)) (by k_extra "cw") (by k_extra "cw") (by k_extra "cw") fun sa sb sc=>⟨.type "function",.none,.func ⟨"_str","_ValueFormatter._str",sa,.stmts sb,sc,3,[],.none,.none,.none,.str "cpy313.email.header" 194,.none,.ref 41,.none,0⟩,#[]⟩
def h45:Obj:=tp #[.str "self" 234]
noncomputable def h47:Obj:=⟨.none,.none,.func ⟨"__str__","_ValueFormatter.__str__",sArgs (mAt 4 2),.stmts (sBody (mAt 4 2)),sScope (mAt 4 2),0,[],.none,.none,.none,.none,.none,.none,.none,0⟩,#[]⟩
def h48:Obj:=cdO "__str__" 231 "_ValueFormatter.__str__" 232 233 21 1 0 0 3 43 true 181 44 45 46 47 235 21 236
def h49:Obj:=fnBy (st:=(mAt 4 2)) (by k_extra "cw") (by k_extra "cw") (by k_extra "cw") fun sa sb sc=>⟨.type "function",.none,.func ⟨"__str__","_ValueFormatter.__str__",sa,.stmts sb,sc,3,[],.none,.none,.none,.str "cpy313.email.header" 194,.none,.ref 48,.none,0⟩,#[]⟩
def h52:Obj:=tp #[.str "self" 241,.str "end_of_line" 242]
noncomputable def h54:Obj:=⟨.none,.none,.func ⟨"newline","_ValueFormatter.newline",sArgs (mAt 4 3),.stmts (sBody (mAt 4 3)),sScope (mAt 4 3),0,[],.none,.none,.none,.none,.none,.none,.none,0⟩,#[]⟩
def h55:Obj:=cdO "newline" 238 "_ValueFormatter.newline" 239 240 24 1 0 0 3 50 true 181 51 52 53 54 243 24 244
def h56:Obj:=fnBy (st:=(mAt 4 3)) (by k_extra "cw") (by k_extra "cw") (by k_extra "cw") fun sa sb sc=>⟨.type "function",.none,.func ⟨"newline","_ValueFormatter.newline",sa,.stmts sb,sc,3,[],.none,.none,.none,.str "cpy313.email.header" 194,.none,.ref 55,.none,0⟩,#[]⟩
def h59:Obj:=tp #[.str "self" 249]
noncomputable def h61:Obj:=⟨.none,.none,.func ⟨"add_transition","_ValueFormatter.add_transition",sArgs (mAt 4 4),.stmts (sBody (mAt 4 4)),sScope (mAt 4 4),0,[],.none,.none,.none,.none,.none,.none,.none,0⟩,#[]⟩
def h62:Obj:=cdO "add_transition" 246 "_ValueFormatter.add_transition" 247 248 35 1 0 0 3 57 true 181 58 59 60 61 250 35 251
def h63:Obj:=fnBy (st:=(mAt 4 4)) (by k_extra "cw") (by k_extra "cw") (by k_extra "cw") fun sa sb sc=>⟨.type "function",.none,.func ⟨"add_transition","_ValueFormatter.add_transition",sa,.stmts sb,sc,3,[],.none,.none,.none,.str "cpy313.email.header" 194,.none,.ref 62,.none,0⟩,#[]⟩
def h66:Obj:=tp #[.str "self" 256,.str "fws" 257,.str "string" 258,.str "charset" 259]
noncomputable def h68:Obj:=⟨.none,.none,.func ⟨"feed","_ValueFormatter.feed",sArgs (mAt 4 5),.stmts (sBody (mAt 4 5)),sScope (mAt 4 5),0,[],.none,.none,.none,.none,.none,.none,.none,0⟩,#[]⟩
def h69:Obj:=cdO "feed" 253 "_ValueFormatter.feed" 254 255 38 4 0 0 3 64 true 181 65 66 67 68 260 38 261
def h70:Obj:=fnBy (st:=(mAt 4 5)) (by k_extra "cw") (by k_extra "cw") (by k_extra "cw") fun sa sb sc=>⟨.type "function",.none,.func ⟨"feed","_ValueFormatter.feed",sa,.stmts sb,sc,3,[],.none,.none,.none,.str "cpy313.email.header" 194,.none,.ref 69,.none,0⟩,#[]⟩
def h73:Obj:=tp #[.str "self" 266]
noncomputable def h75:Obj:=⟨.none,.none,.func ⟨"_maxlengths","_ValueFormatter._maxlengths",sArgs (mAt 4 6),.stmts (sBody (mAt 4 6)),sScope (mAt 4 6),0,[],.none,.none,.none,.none,.none,.none,.none,0⟩,#[]⟩
def h76:Obj:=cdO "_maxlengths" 263 "_ValueFormatter._maxlengths" 264 265 41 1 0 0 3 71 true 181 72 73 74 75 267 41 268
def h77:Obj:=fnBy (st:=(mAt 4 6)) (by k_extra "cw") (by k_extra "cw") (by k_extra "cw") fun sa sb sc=>⟨.type "function",.none,.func ⟨"_maxlengths","_ValueFormatter._maxlengths",sa,.stmts sb,sc,3,[],.none,.none,.none,.str "cpy313.email.header" 194,.none,.ref 76,.none,0⟩,#[]⟩
def h80:Obj:=tp #[.str "self" 273,.str "fws" 274,.str "string" 275,.str "splitchars" 276]
noncomputable def h82:Obj:=⟨.none,.none,.func ⟨"_ascii_split","_ValueFormatter._ascii_split",sArgs (mAt 4 7),.stmts (sBody (mAt 4 7)),sScope (mAt 4 7),0,[],.none,.none,.none,.none,.none,.none,.none,0⟩,#[]⟩
def h83:Obj:=cdO "_ascii_split" 270 "_ValueFormatter._ascii_split" 271 272 44 4 0 0 3 78 true 181 79 80 81 82 277 44 278
def h84:Obj:=fnBy (st:=(mAt 4 7)) (by k_extra "cw") (by k_extra "cw") (by k_extra "cw") fun sa sb sc=>⟨.type "function",.none,.func ⟨"_ascii_split","_ValueFormatter._ascii_split",sa,.stmts sb,sc,3,[],.none,.none,.none,.str "cpy313.email.header" 194,.none,.ref 83,.none,0⟩,#[]⟩
def h87:Obj:=tp #[.str "self" 283,.str "fws" 284,.str "string" 285,.str "ch" 286,.str "i" 287,.str "prevpart" 288,.str "part" 289,.str "remainder" 290]
noncomputable def h89:Obj:=⟨.none,.none,.func ⟨"_append_chunk","_ValueFormatter._append_chunk",sArgs (mAt 4 8),.stmts (sBody (mAt 4 8)),sScope (mAt 4 8),0,[],.none,.none,.none,.none,.none,.none,.none,0⟩,#[]⟩
def h90:Obj:=cdO "_append_chunk" 280 "_ValueFormatter._append_chunk" 281 282 47 3 0 0 3 85 true 181 86 87 88 89 291 47 292
def h91:Obj:=fnBy (st:=(mAt 4 8)) (by k_extra "cw") (by k_extra "cw") (by k_extra "cw") fun sa sb sc=>⟨.type "function",.none,.func ⟨"_append_chunk","_ValueFormatter._append_chunk",sa,.stmts sb,sc,3,[],.none,.none,.none,.str "cpy313.email.header" 194,.none,.ref 90,.none,0⟩,#[]⟩
def h92:Obj:=tp #[.str "_continuation_ws" 294,.str "_continuation_ws_len" 295,.str "_current_line" 296,.str "_lines" 297,.str "_maxlen" 298,.str "_splitchars" 299]
def h93 (P:Params):Obj:=⟨.type "dict",.none,.dict #[kd P "__module__" 207 (.str "cpy313.email.header" 194),kd P "__firstlineno__" 211 (.int 7 210),kd P "__init__" 222 (.ref 35),kd P "_str" 230 (.ref 42),kd P "__str__" 237 (.ref 49),kd P "newline" 245 (.ref 56),kd P "add_transition" 252 (.ref 63),kd P "feed" 262 (.ref 70),kd P "_maxlengths" 269 (.ref 77),kd P "_ascii_split" 279 (.ref 84),kd P "_append_chunk" 293 (.ref 91),kd P "__static_attributes__" 300 (.ref 92),kd P "__dict__" 302 (.ref 95),kd P "__weakref__" 304 (.ref 96),kd P "__doc__" 305 .none] 4,#[]⟩
noncomputable def h94:Obj:=⟨.type "type",.none,.cls ⟨"_ValueFormatter",[.type "object"],[.ref 94,.type "object"],93,"_ValueFormatter",true,[],[],false,.none,false⟩,#[.none,.none,.some (.str "_ValueFormatter" 200),.some (.str "_ValueFormatter" 208),.some (.builtin "object.__new__"),.some (.bool true)]⟩
noncomputable def h95:Obj:=⟨.type "getset_descriptor",.none,.fields #[.str "__dict__" 301,.ref 94,.builtin "function.__dict__",.builtin "function.__dict__#set"],#[]⟩
noncomputable def h96:Obj:=⟨.type "getset_descriptor",.none,.fields #[.str "__weakref__" 303,.ref 94,.builtin "ExceptionGroup.__weakref__",.none],#[]⟩
noncomputable def h97:Obj:=⟨.type "super",.none,.fields #[.ref 94,.ref 94,.ref 94],#[]⟩
noncomputable def h98:Obj:=⟨.type "builtin_function_or_method",.none,.fields #[.builtin "object.__init_subclass__",.ref 94],#[]⟩
def h3v3 (P:Params):Obj:=⟨.type "dict",.none,.dict #[kd P "__name__" 165 (.str "cpy313.stringprep" 404),kd P "__doc__" 166 .none,kd P "__package__" 167 .none,kd P "__loader__" 168 (.builtin "__main__.__loader__#opaque"),kd P "__spec__" 169 .none,kd P "__annotations__" 170 (.ref 6),kd P "__builtins__" 171 (.ref 4),kd P "__file__" 173 (.str "/claim/cut.py" 172),kd P "__cached__" 174 .none,kd P "_wall" 193 (.ref 21),kd P "NL" 197 (.str "\n" 196), kd P "EMPTYSTRING" 199 (.str "" 198), kd P "_ValueFormatter" 307 (.ref 94), kd P "_Accumulator" 403 (.ref 178)] 14,#[]⟩
noncomputable def h12v3:Obj:=⟨.none,.none,.fields #[.int 1 0,.int 0 0,.ref 20,.int 7 0,.int 0 0,.ref 27,.int 73 0,.int 0 0,.ref 105],#[]⟩
def h99:Obj:=tp #[.type "list"]
def h101 (P:Params):Obj:=⟨.type "dict",.none,.dict #[kd P "__module__" 315 (.str "cpy313.email.header" 194),kd P "__qualname__" 317 (.str "_Accumulator" 316),kd P "__firstlineno__" 319 (.int 73 318),kd P "__init__" 329 (.ref 115),kd P "push" 338 (.ref 122),kd P "pop_from" 348 (.ref 130),kd P "pop" 356 (.ref 138),kd P "__len__" 363 (.ref 145),kd P "__str__" 370 (.ref 152),kd P "reset" 378 (.ref 160),kd P "is_onlyws" 385 (.ref 167),kd P "part_count" 393 (.ref 175),kd P "__static_attributes__" 395 (.ref 176),kd P "__classcell__" 396 (.ref 102)] 14,#[]⟩
noncomputable def h102:Obj:=⟨.type "cell",.none,.cell (.some (.ref 178)),#[]⟩
noncomputable def h104:Obj:=⟨.none,.none,.fields #[.int 75 0,.int 4 0,.ref 114,.int 79 0,.int 4 0,.ref 121,.int 82 0,.int 4 0,.ref 129,.int 87 0,.int 4 0,.ref 137,.int 92 0,.int 4 0,.ref 144,.int 95 0,.int 4 0,.ref 151,.int 98 0,.int 4 0,.ref 159,.int 104 0,.int 4 0,.ref 166,.int 107 0,.int 4 0,.ref 174],#[]⟩
noncomputable def h105:Obj:=⟨.type "code",.none,.fields #[.str "_Accumulator" 310,.str "_Accumulator" 311,.str "/claim/cut.py" 312,.int 73 0,.int 0 0,.int 0 0,.int 0 0,.int 0 0,.ref 103,.bool false,.int 181 0,.ref 104,.none,.none,.none,.none,.int 313 0,.int 73 0,.str "/claim/cut.py" 314],#[]⟩
noncomputable def h106:Obj:=⟨.type "frame",.none,.plain,#[.some (.ref 105),.some (.ref 3),.some (.ref 101),.none,.some (.str "cpy313.email.header" 194),.none,.some (.ref 0)]⟩
def h107:Obj:=tp #[.int 0 320]
def h108:Obj:=tp #[.ref 102]
def h109:Obj:=tp #[.str "__class__" 324]
def h111:Obj:=tp #[.str "self" 325,.str "initial_size" 326]
noncomputable def h113:Obj:=⟨.none,.none,.func ⟨"__init__","_Accumulator.__init__",sArgs (mAt 5 0),.stmts (sBody (mAt 5 0)),sScope (mAt 5 0),0,[],.none,.none,.none,.none,.none,.none,.none,0⟩,#[]⟩
def h114:Obj:=cdO "__init__" 321 "_Accumulator.__init__" 322 323 75 2 0 0 3 109 true 181 110 111 112 113 327 75 328
def h115:Obj:=fnBy (st:=(mAt 5 0)) (by k_extra "cw") (by k_extra "cw") (by k_extra "cw") fun sa sb sc=>⟨.type "function",.none,.func ⟨"__init__","_Accumulator.__init__",sa,.stmts sb,sc,3,[⟨"__class__",102⟩],.ref 107,.none,.none,.str "cpy313.email.header" 194,.none,.ref 114,.ref 108,0⟩,#[]⟩
def h118:Obj:=tp #[.str "self" 333,.str "fws" 334,.str "string" 335]
noncomputable def h120:Obj:=⟨.none,.none,.func ⟨"push","_Accumulator.push",sArgs (mAt 5 1),.stmts (sBody (mAt 5 1)),sScope (mAt 5 1),0,[],.none,.none,.none,.none,.none,.none,.none,0⟩,#[]⟩
def h121:Obj:=cdO "push" 330 "_Accumulator.push" 331 332 79 3 0 0 3 116 true 181 117 118 119 120 336 79 337
def h122:Obj:=fnBy (st:=(mAt 5 1)) (by k_extra "cw") (by k_extra "cw") (by k_extra "cw") fun sa sb sc=>⟨.type "function",.none,.func ⟨"push","_Accumulator.push",sa,.stmts sb,sc,3,[],.none,.none,.none,.str "cpy313.email.header" 194,.none,.ref 121,.none,0⟩,#[]⟩
def h123:Obj:=tp #[.int 0 339]
def h126:Obj:=tp #[.str "self" 343,.str "i" 344,.str "popped" 345]
noncomputable def h128:Obj:=⟨.none,.none,.func ⟨"pop_from","_Accumulator.pop_from",sArgs (mAt 5 2),.stmts (sBody (mAt 5 2)),sScope (mAt 5 2),0,[],.none,.none,.none,.none,.none,.none,.none,0⟩,#[]⟩
def h129:Obj:=cdO "pop_from" 340 "_Accumulator.pop_from" 341 342 82 2 0 0 3 124 true 181 125 126 127 128 346 82 347
def h130:Obj:=fnBy (st:=(mAt 5 2)) (by k_extra "cw") (by k_extra "cw") (by k_extra "cw") fun sa sb sc=>⟨.type "function",.none,.func ⟨"pop_from","_Accumulator.pop_from",sa,.stmts sb,sc,3,[],.ref 123,.none,.none,.str "cpy313.email.header" 194,.none,.ref 129,.none,0⟩,#[]⟩
def h132:Obj:=tp #[.str "__class__" 352]
def h134:Obj:=tp #[.str "self" 353]
noncomputable def h136:Obj:=⟨.none,.none,.func ⟨"pop","_Accumulator.pop",sArgs (mAt 5 3),.stmts (sBody (mAt 5 3)),sScope (mAt 5 3),0,[],.none,.none,.none,.none,.none,.none,.none,0⟩,#[]⟩
def h137:Obj:=cdO "pop" 349 "_Accumulator.pop" 350 351 87 1 0 0 3 132 true 181 133 134 135 136 354 87 355
def h138:Obj:=fnBy (st:=(mAt 5 3)) (by k_extra "cw") (by k_extra "cw") (by k_extra "cw") fun sa sb sc=>⟨.type "function",.none,.func ⟨"pop","_Accumulator.pop",sa,.stmts sb,sc,3,[⟨"__class__",102⟩],.none,.none,.none,.str "cpy313.email.header" 194,.none,.ref 137,.ref 131,0⟩,#[]⟩
def h141:Obj:=tp #[.str "self" 360]
noncomputable def h143:Obj:=⟨.none,.none,.func ⟨"__len__","_Accumulator.__len__",sArgs (mAt 5 4),.stmts (sBody (mAt 5 4)),sScope (mAt 5 4),0,[],.none,.none,.none,.none,.none,.none,.none,0⟩,#[]⟩
def h144:Obj:=cdO "__len__" 357 "_Accumulator.__len__" 358 359 92 1 0 0 3 139 true 181 140 141 142 143 361 92 362
def h145:Obj:=fnBy (st:=(mAt 5 4)) (by k_extra "cw") (by k_extra "cw") (by k_extra "cw") fun sa sb sc=>⟨.type "function",.none,.func ⟨"__len__","_Accumulator.__len__",sa,.stmts sb,sc,3,[],.none,.none,.none,.str "cpy313.email.header" 194,.none,.ref 144,.none,0⟩,#[]⟩
def h148:Obj:=tp #[.str "self" 367]
noncomputable def h150:Obj:=⟨.none,.none,.func ⟨"__str__","_Accumulator.__str__",sArgs (mAt 5 5),.stmts (sBody (mAt 5 5)),sScope (mAt 5 5),0,[],.none,.none,.none,.none,.none,.none,.none,0⟩,#[]⟩
def h151:Obj:=cdO "__str__" 364 "_Accumulator.__str__" 365 366 95 1 0 0 3 146 true 181 147 148 149 150 368 95 369
def h152:Obj:=fnBy (st:=(mAt 5 5)) (by k_extra "cw") (by k_extra "cw") (by k_extra "cw") fun sa sb sc=>⟨.type "function",.none,.func ⟨"__str__","_Accumulator.__str__",sa,.stmts sb,sc,3,[],.none,.none,.none,.str "cpy313.email.header" 194,.none,.ref 151,.none,0⟩,#[]⟩
def h153:Obj:=tp #[.none]
def h156:Obj:=tp #[.str "self" 374,.str "startval" 375]
noncomputable def h158:Obj:=⟨.none,.none,.func ⟨"reset","_Accumulator.reset",sArgs (mAt 5 6),.stmts (sBody (mAt 5 6)),sScope (mAt 5 6),0,[],.none,.none,.none,.none,.none,.none,.none,0⟩,#[]⟩
def h159:Obj:=cdO "reset" 371 "_Accumulator.reset" 372 373 98 2 0 0 3 154 true 181 155 156 157 158 376 98 377
def h160:Obj:=fnBy (st:=(mAt 5 6)) (by k_extra "cw") (by k_extra "cw") (by k_extra "cw") fun sa sb sc=>⟨.type "function",.none,.func ⟨"reset","_Accumulator.reset",sa,.stmts sb,sc,3,[],.ref 153,.none,.none,.str "cpy313.email.header" 194,.none,.ref 159,.none,0⟩,#[]⟩
def h163:Obj:=tp #[.str "self" 382]
noncomputable def h165:Obj:=⟨.none,.none,.func ⟨"is_onlyws","_Accumulator.is_onlyws",sArgs (mAt 5 7),.stmts (sBody (mAt 5 7)),sScope (mAt 5 7),0,[],.none,.none,.none,.none,.none,.none,.none,0⟩,#[]⟩
def h166:Obj:=cdO "is_onlyws" 379 "_Accumulator.is_onlyws" 380 381 104 1 0 0 3 161 true 181 162 163 164 165 383 104 384
def h167:Obj:=fnBy (st:=(mAt 5 7)) (by k_extra "cw") (by k_extra "cw") (by k_extra "cw") fun sa sb sc=>⟨.type "function",.none,.func ⟨"is_onlyws","_Accumulator.is_onlyws",sa,.stmts sb,sc,3,[],.none,.none,.none,.str "cpy313.email.header" 194,.none,.ref 166,.none,0⟩,#[]⟩
def h169:Obj:=tp #[.str "__class__" 389]
def h171:Obj:=tp #[.str "self" 390]
noncomputable def h173:Obj:=⟨.none,.none,.func ⟨"part_count","_Accumulator.part_count",sArgs (mAt 5 8),.stmts (sBody (mAt 5 8)),sScope (mAt 5 8),0,[],.none,.none,.none,.none,.none,.none,.none,0⟩,#[]⟩
def h174:Obj:=cdO "part_count" 386 "_Accumulator.part_count" 387 388 107 1 0 0 3 169 true 181 170 171 172 173 391 107 392
def h175:Obj:=fnBy (st:=(mAt 5 8)) (by k_extra "cw") (by k_extra "cw") (by k_extra "cw") fun sa sb sc=>⟨.type "function",.none,.func ⟨"part_count","_Accumulator.part_count",sa,.stmts sb,sc,3,[⟨"__class__",102⟩],.none,.none,.none,.str "cpy313.email.header" 194,.none,.ref 174,.ref 168,0⟩,#[]⟩
def h176:Obj:=tp #[.str "_initial_size" 394]
def h177 (P:Params):Obj:=⟨.type "dict",.none,.dict #[kd P "__module__" 315 (.str "cpy313.email.header" 194),kd P "__firstlineno__" 319 (.int 73 318),kd P "__init__" 329 (.ref 115),kd P "push" 338 (.ref 122),kd P "pop_from" 348 (.ref 130),kd P "pop" 356 (.ref 138),kd P "__len__" 363 (.ref 145),kd P "__str__" 370 (.ref 152),kd P "reset" 378 (.ref 160),kd P "is_onlyws" 385 (.ref 167),kd P "part_count" 393 (.ref 175),kd P "__static_attributes__" 395 (.ref 176),kd P "__dict__" 398 (.ref 179),kd P "__weakref__" 400 (.ref 180),kd P "__doc__" 401 .none] 5,#[]⟩
noncomputable def h178:Obj:=⟨.type "type",.none,.cls ⟨"_Accumulator",[.type "list"],[.ref 178,.type "list",.type "object"],177,"_Accumulator",true,[],[],false,.none,false⟩,#[.some (.ref 99),.none,.some (.str "_Accumulator" 308),.some (.str "_Accumulator" 316),.some (.builtin "list.__new__"),.some (.bool true)]⟩
noncomputable def h179:Obj:=⟨.type "getset_descriptor",.none,.fields #[.str "__dict__" 397,.ref 178,.builtin "function.__dict__",.builtin "function.__dict__#set"],#[]⟩
noncomputable def h180:Obj:=⟨.type "getset_descriptor",.none,.fields #[.str "__weakref__" 399,.ref 178,.builtin "ExceptionGroup.__weakref__",.none],#[]⟩
noncomputable def h181:Obj:=⟨.type "super",.none,.fields #[.ref 178,.ref 178,.ref 178],#[]⟩
noncomputable def h182:Obj:=⟨.type "builtin_function_or_method",.none,.fields #[.builtin "object.__init_subclass__",.ref 178],#[]⟩
def h3v4 (P:Params):Obj:=⟨.type "dict",.none,.dict #[kd P "__name__" 165 (.str "cpy313.stringprep" 404),kd P "__doc__" 166 .none,kd P "__package__" 167 .none,kd P "__loader__" 168 (.builtin "__main__.__loader__#opaque"),kd P "__spec__" 169 .none,kd P "__annotations__" 170 (.ref 6),kd P "__builtins__" 171 (.ref 4),kd P "__file__" 173 (.str "/claim/cut.py" 172),kd P "__cached__" 174 .none,kd P "_wall" 193 (.ref 21),kd P "NL" 197 (.str "\n" 196), kd P "EMPTYSTRING" 199 (.str "" 198), kd P "_ValueFormatter" 307 (.ref 94), kd P "_Accumulator" 403 (.ref 178), kd P "b1_set" 465 (.ref 190)] 15,#[]⟩
noncomputable def h183:Obj:=⟨.type "list",.none,.seq #[.int 173 406,.int 847 407,.int 6150 408,.int 6155 409,.int 6156 410,.int 6157 411,.int 8203 412,.int 8204 413,.int 8205 414,.int 8288 415,.int 65279 416] 0,#[]⟩
noncomputable def h184:Obj:=⟨.type "range",.none,.fields #[.int 65024 417,.int 65040 418,.int 1 419],#[]⟩
noncomputable def h185:Obj:=⟨.type "list",.none,.seq #[.int 65024 422,.int 65025 423,.int 65026 424,.int 65027 425,.int 65028 426,.int 65029 427,.int 65030 428,.int 65031 429,.int 65032 430,.int 65033 431,.int 65034 432,.int 65035 433,.int 65036 434,.int 65037 435,.int 65038 436,.int 65039 437] 18,#[]⟩
noncomputable def h186:Obj:=⟨.type "range_iterator",.none,.fields #[.int 65040 0,.int 0 0,.int 1 0],#[]⟩
noncomputable def h188:Obj:=⟨.type "StopIteration",.none,.fields #[.ref 187,.none,.none,.none,.bool false,.none],#[]⟩
noncomputable def h189:Obj:=⟨.type "list",.none,.seq #[.int 173 406,.int 847 407,.int 6150 408,.int 6155 409,.int 6156 410,.int 6157 411,.int 8203 412,.int 8204 413,.int 8205 414,.int 8288 415,.int 65279 416,.int 65024 422,.int 65025 423,.int 65026 424,.int 65027 425,.int 65028 426,.int 65029 427,.int 65030 428,.int 65031 429,.int 65032 430,.int 65033 431,.int 65034 432,.int 65035 433,.int 65036 434,.int 65037 435,.int 65038 436,.int 65039 437] 0,#[]⟩
noncomputable def h190 (P:Params):Obj:=⟨.type "set",.none,.set #[⟨65024,.int 65024 422⟩,⟨65025,.int 65025 423⟩,⟨65026,.int 65026 424⟩,⟨65027,.int 65027 425⟩,⟨65028,.int 65028 426⟩,⟨65029,.int 65029 427⟩,⟨6150,.int 6150 408⟩,⟨65030,.int 65030 428⟩,⟨65031,.int 65031 429⟩,⟨65032,.int 65032 430⟩,⟨65033,.int 65033 431⟩,⟨6155,.int 6155 409⟩,⟨6156,.int 6156 410⟩,⟨6157,.int 6157 411⟩,⟨8203,.int 8203 412⟩,⟨8204,.int 8204 413⟩,⟨8205,.int 8205 414⟩,⟨65034,.int 65034 432⟩,⟨65035,.int 65035 433⟩,⟨65036,.int 65036 434⟩,⟨65037,.int 65037 435⟩,⟨65038,.int 65038 436⟩,⟨65039,.int 65039 437⟩,⟨173,.int 173 406⟩,⟨847,.int 847 407⟩,⟨8288,.int 8288 415⟩,⟨65279,.int 65279 416⟩] 29 ⟨127,#[0,1,2,3,4,5,6,7,8,9,10,11,12,13,14,15,16,17,18,19,20,21,22,45,79,96,127],#[],0,(!P.followText "set-order"),2,true⟩,#[]⟩
noncomputable def h191:Obj:=⟨.type "list_iterator",.none,.fields #[.none,.int 27 0],#[]⟩
noncomputable def h193:Obj:=⟨.type "StopIteration",.none,.fields #[.ref 192,.none,.none,.none,.bool false,.none],#[]⟩
def h3v5 (P:Params):Obj:=⟨.type "dict",.none,.dict #[kd P "__name__" 165 (.str "cpy313.stringprep" 404),kd P "__doc__" 166 .none,kd P "__package__" 167 .none,kd P "__loader__" 168 (.builtin "__main__.__loader__#opaque"),kd P "__spec__" 169 .none,kd P "__annotations__" 170 (.ref 6),kd P "__builtins__" 171 (.ref 4),kd P "__file__" 173 (.str "/claim/cut.py" 172),kd P "__cached__" 174 .none,kd P "_wall" 193 (.ref 21),kd P "NL" 197 (.str "\n" 196), kd P "EMPTYSTRING" 199 (.str "" 198), kd P "_ValueFormatter" 307 (.ref 94), kd P "_Accumulator" 403 (.ref 178), kd P "b1_set" 465 (.ref 190), kd P "in_table_b1" 472 (.ref 200)] 16,#[]⟩
noncomputable def h12v4:Obj:=⟨.none,.none,.fields #[.int 1 0,.int 0 0,.ref 20,.int 7 0,.int 0 0,.ref 27,.int 73 0,.int 0 0,.ref 105,.int 111 0,.int 0 0,.ref 199],#[]⟩
def h196:Obj:=tp #[.str "code" 469]
noncomputable def h198:Obj:=⟨.none,.none,.func ⟨"in_table_b1","in_table_b1",sArgs (dAt 8),.stmts (sBody (dAt 8)),sScope (dAt 8),0,[],.none,.none,.none,.none,.none,.none,.none,0⟩,#[]⟩
def h199:Obj:=cdO "in_table_b1" 466 "in_table_b1" 467 468 111 1 0 0 3 194 true 181 195 196 197 198 470 111 471
def h200:Obj:=fnBy (st:=(dAt 8)) (by k_extra "cw") (by k_extra "cw") (by k_extra "cw") fun sa sb sc=>⟨.type "function",.none,.func ⟨"in_table_b1","in_table_b1",sa,.stmts sb,sc,3,[],.none,.none,.none,.str "cpy313.stringprep" 404,.none,.ref 199,.none,0⟩,#[]⟩
def h3v6 (P:Params):Obj:=⟨.type "dict",.none,.dict #[kd P "__name__" 165 (.str "cpy313.stringprep" 404),kd P "__doc__" 166 .none,kd P "__package__" 167 .none,kd P "__loader__" 168 (.builtin "__main__.__loader__#opaque"),kd P "__spec__" 169 .none,kd P "__annotations__" 170 (.ref 6),kd P "__builtins__" 171 (.ref 4),kd P "__file__" 173 (.str "/claim/cut.py" 172),kd P "__cached__" 174 .none,kd P "_wall" 193 (.ref 21),kd P "NL" 197 (.str "\n" 196), kd P "EMPTYSTRING" 199 (.str "" 198), kd P "_ValueFormatter" 307 (.ref 94), kd P "_Accumulator" 403 (.ref 178), kd P "b1_set" 465 (.ref 190), kd P "in_table_b1" 472 (.ref 200), kd P "b3_exceptions" 2423 (.ref 201)] 17,#[]⟩
def h201:Obj:=dictO b3Ents
def h202:Obj:=dictO (b3Chunk 1)
def h203:Obj:=dictO (b3Chunk 2)
def h204:Obj:=dictO (b3Chunk 3)
def h205:Obj:=dictO (b3Chunk 4)
def h206:Obj:=dictO (b3Chunk 5)
def h207:Obj:=dictO (b3Chunk 6)
def h208:Obj:=dictO (b3Chunk 7)
def h209:Obj:=dictO (b3Chunk 8)
def h210:Obj:=dictO (b3Chunk 9)
def h211:Obj:=dictO (b3Chunk 10)
def h212:Obj:=dictO (b3Chunk 11)
def h213:Obj:=dictO (b3Chunk 12)
def h214:Obj:=dictO (b3Chunk 13)
def h215:Obj:=dictO (b3Chunk 14)
def h216:Obj:=dictO (b3Chunk 15)
def h217:Obj:=dictO (b3Chunk 16)
def h218:Obj:=dictO (b3Chunk 17)
def h219:Obj:=dictO (b3Chunk 18)
def h220:Obj:=dictO (b3Chunk 19)
def h221:Obj:=dictO (b3Chunk 20)
def h222:Obj:=dictO (b3Chunk 21)
def h223:Obj:=dictO (b3Chunk 22)
def h224:Obj:=dictO (b3Chunk 23)
def h225:Obj:=dictO (b3Chunk 24)
def h226:Obj:=dictO (b3Chunk 25)
def h227:Obj:=dictO (b3Chunk 26)
def h228:Obj:=dictO (b3Chunk 27)
def h229:Obj:=dictO (b3Chunk 28)
def h230:Obj:=dictO (b3Chunk 29)
def h231:Obj:=dictO (b3Chunk 30)
def h232:Obj:=dictO (b3Chunk 31)
def h233:Obj:=dictO (b3Chunk 32)
def h234:Obj:=dictO (b3Chunk 33)
def h235:Obj:=dictO (b3Chunk 34)
def h236:Obj:=dictO (b3Chunk 35)
def h237:Obj:=dictO (b3Chunk 36)
def h238:Obj:=dictO (b3Chunk 37)
def h239:Obj:=dictO (b3Chunk 38)
def h3v7 (P:Params):Obj:=⟨.type "dict",.none,.dict #[kd P "__name__" 165 (.str "cpy313.tabnanny" 2439),kd P "__doc__" 166 .none,kd P "__package__" 167 .none,kd P "__loader__" 168 (.builtin "__main__.__loader__#opaque"),kd P "__spec__" 169 .none,kd P "__annotations__" 170 (.ref 6),kd P "__builtins__" 171 (.ref 4),kd P "__file__" 173 (.str "/claim/cut.py" 172),kd P "__cached__" 174 .none,kd P "_wall" 193 (.ref 21),kd P "NL" 197 (.str "\n" 196), kd P "EMPTYSTRING" 199 (.str "" 198), kd P "_ValueFormatter" 307 (.ref 94), kd P "_Accumulator" 403 (.ref 178), kd P "b1_set" 465 (.ref 190), kd P "in_table_b1" 472 (.ref 200), kd P "b3_exceptions" 2423 (.ref 201), kd P "map_table_b3" 2431 (.ref 246), kd P "in_table_c11" 2438 (.ref 253), kd P "Whitespace" 2546 (.ref 315)] 20,#[]⟩
noncomputable def h12v5:Obj:=⟨.none,.none,.fields #[.int 1 0,.int 0 0,.ref 20,.int 7 0,.int 0 0,.ref 27,.int 73 0,.int 0 0,.ref 105,.int 111 0,.int 0 0,.ref 199,.int 114 0,.int 0 0,.ref 245,.int 119 0,.int 0 0,.ref 252,.int 122 0,.int 0 0,.ref 259],#[]⟩
def h242:Obj:=tp #[.str "code" 2427,.str "r" 2428]
noncomputable def h244:Obj:=⟨.none,.none,.func ⟨"map_table_b3","map_table_b3",sArgs (dAt 10),.stmts (sBody (dAt 10)),sScope (dAt 10),0,[],.none,.none,.none,.none,.none,.none,.none,0⟩,#[]⟩
def h245:Obj:=cdO "map_table_b3" 2424 "map_table_b3" 2425 2426 114 1 0 0 3 240 true 181 241 242 243 244 2429 114 2430
def h246:Obj:=fnBy (st:=(dAt 10)) (by k_extra "cw") (by k_extra "cw") (by k_extra "cw") fun sa sb sc=>⟨.type "function",.none,.func ⟨"map_table_b3","map_table_b3",sa,.stmts sb,sc,3,[],.none,.none,.none,.str "cpy313.stringprep" 404,.none,.ref 245,.none,0⟩,#[]⟩
def h249:Obj:=tp #[.str "code" 2435]
noncomputable def h251:Obj:=⟨.none,.none,.func ⟨"in_table_c11","in_table_c11",sArgs (dAt 11),.stmts (sBody (dAt 11)),sScope (dAt 11),0,[],.none,.none,.none,.none,.none,.none,.none,0⟩,#[]⟩
def h252:Obj:=cdO "in_table_c11" 2432 "in_table_c11" 2433 2434 119 1 0 0 3 247 true 181 248 249 250 251 2436 119 2437
def h253:Obj:=fnBy (st:=(dAt 11)) (by k_extra "cw") (by k_extra "cw") (by k_extra "cw") fun sa sb sc=>⟨.type "function",.none,.func ⟨"in_table_c11","in_table_c11",sa,.stmts sb,sc,3,[],.none,.none,.none,.str "cpy313.stringprep" 404,.none,.ref 252,.none,0⟩,#[]⟩
def h256 (P:Params):Obj:=⟨.type "dict",.none,.dict #[kd P "__module__" 2448 (.str "cpy313.tabnanny" 2439),kd P "__qualname__" 2450 (.str "Whitespace" 2449),kd P "__firstlineno__" 2452 (.int 122 2451),kd P "S" 2456 (.str " " 2454),kd P "T" 2457 (.str "\t" 2455), kd P "__init__" 2472 (.ref 270), kd P "longest_run_of_spaces" 2481 (.ref 277), kd P "indent_level" 2493 (.ref 284), kd P "equal" 2501 (.ref 291), kd P "not_equal_witness" 2512 (.ref 298), kd P "less" 2522 (.ref 305), kd P "not_less_witness" 2533 (.ref 312), kd P "__static_attributes__" 2539 (.ref 313)] 13,#[]⟩
noncomputable def h258:Obj:=⟨.none,.none,.fields #[.int 125 0,.int 4 0,.ref 269,.int 148 0,.int 4 0,.ref 276,.int 152 0,.int 4 0,.ref 283,.int 159 0,.int 4 0,.ref 290,.int 162 0,.int 4 0,.ref 297,.int 170 0,.int 4 0,.ref 304,.int 181 0,.int 4 0,.ref 311],#[]⟩
noncomputable def h259:Obj:=⟨.type "code",.none,.fields #[.str "Whitespace" 2443,.str "Whitespace" 2444,.str "/claim/cut.py" 2445,.int 122 0,.int 0 0,.int 0 0,.int 0 0,.int 0 0,.ref 257,.bool false,.int 181 0,.ref 258,.none,.none,.none,.none,.int 2446 0,.int 122 0,.str "/claim/cut.py" 2447],#[]⟩
noncomputable def h260:Obj:=⟨.type "frame",.none,.plain,#[.some (.ref 259),.some (.ref 3),.some (.ref 256),.none,.some (.str "cpy313.tabnanny" 2439),.none,.some (.ref 0)]⟩
noncomputable def h261:Obj:=⟨.type "str_ascii_iterator",.none,.fields #[.none,.int 2 0],#[]⟩
noncomputable def h263:Obj:=⟨.type "StopIteration",.none,.fields #[.ref 262,.none,.none,.none,.bool false,.none],#[]⟩
def h266:Obj:=tp #[.str "self" 2461,.str "ws" 2462,.str "S" 2463,.str "T" 2464,.str "count" 2465,.str "b" 2466,.str "n" 2467,.str "nt" 2468,.str "ch" 2469]
noncomputable def h268:Obj:=⟨.none,.none,.func ⟨"__init__","Whitespace.__init__",sArgs (mAt 13 1),.stmts (sBody (mAt 13 1)),sScope (mAt 13 1),0,[],.none,.none,.none,.none,.none,.none,.none,0⟩,#[]⟩
def h269:Obj:=cdO "__init__" 2458 "Whitespace.__init__" 2459 2460 125 2 0 0 3 264 true 181 265 266 267 268 2470 125 2471
def h270:Obj:=fnBy (st:=(mAt 13 1)) (by k_extra "cw") (by k_extra "cw") (by k_extra "cw") fun sa sb sc=>⟨.type "function",.none,.func ⟨"__init__","Whitespace.__init__",sa,.stmts sb,sc,3,[],.none,.none,.none,.str "cpy313.tabnanny" 2439,.none,.ref 269,.none,0⟩,#[]⟩
def h273:Obj:=tp #[.str "self" 2476,.str "count" 2477,.str "trailing" 2478]
noncomputable def h275:Obj:=⟨.none,.none,.func ⟨"longest_run_of_spaces","Whitespace.longest_run_of_spaces",sArgs (mAt 13 2),.stmts (sBody (mAt 13 2)),sScope (mAt 13 2),0,[],.none,.none,.none,.none,.none,.none,.none,0⟩,#[]⟩
def h276:Obj:=cdO "longest_run_of_spaces" 2473 "Whitespace.longest_run_of_spaces" 2474 2475 148 1 0 0 3 271 true 181 272 273 274 275 2479 148 2480
def h277:Obj:=fnBy (st:=(mAt 13 2)) (by k_extra "cw") (by k_extra "cw") (by k_extra "cw") fun sa sb sc=>⟨.type "function",.none,.func ⟨"longest_run_of_spaces","Whitespace.longest_run_of_spaces",sa,.stmts sb,sc,3,[],.none,.none,.none,.str "cpy313.tabnanny" 2439,.none,.ref 276,.none,0⟩,#[]⟩
def h280:Obj:=tp #[.str "self" 2485,.str "tabsize" 2486,.str "count" 2487,.str "trailing" 2488,.str "il" 2489,.str "i" 2490]
noncomputable def h282:Obj:=⟨.none,.none,.func ⟨"indent_level","Whitespace.indent_level",sArgs (mAt 13 3),.stmts (sBody (mAt 13 3)),sScope (mAt 13 3),0,[],.none,.none,.none,.none,.none,.none,.none,0⟩,#[]⟩
def h283:Obj:=cdO "indent_level" 2482 "Whitespace.indent_level" 2483 2484 152 2 0 0 3 278 true 181 279 280 281 282 2491 152 2492
def h284:Obj:=fnBy (st:=(mAt 13 3)) (by k_extra "cw") (by k_extra "cw") (by k_extra "cw") fun sa sb sc=>⟨.type "function",.none,.func ⟨"indent_level","Whitespace.indent_level",sa,.stmts sb,sc,3,[],.none,.none,.none,.str "cpy313.tabnanny" 2439,.none,.ref 283,.none,0⟩,#[]⟩
def h287:Obj:=tp #[.str "self" 2497,.str "other" 2498]
noncomputable def h289:Obj:=⟨.none,.none,.func ⟨"equal","Whitespace.equal",sArgs (mAt 13 4),.stmts (sBody (mAt 13 4)),sScope (mAt 13 4),0,[],.none,.none,.none,.none,.none,.none,.none,0⟩,#[]⟩
def h290:Obj:=cdO "equal" 2494 "Whitespace.equal" 2495 2496 159 2 0 0 3 285 true 181 286 287 288 289 2499 159 2500
def h291:Obj:=fnBy (st:=(mAt 13 4)) (by k_extra "cw") (by k_extra "cw") (by k_extra "cw") fun sa sb sc=>⟨.type "function",.none,.func ⟨"equal","Whitespace.equal",sa,.stmts sb,sc,3,[],.none,.none,.none,.str "cpy313.tabnanny" 2439,.none,.ref 290,.none,0⟩,#[]⟩
def h294:Obj:=tp #[.str "self" 2505,.str "other" 2506,.str "n" 2507,.str "a" 2508,.str "ts" 2509]
noncomputable def h296:Obj:=⟨.none,.none,.func ⟨"not_equal_witness","Whitespace.not_equal_witness",sArgs (mAt 13 5),.stmts (sBody (mAt 13 5)),sScope (mAt 13 5),0,[],.none,.none,.none,.none,.none,.none,.none,0⟩,#[]⟩
def h297:Obj:=cdO "not_equal_witness" 2502 "Whitespace.not_equal_witness" 2503 2504 162 2 0 0 3 292 true 181 293 294 295 296 2510 162 2511
def h298:Obj:=fnBy (st:=(mAt 13 5)) (by k_extra "cw") (by k_extra "cw") (by k_extra "cw") fun sa sb sc=>⟨.type "function",.none,.func ⟨"not_equal_witness","Whitespace.not_equal_witness",sa,.stmts sb,sc,3,[],.none,.none,.none,.str "cpy313.tabnanny" 2439,.none,.ref 297,.none,0⟩,#[]⟩
def h301:Obj:=tp #[.str "self" 2516,.str "other" 2517,.str "n" 2518,.str "ts" 2519]
noncomputable def h303:Obj:=⟨.none,.none,.func ⟨"less","Whitespace.less",sArgs (mAt 13 6),.stmts (sBody (mAt 13 6)),sScope (mAt 13 6),0,[],.none,.none,.none,.none,.none,.none,.none,0⟩,#[]⟩
def h304:Obj:=cdO "less" 2513 "Whitespace.less" 2514 2515 170 2 0 0 3 299 true 181 300 301 302 303 2520 170 2521
def h305:Obj:=fnBy (st:=(mAt 13 6)) (by k_extra "cw") (by k_extra "cw") (by k_extra "cw") fun sa sb sc=>⟨.type "function",.none,.func ⟨"less","Whitespace.less",sa,.stmts sb,sc,3,[],.none,.none,.none,.str "cpy313.tabnanny" 2439,.none,.ref 304,.none,0⟩,#[]⟩
def h308:Obj:=tp #[.str "self" 2526,.str "other" 2527,.str "n" 2528,.str "a" 2529,.str "ts" 2530]
noncomputable def h310:Obj:=⟨.none,.none,.func ⟨"not_less_witness","Whitespace.not_less_witness",sArgs (mAt 13 7),.stmts (sBody (mAt 13 7)),sScope (mAt 13 7),0,[],.none,.none,.none,.none,.none,.none,.none,0⟩,#[]⟩
def h311:Obj:=cdO "not_less_witness" 2523 "Whitespace.not_less_witness" 2524 2525 181 2 0 0 3 306 true 181 307 308 309 310 2531 181 2532
def h312:Obj:=fnBy (st:=(mAt 13 7)) (by k_extra "cw") (by k_extra "cw") (by k_extra "cw") fun sa sb sc=>⟨.type "function",.none,.func ⟨"not_less_witness","Whitespace.not_less_witness",sa,.stmts sb,sc,3,[],.none,.none,.none,.str "cpy313.tabnanny" 2439,.none,.ref 311,.none,0⟩,#[]⟩
def h313:Obj:=tp #[.str "is_simple" 2534,.str "n" 2535,.str "norm" 2536,.str "nt" 2537,.str "raw" 2538]
def h314 (P:Params):Obj:=⟨.type "dict",.none,.dict #[kd P "__module__" 2448 (.str "cpy313.tabnanny" 2439),kd P "__firstlineno__" 2452 (.int 122 2451),kd P "S" 2456 (.str " " 2454),kd P "T" 2457 (.str "\t" 2455), kd P "__init__" 2472 (.ref 270), kd P "longest_run_of_spaces" 2481 (.ref 277), kd P "indent_level" 2493 (.ref 284), kd P "equal" 2501 (.ref 291), kd P "not_equal_witness" 2512 (.ref 298), kd P "less" 2522 (.ref 305), kd P "not_less_witness" 2533 (.ref 312), kd P "__static_attributes__" 2539 (.ref 313), kd P "__dict__" 2541 (.ref 316), kd P "__weakref__" 2543 (.ref 317), kd P "__doc__" 2544 .none] 4,#[]⟩
noncomputable def h315:Obj:=⟨.type "type",.none,.cls ⟨"Whitespace",[.type "object"],[.ref 315,.type "object"],314,"Whitespace",true,[],[],false,.none,false⟩,#[.none,.none,.some (.str "Whitespace" 2441),.some (.str "Whitespace" 2449),.some (.builtin "object.__new__"),.some (.bool true)]⟩
noncomputable def h316:Obj:=⟨.type "getset_descriptor",.none,.fields #[.str "__dict__" 2540,.ref 315,.builtin "function.__dict__",.builtin "function.__dict__#set"],#[]⟩
noncomputable def h317:Obj:=⟨.type "getset_descriptor",.none,.fields #[.str "__weakref__" 2542,.ref 315,.builtin "ExceptionGroup.__weakref__",.none],#[]⟩
noncomputable def h318:Obj:=⟨.type "super",.none,.fields #[.ref 315,.ref 315,.ref 315],#[]⟩
noncomputable def h319:Obj:=⟨.type "builtin_function_or_method",.none,.fields #[.builtin "object.__init_subclass__",.ref 315],#[]⟩
def h3v8 (P:Params):Obj:=⟨.type "dict",.none,.dict #[kd P "__name__" 165 (.str "law_rw0127_01" 2547),kd P "__doc__" 166 .none,kd P "__package__" 167 .none,kd P "__loader__" 168 (.builtin "__main__.__loader__#opaque"),kd P "__spec__" 169 .none,kd P "__annotations__" 170 (.ref 6),kd P "__builtins__" 171 (.ref 4),kd P "__file__" 173 (.str "/claim/cut.py" 172),kd P "__cached__" 174 .none,kd P "_wall" 193 (.ref 21),kd P "NL" 197 (.str "\n" 196), kd P "EMPTYSTRING" 199 (.str "" 198), kd P "_ValueFormatter" 307 (.ref 94), kd P "_Accumulator" 403 (.ref 178), kd P "b1_set" 465 (.ref 190), kd P "in_table_b1" 472 (.ref 200), kd P "b3_exceptions" 2423 (.ref 201), kd P "map_table_b3" 2431 (.ref 246), kd P "in_table_c11" 2438 (.ref 253), kd P "Whitespace" 2546 (.ref 315), kd P "_law_pair" 2560 (.ref 326), kd P "_law_drawn" 2566 (.ref 331), kd P "_law_prepared" 2572 (.ref 336), kd P "_law_laid" 2583 (.ref 343), kd P "_law_cut" 2589 (.ref 348), kd P "_law_place" 2600 (.ref 355), kd P "_law_back" 2613 (.ref 362), kd P "law" 2619 (.ref 367)] 28,#[]⟩
noncomputable def h12v6:Obj:=⟨.none,.none,.fields #[.int 1 0,.int 0 0,.ref 20,.int 7 0,.int 0 0,.ref 27,.int 73 0,.int 0 0,.ref 105,.int 111 0,.int 0 0,.ref 199,.int 114 0,.int 0 0,.ref 245,.int 119 0,.int 0 0,.ref 252,.int 122 0,.int 0 0,.ref 259,.int 189 0,.int 0 0,.ref 325,.int 203 0,.int 0 0,.ref 330,.int 215 0,.int 0 0,.ref 335,.int 218 0,.int 0 0,.ref 342,.int 225 0,.int 0 0,.ref 347,.int 232 0,.int 0 0,.ref 354,.int 237 0,.int 0 0,.ref 361,.int 249 0,.int 0 0,.ref 366],#[]⟩
def h322:Obj:=tp #[.str "kind" 2552,.str "n" 2553,.str "bases" 2554,.str "beside" 2555,.str "several" 2556,.str "hidden" 2557]
noncomputable def h324:Obj:=⟨.none,.none,.func ⟨"_law_pair","_law_pair",sArgs (dAt 15),.stmts (sBody (dAt 15)),sScope (dAt 15),0,[],.none,.none,.none,.none,.none,.none,.none,0⟩,#[]⟩
def h325:Obj:=cdO "_law_pair" 2549 "_law_pair" 2550 2551 189 2 0 0 3 320 true 181 321 322 323 324 2558 189 2559
def h326:Obj:=fnBy (st:=(dAt 15)) (by k_extra "cw") (by k_extra "cw") (by k_extra "cw") fun sa sb sc=>⟨.type "function",.none,.func ⟨"_law_pair","_law_pair",sa,.stmts sb,sc,3,[],.none,.none,.none,.str "law_rw0127_01" 2547,.none,.ref 325,.none,0⟩,#[]⟩
noncomputable def h329:Obj:=⟨.none,.none,.func ⟨"_law_drawn","_law_drawn",sArgs (dAt 16),.stmts (sBody (dAt 16)),sScope (dAt 16),0,[],.none,.none,.none,.none,.none,.none,.none,0⟩,#[]⟩
noncomputable def h330:Obj:=⟨.type "code",.none,.fields #[.str "_law_drawn" 2561,.str "_law_drawn" 2562,.str "/claim/cut.py" 2563,.int 203 0,.int 1 0,.int 0 0,.int 0 0,.int 3 0,.ref 327,.bool true,.int 181 0,.ref 328,.none,.none,.none,.ref 329,.int 2564 0,.int 203 0,.str "/claim/cut.py" 2565],#[]⟩
def h331:Obj:=fnBy (st:=(dAt 16)) (by k_extra "cw") (by k_extra "cw") (by k_extra "cw") fun sa sb sc=>⟨.type "function",.none,.func ⟨"_law_drawn","_law_drawn",sa,.stmts sb,sc,3,[],.none,.none,.none,.str "law_rw0127_01" 2547,.none,.ref 330,.none,0⟩,#[]⟩
noncomputable def h334:Obj:=⟨.none,.none,.func ⟨"_law_prepared","_law_prepared",sArgs (dAt 17),.stmts (sBody (dAt 17)),sScope (dAt 17),0,[],.none,.none,.none,.none,.none,.none,.none,0⟩,#[]⟩
noncomputable def h335:Obj:=⟨.type "code",.none,.fields #[.str "_law_prepared" 2567,.str "_law_prepared" 2568,.str "/claim/cut.py" 2569,.int 215 0,.int 1 0,.int 0 0,.int 0 0,.int 3 0,.ref 332,.bool true,.int 181 0,.ref 333,.none,.none,.none,.ref 334,.int 2570 0,.int 215 0,.str "/claim/cut.py" 2571],#[]⟩
def h336:Obj:=fnBy (st:=(dAt 17)) (by k_extra "cw") (by k_extra "cw") (by k_extra "cw") fun sa sb sc=>⟨.type "function",.none,.func ⟨"_law_prepared","_law_prepared",sa,.stmts sb,sc,3,[],.none,.none,.none,.str "law_rw0127_01" 2547,.none,.ref 335,.none,0⟩,#[]⟩
def h339:Obj:=tp #[.str "text" 2576,.str "head" 2577,.str "t" 2578,.str "maker" 2579,.str "sign" 2580]
noncomputable def h341:Obj:=⟨.none,.none,.func ⟨"_law_laid","_law_laid",sArgs (dAt 18),.stmts (sBody (dAt 18)),sScope (dAt 18),0,[],.none,.none,.none,.none,.none,.none,.none,0⟩,#[]⟩
def h342:Obj:=cdO "_law_laid" 2573 "_law_laid" 2574 2575 218 3 0 0 3 337 true 181 338 339 340 341 2581 218 2582
def h343:Obj:=fnBy (st:=(dAt 18)) (by k_extra "cw") (by k_extra "cw") (by k_extra "cw") fun sa sb sc=>⟨.type "function",.none,.func ⟨"_law_laid","_law_laid",sa,.stmts sb,sc,3,[],.none,.none,.none,.str "law_rw0127_01" 2547,.none,.ref 342,.none,0⟩,#[]⟩
noncomputable def h346:Obj:=⟨.none,.none,.func ⟨"_law_cut","_law_cut",sArgs (dAt 19),.stmts (sBody (dAt 19)),sScope (dAt 19),0,[],.none,.none,.none,.none,.none,.none,.none,0⟩,#[]⟩
noncomputable def h347:Obj:=⟨.type "code",.none,.fields #[.str "_law_cut" 2584,.str "_law_cut" 2585,.str "/claim/cut.py" 2586,.int 225 0,.int 2 0,.int 0 0,.int 0 0,.int 3 0,.ref 344,.bool true,.int 181 0,.ref 345,.none,.none,.none,.ref 346,.int 2587 0,.int 225 0,.str "/claim/cut.py" 2588],#[]⟩
def h348:Obj:=fnBy (st:=(dAt 19)) (by k_extra "cw") (by k_extra "cw") (by k_extra "cw") fun sa sb sc=>⟨.type "function",.none,.func ⟨"_law_cut","_law_cut",sa,.stmts sb,sc,3,[],.none,.none,.none,.str "law_rw0127_01" 2547,.none,.ref 347,.none,0⟩,#[]⟩
def h351:Obj:=tp #[.str "page" 2593,.str "head" 2594,.str "t" 2595,.str "closed" 2596,.str "rows" 2597]
noncomputable def h353:Obj:=⟨.none,.none,.func ⟨"_law_place","_law_place",sArgs (dAt 20),.stmts (sBody (dAt 20)),sScope (dAt 20),0,[],.none,.none,.none,.none,.none,.none,.none,0⟩,#[]⟩
def h354:Obj:=cdO "_law_place" 2590 "_law_place" 2591 2592 232 4 0 0 3 349 true 181 350 351 352 353 2598 232 2599
def h355:Obj:=fnBy (st:=(dAt 20)) (by k_extra "cw") (by k_extra "cw") (by k_extra "cw") fun sa sb sc=>⟨.type "function",.none,.func ⟨"_law_place","_law_place",sa,.stmts sb,sc,3,[],.none,.none,.none,.str "law_rw0127_01" 2547,.none,.ref 354,.none,0⟩,#[]⟩
def h358:Obj:=tp #[.str "places" 2604,.str "size" 2605,.str "words" 2606,.str "rest" 2607,.str "counts" 2608,.str "t" 2609,.str "longer" 2610]
noncomputable def h360:Obj:=⟨.none,.none,.func ⟨"_law_back","_law_back",sArgs (dAt 21),.stmts (sBody (dAt 21)),sScope (dAt 21),0,[],.none,.none,.none,.none,.none,.none,.none,0⟩,#[]⟩
def h361:Obj:=cdO "_law_back" 2601 "_law_back" 2602 2603 237 1 0 0 3 356 true 181 357 358 359 360 2611 237 2612
def h362:Obj:=fnBy (st:=(dAt 21)) (by k_extra "cw") (by k_extra "cw") (by k_extra "cw") fun sa sb sc=>⟨.type "function",.none,.func ⟨"_law_back","_law_back",sa,.stmts sb,sc,3,[],.none,.none,.none,.str "law_rw0127_01" 2547,.none,.ref 361,.none,0⟩,#[]⟩
noncomputable def h365:Obj:=⟨.none,.none,.func ⟨"law","law",sArgs (dAt 22),.stmts (sBody (dAt 22)),sScope (dAt 22),0,[],.none,.none,.none,.none,.none,.none,.none,0⟩,#[]⟩
noncomputable def h366:Obj:=⟨.type "code",.none,.fields #[.str "law" 2614,.str "law" 2615,.str "/claim/cut.py" 2616,.int 249 0,.int 1 0,.int 0 0,.int 0 0,.int 3 0,.ref 363,.bool true,.int 181 0,.ref 364,.none,.none,.none,.ref 365,.int 2617 0,.int 249 0,.str "/claim/cut.py" 2618],#[]⟩
def h367:Obj:=fnBy (st:=(dAt 22)) (by k_extra "cw") (by k_extra "cw") (by k_extra "cw") fun sa sb sc=>⟨.type "function",.none,.func ⟨"law","law",sa,.stmts sb,sc,3,[],.none,.none,.none,.str "law_rw0127_01" 2547,.none,.ref 366,.none,0⟩,#[]⟩
def treeB (P:Params):BT:=(nd (h0 P) (nd (h1 P) (nd (h3 P) (lf h7) (lf h7)) (nd h5 (lf h9) (lf h13))) (nd h2 (nd h4 (lf h8) (lf h8)) (nd h6 (lf h10) (lf h14))))
def tree3 (P:Params):BT:=(nd (h0 P) (nd (h1 P) (nd (h3v1 P) (nd h7 (lf h7) .nil) (nd h7 (lf h19) .nil)) (nd h5 (nd h9 (lf h17) .nil) (nd h13 (lf h21) .nil))) (nd h2 (nd h4 (nd h8 (lf h8) .nil) (nd h12v1 (lf h20) .nil)) (nd h6 (nd h10 (lf h7) .nil) (lf h14))))
def tree4 (P:Params):BT:=(nd (h0 P) (nd (h1 P) (nd (h3v2 P) (nd h7 (nd h7 (nd h31 (lf h63) (lf h95)) (nd h47 (lf h8) .nil)) (nd h23 (nd h7 (lf h7) .nil) (nd h55 (lf h87) .nil))) (nd h7 (nd h19 (nd h35 (lf h7) .nil) (nd h8 (lf h83) .nil)) (nd h27 (nd h7 (lf h75) .nil) (nd h59 (lf h91) .nil)))) (nd h5 (nd h9 (nd h17 (nd h33 (lf h8) (lf h97)) (nd h49 (lf h7) .nil)) (nd h7 (nd h41 (lf h73) .nil) (nd h7 (lf h89) .nil))) (nd h13 (nd h21 (nd h8 (lf h69) .nil) (nd h7 (lf h7) .nil)) (nd h7 (nd h45 (lf h77) .nil) (nd h61 (lf (h93 P)) .nil))))) (nd h2 (nd h4 (nd h8 (nd h8 (nd h7 (lf h7) (lf h96)) (nd h48 (lf h80) .nil)) (nd (h24 P) (nd h40 (lf h8) .nil) (nd h56 (lf h7) .nil))) (nd h12v2 (nd h20 (nd h7 (lf h68) .nil) (nd h52 (lf h84) .nil)) (nd h28 (nd h8 (lf h76) .nil) (nd h7 (lf h92) .nil)))) (nd h6 (nd h10 (nd h7 (nd h34 (lf h66) (lf h98)) (nd h7 (lf h82) .nil)) (nd h26 (nd h42 (lf h7) .nil) (nd h8 (lf h90) .nil))) (nd h14 (nd h7 (nd h38 (lf h70) .nil) (nd h54 (lf h8) .nil)) (nd h8 (nd h7 (lf h7) .nil) (nd h62 (lf h94) .nil))))))
def tree6 (P:Params):BT:=(nd (h0 P) (nd (h1 P) (nd (h3v3 P) (nd h7 (nd h7 (nd h31 (nd h63 (lf h7) .nil) (nd h95 (lf h159) .nil)) (nd h47 (nd h8 (lf h143) .nil) (nd h111 (lf h175) .nil))) (nd h23 (nd h7 (nd h7 (lf h7) .nil) (nd h7 (lf h167) .nil)) (nd h55 (nd h87 (lf h151) .nil) (lf h7)))) (nd h7 (nd h19 (nd h35 (nd h7 (lf h108) .nil) (nd h99 (lf h163) .nil)) (nd h8 (nd h83 (lf h8) .nil) (nd h115 (lf h179) .nil))) (nd h27 (nd h7 (nd h75 (lf h7) .nil) (nd h107 (lf h171) .nil)) (nd h59 (nd h91 (lf h8) .nil) (lf h123))))) (nd h5 (nd h9 (nd h17 (nd h33 (nd h8 (lf h129) .nil) (nd h97 (lf h7) .nil)) (nd h49 (nd h7 (lf h145) .nil) (nd h113 (lf (h177 P)) .nil))) (nd h7 (nd h41 (nd h73 (lf h137) .nil) (nd h105 (lf h169) .nil)) (nd h7 (nd h89 (lf h153) .nil) (lf h121)))) (nd h13 (nd h21 (nd h8 (nd h69 (lf h8) .nil) (nd (h101 P) (lf h165) .nil)) (nd h7 (nd h7 (lf h7) .nil) (nd h8 (lf h181) .nil))) (nd h7 (nd h45 (nd h77 (lf h141) .nil) (nd h109 (lf h173) .nil)) (nd h61 (nd (h93 P) (lf h7) .nil) (lf h8)))))) (nd h2 (nd h4 (nd h8 (nd h8 (nd h7 (nd h7 (lf h128) .nil) (nd h96 (lf h160) .nil)) (nd h48 (nd h80 (lf h144) .nil) (nd h7 (lf h176) .nil))) (nd (h24 P) (nd h40 (nd h8 (lf h136) .nil) (nd h104 (lf h108) .nil)) (nd h56 (nd h7 (lf h152) .nil) (lf h120)))) (nd h12v3 (nd h20 (nd h7 (nd h68 (lf h132) .nil) (nd h23 (lf h7) .nil)) (nd h52 (nd h84 (lf h148) .nil) (nd h7 (lf h180) .nil))) (nd h28 (nd h8 (nd h76 (lf h8) .nil) (nd h108 (lf h7) .nil)) (nd h7 (nd h92 (lf h156) .nil) (lf h7))))) (nd h6 (nd h10 (nd h7 (nd h34 (nd h66 (lf h130) .nil) (nd h98 (lf h8) .nil)) (nd h7 (nd h82 (lf h7) .nil) (nd h114 (lf h178) .nil))) (nd h26 (nd h42 (nd h7 (lf h138) .nil) (nd h106 (lf h8) .nil)) (nd h8 (nd h90 (lf h7) .nil) (lf h122)))) (nd h14 (nd h7 (nd h38 (nd h70 (lf h134) .nil) (nd h102 (lf h166) .nil)) (nd h54 (nd h8 (lf h150) .nil) (nd h118 (lf h182) .nil))) (nd h8 (nd h7 (nd h7 (lf h7) .nil) (nd h8 (lf h174) .nil)) (nd h62 (nd h94 (lf h158) .nil) (lf h126)))))))
def tree7 (P:Params):BT:=(nd (h0 P) (nd (h1 P) (nd (h3v4 P) (nd h7 (nd h7 (nd h31 (nd h63 (lf h7) (lf h191)) (nd h95 (lf h159) .nil)) (nd h47 (nd h8 (lf h143) .nil) (nd h111 (lf h175) .nil))) (nd h23 (nd h7 (nd h7 (lf h7) .nil) (nd h7 (lf h167) .nil)) (nd h55 (nd h87 (lf h151) .nil) (nd h7 (lf h183) .nil)))) (nd h7 (nd h19 (nd h35 (nd h7 (lf h108) .nil) (nd h99 (lf h163) .nil)) (nd h8 (nd h83 (lf h8) .nil) (nd h115 (lf h179) .nil))) (nd h27 (nd h7 (nd h75 (lf h7) .nil) (nd h107 (lf h171) .nil)) (nd h59 (nd h91 (lf h8) .nil) (nd h123 (lf h7) .nil))))) (nd h5 (nd h9 (nd h17 (nd h33 (nd h8 (lf h129) (lf h193)) (nd h97 (lf h7) .nil)) (nd h49 (nd h7 (lf h145) .nil) (nd h113 (lf (h177 P)) .nil))) (nd h7 (nd h41 (nd h73 (lf h137) .nil) (nd h105 (lf h169) .nil)) (nd h7 (nd h89 (lf h153) .nil) (nd h121 (lf h185) .nil)))) (nd h13 (nd h21 (nd h8 (nd h69 (lf h8) .nil) (nd (h101 P) (lf h165) .nil)) (nd h7 (nd h7 (lf h7) .nil) (nd h8 (lf h181) .nil))) (nd h7 (nd h45 (nd h77 (lf h141) .nil) (nd h109 (lf h173) .nil)) (nd h61 (nd (h93 P) (lf h7) .nil) (nd h8 (lf h189) .nil)))))) (nd h2 (nd h4 (nd h8 (nd h8 (nd h7 (nd h7 (lf h128) (lf h7)) (nd h96 (lf h160) .nil)) (nd h48 (nd h80 (lf h144) .nil) (nd h7 (lf h176) .nil))) (nd (h24 P) (nd h40 (nd h8 (lf h136) .nil) (nd h104 (lf h108) .nil)) (nd h56 (nd h7 (lf h152) .nil) (nd h120 (lf h184) .nil)))) (nd h12v3 (nd h20 (nd h7 (nd h68 (lf h132) .nil) (nd h23 (lf h7) .nil)) (nd h52 (nd h84 (lf h148) .nil) (nd h7 (lf h180) .nil))) (nd h28 (nd h8 (nd h76 (lf h8) .nil) (nd h108 (lf h7) .nil)) (nd h7 (nd h92 (lf h156) .nil) (nd h7 (lf h188) .nil))))) (nd h6 (nd h10 (nd h7 (nd h34 (nd h66 (lf h130) .nil) (nd h98 (lf h8) .nil)) (nd h7 (nd h82 (lf h7) .nil) (nd h114 (lf h178) .nil))) (nd h26 (nd h42 (nd h7 (lf h138) .nil) (nd h106 (lf h8) .nil)) (nd h8 (nd h90 (lf h7) .nil) (nd h122 (lf h186) .nil)))) (nd h14 (nd h7 (nd h38 (nd h70 (lf h134) .nil) (nd h102 (lf h166) .nil)) (nd h54 (nd h8 (lf h150) .nil) (nd h118 (lf h182) .nil))) (nd h8 (nd h7 (nd h7 (lf h7) .nil) (nd h8 (lf h174) .nil)) (nd h62 (nd h94 (lf h158) .nil) (nd h126 (lf (h190 P)) .nil)))))))
def tree8 (P:Params):BT:=(nd (h0 P) (nd (h1 P) (nd (h3v5 P) (nd h7 (nd h7 (nd h31 (nd h63 (lf h7) (lf h191)) (nd h95 (lf h159) .nil)) (nd h47 (nd h8 (lf h143) .nil) (nd h111 (lf h175) .nil))) (nd h23 (nd h7 (nd h7 (lf h7) (lf h199)) (nd h7 (lf h167) .nil)) (nd h55 (nd h87 (lf h151) .nil) (nd h7 (lf h183) .nil)))) (nd h7 (nd h19 (nd h35 (nd h7 (lf h108) (lf h8)) (nd h99 (lf h163) .nil)) (nd h8 (nd h83 (lf h8) .nil) (nd h115 (lf h179) .nil))) (nd h27 (nd h7 (nd h75 (lf h7) .nil) (nd h107 (lf h171) .nil)) (nd h59 (nd h91 (lf h8) .nil) (nd h123 (lf h7) .nil))))) (nd h5 (nd h9 (nd h17 (nd h33 (nd h8 (lf h129) (lf h193)) (nd h97 (lf h7) .nil)) (nd h49 (nd h7 (lf h145) .nil) (nd h113 (lf (h177 P)) .nil))) (nd h7 (nd h41 (nd h73 (lf h137) .nil) (nd h105 (lf h169) .nil)) (nd h7 (nd h89 (lf h153) .nil) (nd h121 (lf h185) .nil)))) (nd h13 (nd h21 (nd h8 (nd h69 (lf h8) (lf h7)) (nd (h101 P) (lf h165) .nil)) (nd h7 (nd h7 (lf h7) .nil) (nd h8 (lf h181) .nil))) (nd h7 (nd h45 (nd h77 (lf h141) .nil) (nd h109 (lf h173) .nil)) (nd h61 (nd (h93 P) (lf h7) .nil) (nd h8 (lf h189) .nil)))))) (nd h2 (nd h4 (nd h8 (nd h8 (nd h7 (nd h7 (lf h128) (lf h7)) (nd h96 (lf h160) .nil)) (nd h48 (nd h80 (lf h144) .nil) (nd h7 (lf h176) .nil))) (nd (h24 P) (nd h40 (nd h8 (lf h136) (lf h200)) (nd h104 (lf h108) .nil)) (nd h56 (nd h7 (lf h152) .nil) (nd h120 (lf h184) .nil)))) (nd h12v4 (nd h20 (nd h7 (nd h68 (lf h132) (lf h196)) (nd h23 (lf h7) .nil)) (nd h52 (nd h84 (lf h148) .nil) (nd h7 (lf h180) .nil))) (nd h28 (nd h8 (nd h76 (lf h8) .nil) (nd h108 (lf h7) .nil)) (nd h7 (nd h92 (lf h156) .nil) (nd h7 (lf h188) .nil))))) (nd h6 (nd h10 (nd h7 (nd h34 (nd h66 (lf h130) (lf h7)) (nd h98 (lf h8) .nil)) (nd h7 (nd h82 (lf h7) .nil) (nd h114 (lf h178) .nil))) (nd h26 (nd h42 (nd h7 (lf h138) .nil) (nd h106 (lf h8) .nil)) (nd h8 (nd h90 (lf h7) .nil) (nd h122 (lf h186) .nil)))) (nd h14 (nd h7 (nd h38 (nd h70 (lf h134) (lf h198)) (nd h102 (lf h166) .nil)) (nd h54 (nd h8 (lf h150) .nil) (nd h118 (lf h182) .nil))) (nd h8 (nd h7 (nd h7 (lf h7) .nil) (nd h8 (lf h174) .nil)) (nd h62 (nd h94 (lf h158) .nil) (nd h126 (lf (h190 P)) .nil)))))))
def tree9 (P:Params):BT:=(nd (h0 P) (nd (h1 P) (nd (h3v6 P) (nd h7 (nd h7 (nd h31 (nd h63 (lf h7) (lf h191)) (nd h95 (lf h159) (lf h223))) (nd h47 (nd h8 (lf h143) (lf h207)) (nd h111 (lf h175) (lf h239)))) (nd h23 (nd h7 (nd h7 (lf h7) (lf h199)) (nd h7 (lf h167) (lf h231))) (nd h55 (nd h87 (lf h151) (lf h215)) (nd h7 (lf h183) .nil)))) (nd h7 (nd h19 (nd h35 (nd h7 (lf h108) (lf h8)) (nd h99 (lf h163) (lf h227))) (nd h8 (nd h83 (lf h8) (lf h211)) (nd h115 (lf h179) .nil))) (nd h27 (nd h7 (nd h75 (lf h7) (lf h203)) (nd h107 (lf h171) (lf h235))) (nd h59 (nd h91 (lf h8) (lf h219)) (nd h123 (lf h7) .nil))))) (nd h5 (nd h9 (nd h17 (nd h33 (nd h8 (lf h129) (lf h193)) (nd h97 (lf h7) (lf h225))) (nd h49 (nd h7 (lf h145) (lf h209)) (nd h113 (lf (h177 P)) .nil))) (nd h7 (nd h41 (nd h73 (lf h137) (lf h201)) (nd h105 (lf h169) (lf h233))) (nd h7 (nd h89 (lf h153) (lf h217)) (nd h121 (lf h185) .nil)))) (nd h13 (nd h21 (nd h8 (nd h69 (lf h8) (lf h7)) (nd (h101 P) (lf h165) (lf h229))) (nd h7 (nd h7 (lf h7) (lf h213)) (nd h8 (lf h181) .nil))) (nd h7 (nd h45 (nd h77 (lf h141) (lf h205)) (nd h109 (lf h173) (lf h237))) (nd h61 (nd (h93 P) (lf h7) (lf h221)) (nd h8 (lf h189) .nil)))))) (nd h2 (nd h4 (nd h8 (nd h8 (nd h7 (nd h7 (lf h128) (lf h7)) (nd h96 (lf h160) (lf h224))) (nd h48 (nd h80 (lf h144) (lf h208)) (nd h7 (lf h176) .nil))) (nd (h24 P) (nd h40 (nd h8 (lf h136) (lf h200)) (nd h104 (lf h108) (lf h232))) (nd h56 (nd h7 (lf h152) (lf h216)) (nd h120 (lf h184) .nil)))) (nd h12v4 (nd h20 (nd h7 (nd h68 (lf h132) (lf h196)) (nd h23 (lf h7) (lf h228))) (nd h52 (nd h84 (lf h148) (lf h212)) (nd h7 (lf h180) .nil))) (nd h28 (nd h8 (nd h76 (lf h8) (lf h204)) (nd h108 (lf h7) (lf h236))) (nd h7 (nd h92 (lf h156) (lf h220)) (nd h7 (lf h188) .nil))))) (nd h6 (nd h10 (nd h7 (nd h34 (nd h66 (lf h130) (lf h7)) (nd h98 (lf h8) (lf h226))) (nd h7 (nd h82 (lf h7) (lf h210)) (nd h114 (lf h178) .nil))) (nd h26 (nd h42 (nd h7 (lf h138) (lf h202)) (nd h106 (lf h8) (lf h234))) (nd h8 (nd h90 (lf h7) (lf h218)) (nd h122 (lf h186) .nil)))) (nd h14 (nd h7 (nd h38 (nd h70 (lf h134) (lf h198)) (nd h102 (lf h166) (lf h230))) (nd h54 (nd h8 (lf h150) (lf h214)) (nd h118 (lf h182) .nil))) (nd h8 (nd h7 (nd h7 (lf h7) (lf h206)) (nd h8 (lf h174) (lf h238))) (nd h62 (nd h94 (lf h158) (lf h222)) (nd h126 (lf (h190 P)) .nil)))))))
def tree13 (P:Params):BT:=(nd (h0 P) (nd (h1 P) (nd (h3v7 P) (nd h7 (nd h7 (nd h31 (nd h63 (nd h7 (lf h23) .nil) (nd h191 (lf h319) .nil)) (nd h95 (nd h159 (lf h287) .nil) (lf h223))) (nd h47 (nd h8 (nd h143 (lf h7) .nil) (lf h207)) (nd h111 (nd h175 (lf h303) .nil) (lf h239)))) (nd h23 (nd h7 (nd h7 (nd h7 (lf h263) .nil) (lf h199)) (nd h7 (nd h167 (lf h7) .nil) (lf h231))) (nd h55 (nd h87 (nd h151 (lf h8) .nil) (lf h215)) (nd h7 (nd h183 (lf h311) .nil) (lf h7))))) (nd h7 (nd h19 (nd h35 (nd h7 (nd h108 (lf h259) .nil) (lf h8)) (nd h99 (nd h163 (lf h291) .nil) (lf h227))) (nd h8 (nd h83 (nd h8 (lf h275) .nil) (lf h211)) (nd h115 (nd h179 (lf h8) .nil) (lf h7)))) (nd h27 (nd h7 (nd h75 (nd h7 (lf h7) .nil) (lf h203)) (nd h107 (nd h171 (lf h7) .nil) (lf h235))) (nd h59 (nd h91 (nd h8 (lf h283) .nil) (lf h219)) (nd h123 (nd h7 (lf h315) .nil) (lf h251)))))) (nd h5 (nd h9 (nd h17 (nd h33 (nd h8 (nd h129 (lf h7) .nil) (lf h193)) (nd h97 (nd h7 (lf h289) .nil) (lf h225))) (nd h49 (nd h7 (nd h145 (lf h273) .nil) (lf h209)) (nd h113 (nd (h177 P) (lf h305) .nil) (lf h8)))) (nd h7 (nd h41 (nd h73 (nd h137 (lf h8) .nil) (lf h201)) (nd h105 (nd h169 (lf h297) .nil) (lf h233))) (nd h7 (nd h89 (nd h153 (lf h7) .nil) (lf h217)) (nd h121 (nd h185 (lf h313) .nil) (lf h249))))) (nd h13 (nd h21 (nd h8 (nd h69 (nd h8 (lf h261) .nil) (lf h7)) (nd (h101 P) (nd h165 (lf h8) .nil) (lf h229))) (nd h7 (nd h7 (nd h7 (lf h277) .nil) (lf h213)) (nd h8 (nd h181 (lf h7) .nil) (lf h245)))) (nd h7 (nd h45 (nd h77 (nd h141 (lf h269) .nil) (lf h205)) (nd h109 (nd h173 (lf h301) .nil) (lf h237))) (nd h61 (nd (h93 P) (nd h7 (lf h7) .nil) (lf h221)) (nd h8 (nd h189 (lf h317) .nil) (lf h253))))))) (nd h2 (nd h4 (nd h8 (nd h8 (nd h7 (nd h7 (nd h128 (lf (h256 P)) .nil) (lf h7)) (nd h96 (nd h160 (lf h7) .nil) (lf h224))) (nd h48 (nd h80 (nd h144 (lf h8) .nil) (lf h208)) (nd h7 (nd h176 (lf h304) .nil) (lf h7)))) (nd (h24 P) (nd h40 (nd h8 (nd h136 (lf h7) .nil) (lf h200)) (nd h104 (nd h108 (lf h296) .nil) (lf h232))) (nd h56 (nd h7 (nd h152 (lf h280) .nil) (lf h216)) (nd h120 (nd h184 (lf h312) .nil) (lf h8))))) (nd h12v5 (nd h20 (nd h7 (nd h68 (nd h132 (lf h260) .nil) (lf h196)) (nd h23 (nd h7 (lf h7) .nil) (lf h228))) (nd h52 (nd h84 (nd h148 (lf h276) .nil) (lf h212)) (nd h7 (nd h180 (lf h308) .nil) (lf h244)))) (nd h28 (nd h8 (nd h76 (nd h8 (lf h268) .nil) (lf h204)) (nd h108 (nd h7 (lf h8) .nil) (lf h236))) (nd h7 (nd h92 (nd h156 (lf h284) .nil) (lf h220)) (nd h7 (nd h188 (lf h316) .nil) (lf h252)))))) (nd h6 (nd h10 (nd h7 (nd h34 (nd h66 (nd h130 (lf h258) .nil) (lf h7)) (nd h98 (nd h8 (lf h290) .nil) (lf h226))) (nd h7 (nd h82 (nd h7 (lf h7) .nil) (lf h210)) (nd h114 (nd h178 (lf h7) .nil) (lf h242)))) (nd h26 (nd h42 (nd h7 (nd h138 (lf h266) .nil) (lf h202)) (nd h106 (nd h8 (lf h298) .nil) (lf h234))) (nd h8 (nd h90 (nd h7 (lf h282) .nil) (lf h218)) (nd h122 (nd h186 (lf (h314 P)) .nil) (lf h7))))) (nd h14 (nd h7 (nd h38 (nd h70 (nd h134 (lf h7) .nil) (lf h198)) (nd h102 (nd h166 (lf h294) .nil) (lf h230))) (nd h54 (nd h8 (nd h150 (lf h7) .nil) (lf h214)) (nd h118 (nd h182 (lf h310) .nil) (lf h246)))) (nd h8 (nd h7 (nd h7 (nd h7 (lf h270) .nil) (lf h206)) (nd h8 (nd h174 (lf h7) .nil) (lf h238))) (nd h62 (nd h94 (nd h158 (lf h8) .nil) (lf h222)) (nd h126 (nd (h190 P) (lf h318) .nil) (lf h7))))))))
def tree22 (P:Params):BT:=(nd (h0 P) (nd (h1 P) (nd (h3v8 P) (nd h7 (nd h7 (nd h31 (nd h63 (nd h7 (lf h23) .nil) (nd h191 (lf h319) .nil)) (nd h95 (nd h159 (lf h287) .nil) (nd h223 (lf h351) .nil))) (nd h47 (nd h8 (nd h143 (lf h7) .nil) (nd h207 (lf h335) .nil)) (nd h111 (nd h175 (lf h303) .nil) (nd h239 (lf h367) .nil)))) (nd h23 (nd h7 (nd h7 (nd h7 (lf h263) .nil) (nd h199 (lf h7) .nil)) (nd h7 (nd h167 (lf h7) .nil) (nd h231 (lf h7) .nil))) (nd h55 (nd h87 (nd h151 (lf h8) .nil) (nd h215 (lf h343) .nil)) (nd h7 (nd h183 (lf h311) .nil) (lf h7))))) (nd h7 (nd h19 (nd h35 (nd h7 (nd h108 (lf h259) .nil) (nd h8 (lf h7) .nil)) (nd h99 (nd h163 (lf h291) .nil) (nd h227 (lf h355) .nil))) (nd h8 (nd h83 (nd h8 (lf h275) .nil) (nd h211 (lf h339) .nil)) (nd h115 (nd h179 (lf h8) .nil) (lf h7)))) (nd h27 (nd h7 (nd h75 (nd h7 (lf h7) .nil) (nd h203 (lf h331) .nil)) (nd h107 (nd h171 (lf h7) .nil) (nd h235 (lf h7) .nil))) (nd h59 (nd h91 (nd h8 (lf h283) .nil) (nd h219 (lf h347) .nil)) (nd h123 (nd h7 (lf h315) .nil) (lf h251)))))) (nd h5 (nd h9 (nd h17 (nd h33 (nd h8 (nd h129 (lf h7) .nil) (nd h193 (lf h8) .nil)) (nd h97 (nd h7 (lf h289) .nil) (nd h225 (lf h353) .nil))) (nd h49 (nd h7 (nd h145 (lf h273) .nil) (nd h209 (lf h7) .nil)) (nd h113 (nd (h177 P) (lf h305) .nil) (lf h8)))) (nd h7 (nd h41 (nd h73 (nd h137 (lf h8) .nil) (nd h201 (lf h329) .nil)) (nd h105 (nd h169 (lf h297) .nil) (nd h233 (lf h361) .nil))) (nd h7 (nd h89 (nd h153 (lf h7) .nil) (nd h217 (lf h8) .nil)) (nd h121 (nd h185 (lf h313) .nil) (lf h249))))) (nd h13 (nd h21 (nd h8 (nd h69 (nd h8 (lf h261) .nil) (nd h7 (lf h325) .nil)) (nd (h101 P) (nd h165 (lf h8) .nil) (nd h229 (lf h8) .nil))) (nd h7 (nd h7 (nd h7 (lf h277) .nil) (nd h213 (lf h341) .nil)) (nd h8 (nd h181 (lf h7) .nil) (lf h245)))) (nd h7 (nd h45 (nd h77 (nd h141 (lf h269) .nil) (nd h205 (lf h8) .nil)) (nd h109 (nd h173 (lf h301) .nil) (nd h237 (lf h365) .nil))) (nd h61 (nd (h93 P) (nd h7 (lf h7) .nil) (nd h221 (lf h7) .nil)) (nd h8 (nd h189 (lf h317) .nil) (lf h253))))))) (nd h2 (nd h4 (nd h8 (nd h8 (nd h7 (nd h7 (nd h128 (lf (h256 P)) .nil) (nd h7 (lf h7) .nil)) (nd h96 (nd h160 (lf h7) .nil) (nd h224 (lf h7) .nil))) (nd h48 (nd h80 (nd h144 (lf h8) .nil) (nd h208 (lf h336) .nil)) (nd h7 (nd h176 (lf h304) .nil) (lf h7)))) (nd (h24 P) (nd h40 (nd h8 (nd h136 (lf h7) .nil) (nd h200 (lf h8) .nil)) (nd h104 (nd h108 (lf h296) .nil) (nd h232 (lf h360) .nil))) (nd h56 (nd h7 (nd h152 (lf h280) .nil) (nd h216 (lf h7) .nil)) (nd h120 (nd h184 (lf h312) .nil) (lf h8))))) (nd h12v6 (nd h20 (nd h7 (nd h68 (nd h132 (lf h260) .nil) (nd h196 (lf h324) .nil)) (nd h23 (nd h7 (lf h7) .nil) (nd h228 (lf h7) .nil))) (nd h52 (nd h84 (nd h148 (lf h276) .nil) (nd h212 (lf h7) .nil)) (nd h7 (nd h180 (lf h308) .nil) (lf h244)))) (nd h28 (nd h8 (nd h76 (nd h8 (lf h268) .nil) (nd h204 (lf h7) .nil)) (nd h108 (nd h7 (lf h8) .nil) (nd h236 (lf h8) .nil))) (nd h7 (nd h92 (nd h156 (lf h284) .nil) (nd h220 (lf h348) .nil)) (nd h7 (nd h188 (lf h316) .nil) (lf h252)))))) (nd h6 (nd h10 (nd h7 (nd h34 (nd h66 (nd h130 (lf h258) .nil) (nd h7 (lf h322) .nil)) (nd h98 (nd h8 (lf h290) .nil) (nd h226 (lf h354) .nil))) (nd h7 (nd h82 (nd h7 (lf h7) .nil) (nd h210 (lf h8) .nil)) (nd h114 (nd h178 (lf h7) .nil) (lf h242)))) (nd h26 (nd h42 (nd h7 (nd h138 (lf h266) .nil) (nd h202 (lf h330) .nil)) (nd h106 (nd h8 (lf h298) .nil) (nd h234 (lf h362) .nil))) (nd h8 (nd h90 (nd h7 (lf h282) .nil) (nd h218 (lf h346) .nil)) (nd h122 (nd h186 (lf (h314 P)) .nil) (lf h7))))) (nd h14 (nd h7 (nd h38 (nd h70 (nd h134 (lf h7) .nil) (nd h198 (lf h326) .nil)) (nd h102 (nd h166 (lf h294) .nil) (nd h230 (lf h358) .nil))) (nd h54 (nd h8 (nd h150 (lf h7) .nil) (nd h214 (lf h342) .nil)) (nd h118 (nd h182 (lf h310) .nil) (lf h246)))) (nd h8 (nd h7 (nd h7 (nd h7 (lf h270) .nil) (nd h206 (lf h334) .nil)) (nd h8 (nd h174 (lf h7) .nil) (nd h238 (lf h366) .nil))) (nd h62 (nd h94 (nd h158 (lf h8) .nil) (nd h222 (lf h8) .nil)) (nd h126 (nd (h190 P) (lf h318) .nil) (lf h7))))))))
end
section
open PySem PySem.W PyProof.Rows PySem.Calls
theorem go_quick {p:Program} {w:World} {m0:Nat} {ann:Option Value} {b n:Nat} {s:Shared} {c c':Code} {pos:Pos} {B:List Frame} {r:Option (Shared×Thread)}
  (h:PySem.W.Fast.tw3277212676724774461 PySem.W.Fast.tw14364793385576792824 p w m0 ann b n s ⟨PySem.W.Fast.tw11892475500146522536 PySem.W.Fast.tw14364793385576792824 c,c',pos,B⟩=r) :
  segGo treeTable p w m0 ann b n s ⟨denote treeTable c,c',pos,B⟩=r:=by
 rw [PySem.W.Fast.te3277212676724774461,PySem.W.Fast.te14364793385576792824,PySem.W.Fast.te11892475500146522536]
 exact h
theorem hash_runs {p:Program} {w:World} {n₀:Nat} {ann:Option Value} {q:Pos} (i:Int) (t:Tok) (heap:Heap) (gens:Array GenState) (drawn:Drawn) (toks:Nat) (os:OsState) (K:Result -> Sem Fin) (h:Option Value) (g:Bool) (l:List Value) (code:Code) (pos:Pos) (kept:List Value) :
  segGo treeTable p w n₀ ann 1 3 ⟨heap,gens,drawn,toks,os⟩ ⟨denote treeTable (.call (.builtin "int.__hash__") ⟨[.int i t],[]⟩),.call (.builtin "int.__hash__") ⟨[.int i t],[]⟩,pos,[.ret K h g l code pos kept,topFrame q]⟩ =
   some (⟨heap,gens,drawn,toks+1,os⟩,⟨K (.ok (.ret (.int (rawHash i) toks))),code,pos,[topFrame q]⟩):=go_quick (by kernel_rfl)
noncomputable def IntR (c:Code) (s:Shared) (r:Result×Shared×Nat):Prop:=∃ i t,c=.call (.builtin "int.__hash__") ⟨[.int i t],[]⟩ /\ r=(.ok (.ret (.int (rawHash i) s.toks)),{ s with toks:=s.toks+1 },3)
open Classical in
noncomputable def intC (c:Code) (s:Shared):Option (Result×Shared×Nat):=if h:∃ r,IntR c s r then some h.choose else none
theorem intC_eq (i:Int) (t:Tok) (s:Shared):intC (.call (.builtin "int.__hash__") ⟨[.int i t],[]⟩) s=some (.ok (.ret (.int (rawHash i) s.toks)),{ s with toks:=s.toks+1 },3):=by
 have h:∃ r,IntR (.call (.builtin "int.__hash__") ⟨[.int i t],[]⟩) s r:=⟨_,i,t,rfl,rfl⟩
 refine (dif_pos h).trans (congrArg some ?_)
 obtain ⟨j,u,e1,e2⟩:=h.choose_spec
 rw [e2]
 cases e1
 rfl
theorem intC_right {p:Program} {w:World} {n₀:Nat} {ann:Option Value} {q:Pos} (c₀:Code) (s:Shared) (r:Result) (s':Shared) (m:Nat) (e:intC c₀ s=some (r,s',m)) (K:Result -> Sem Fin) (h:Option Value) (g:Bool) (l:List Value) (code:Code) (pos:Pos) (kept:List Value) :
  segGo treeTable p w n₀ ann 1 m s ⟨denote treeTable c₀,c₀,pos,[.ret K h g l code pos kept,topFrame q]⟩=some (s',⟨K r,code,pos,[topFrame q]⟩):=by
 unfold intC at e
 by_cases hx:∃ r,IntR c₀ s r
 ·rw [dif_pos hx] at e
  obtain ⟨i,t,e1,e2⟩:=hx.choose_spec
  rw [e2] at e
  cases e
  subst e1;exact hash_runs i t _ _ _ _ _ K h g l code pos kept
 ·rw [dif_neg hx] at e;cases e

section
variable {S:Setting} {ok:Addr -> Bool} {C:Code -> Shared -> Option (Result×Shared×Nat)} {α β:Type}
theorem cond_is {α:Type} {b:Bool} {x:Option α} (h:b=true):cond b x none=x:=by rw [h];rfl
theorem sim_bind' (f:α -> Sem β) {s₂:Shared} {p₂:Pos} {b:β} {m:Nat} {a:α} {s₁:Shared} {p₁:Pos} (h2:sim S ok C (f a) s₁ p₁=some (b,s₂,p₂,m)):∀ (x:Sem α) (s:Shared) (p:Pos) (n:Nat),sim S ok C x s p=some (a,s₁,p₁,n) -> sim S ok C (x.bind f) s p=some (b,s₂,p₂,m+n):=by
 intro x;induction x with
 | pure a₀=>intro s p n h1;cases h1;exact h2
 | load a₀ part k ih =>
  intro s p n h1;refine bind_cut h1 fun o ho h=>?_
  obtain ⟨n1,rfl,e⟩:=tick_some h
  exact Option.bind_eq_some_iff.mpr ⟨o,ho,tick_mk (ih _ _ _ _ e)⟩
 | update a₀ part g k ih =>
  intro s p n h1;refine cond_cut h1 fun ho h=>?_
  obtain ⟨n1,rfl,e⟩:=tick_some h
  exact (cond_is ho).trans (tick_mk (ih _ _ _ _ e))
 | call c h g l k ih =>
  intro s p n h1;refine bind_cut h1 fun o ho h=>?_
  obtain ⟨n1,rfl,e⟩:=tick_some h
  rw [<- Nat.add_assoc]
  exact Option.bind_eq_some_iff.mpr ⟨o,ho,tick_mk (ih _ _ _ _ e)⟩
 | rule t k ih | «at» t k ih | alloc t k ih | point t k ih | fresh k ih | ask k ih =>
  intro s p n h1;obtain ⟨n1,rfl,e⟩:=tick_some h1
  exact tick_mk (ih _ _ _ _ e)
 | _=>intro s p n h;exact no_some h
theorem sim_bind {f:α -> Sem β} {x:Sem α} {s s₁ s₂:Shared} {p p₁ p₂:Pos} {a:α} {b:β} {n m k:Nat} (h1:sim S ok C x s p=some (a,s₁,p₁,n)) (h2:sim S ok C (f a) s₁ p₁=some (b,s₂,p₂,m)) (hk:m+n=k:=by omega) :
  sim S ok C (x >>= f) s p=some (b,s₂,p₂,k):=by
 subst hk;exact sim_bind' f h2 x s p n h1
theorem sim_keep (vs:List Value):∀ (x:Sem α) (s:Shared) (p:Pos),sim S ok C (x.keep vs) s p=sim S ok C x s p:=by
 intro x;induction x with
 | load a part k ih=>intro s p;exact congrArg (Option.bind _) (funext fun o=>congrArg (tick 1) (ih o s p))
 | update a part g k ih=>intro s p;exact congrArg (fun z=>cond _ (tick 1 z) none) (ih () _ p)
 | call c h g l k ih=>intro s p;exact congrArg (Option.bind _) (funext fun o=>congrArg (tick _) (ih _ _ p))
 | rule t k ih | «at» t k ih | alloc t k ih | point t k ih | fresh k ih | ask k ih=>intro s p;exact congrArg (tick 1) (ih _ _ _)
 | _=>intro s p;rfl
theorem sim_holding (vs:List Value) (x:Sem α) (s:Shared) (p:Pos):sim S ok C (holding vs x) s p=sim S ok C x s p:=by
 unfold holding
 split
 ·rfl
 ·exact sim_keep _ x s p
theorem sim_onRaise (f:Value -> Sem Unit):∀ (x:Sem α) (s:Shared) (p:Pos) (a:α) (s':Shared) (p':Pos) (n:Nat),sim S ok C x s p=some (a,s',p',n) -> sim S ok C (x.onRaise f) s p=some (a,s',p',n):=by
 intro x;induction x with
 | pure a=>intro s p a s' p' n h;exact h
 | load a part k ih | call c h g l k ih =>
  intro s p a s' p' n h1;refine bind_cut h1 fun o ho h=>?_
  obtain ⟨n1,rfl,e⟩:=tick_some h
  exact Option.bind_eq_some_iff.mpr ⟨o,ho,tick_mk (ih _ _ _ _ _ _ _ e)⟩
 | update a part g k ih =>
  intro s p a s' p' n h1;refine cond_cut h1 fun ho h=>?_
  obtain ⟨n1,rfl,e⟩:=tick_some h
  exact (cond_is ho).trans (tick_mk (ih _ _ _ _ _ _ _ e))
 | rule t k ih | «at» t k ih | alloc t k ih | point t k ih | fresh k ih | ask k ih =>
  intro s p a s' p' n h1;obtain ⟨n1,rfl,e⟩:=tick_some h1
  exact tick_mk (ih _ _ _ _ _ _ _ e)
 | _=>intro s p a s' p' n h;exact no_some h
end

noncomputable def heapL (h:Heap) (l:List Obj):Heap:=⟨h.objs ++ l.toArray,h.life⟩
theorem heapL_nil (h:Heap):heapL h []=h:=by simp [heapL]
theorem heapL_size (h:Heap) (l:List Obj):(heapL h l).objs.size=h.objs.size+l.length:=by simp [heapL]
theorem heapL_push (h:Heap) (l:List Obj) (o:Obj):(heapL h l).push o=heapL h (l ++ [o]):=by
 simp [heapL,Heap.push]
theorem heapL_get {h:Heap} {l:List Obj} {i:Nat} {o:Obj} (e:l[i]?=some o):(heapL h l).get? (h.objs.size+i)=alive o:=by
 unfold Heap.get? heapL
 have:(h.objs ++ l.toArray)[h.objs.size+i]?=some o:=by
  rw [Array.getElem?_append_right (by omega)];simpa using e
 dsimp only
 rw [this]
 obtain ⟨c,d,dt,sl⟩:=o
 cases dt<;>rfl
theorem heapL_update (h:Heap) (l:List Obj) (i:Nat) (f:Obj -> Obj):(heapL h l).update (h.objs.size+i) f=heapL h (l.modify i f):=by
 show Heap.mk ((h.objs ++ l.toArray).modify (h.objs.size+i) f) h.life=Heap.mk _ _
 congr 1
 apply Array.ext_getElem?
 intro j;rw [Array.getElem?_modify]
 by_cases hj:j < h.objs.size
 ·rw [Array.getElem?_append_left hj,Array.getElem?_append_left hj,if_neg (by omega)]
 ·rw [Array.getElem?_append_right (by omega),Array.getElem?_append_right (by omega)]
  simp only [List.getElem?_toArray,List.getElem?_modify]
  by_cases e:h.objs.size+i=j
  ·have:i=j - h.objs.size:=by omega
   rw [if_pos e,this];cases l[j - h.objs.size]?<;>simp
  ·have:¬ i=j - h.objs.size:=by omega
   rw [if_neg e];cases l[j - h.objs.size]?<;>simp [this]
theorem dictO_push (es:List DictEntry) (e:DictEntry):Obj.mapDictKeys (·.push e) (dictO es)=dictO (es ++ [e]):=by
 simp [dictO,Obj.mapDictKeys]
end
section
open PySem PySem.W PyProof.Rows PySem.Calls
section
variable {S:Setting} {ok:Addr -> Bool}
theorem spec_hash (i:Int) (t:Tok):specialOf (.int i t) "__hash__"=pure (some (.builtin "int.__hash__")):=by
 show typeLookup (.type "int") _=_;rw [typeLookup_type,builtinLookup_eq_fast];kernel_rfl
theorem bind_hash (i:Int) (t:Tok):bindSpecial (.builtin "int.__hash__") (.int i t)=pure (.builtin "int.__hash__",[.int i t]):=by
 have h:typeOf (.builtin "int.__hash__")=pure (.type "wrapper_descriptor"):=by show builtinType _=_;rw [builtinType_eq_fast];kernel_rfl
 unfold bindSpecial
 rw [h]
 rfl
theorem sim_hash (i:Int) (t:Tok) (s:Shared) (p:Pos):sim S ok intC (pyHash (.int i t)) s p=some (hashInt i,{ s with toks:=s.toks+1 },p,5):=by
 have hr:=rawHash_range i
 show sim S ok intC (pyHashByItsType (.int i t)) s p=_
 unfold pyHashByItsType
 rw [spec_hash]
 show sim S ok intC (callSpecialIfBoundUnlessNone? (.int i t) "__hash__" _ >>= _) s p=_
 refine sim_bind (n:=5) (m:=0) (a:=some (.int (rawHash i) s.toks)) (s₁:={ s with toks:=s.toks+1 }) (p₁:=p) ?_ ?_
 ·unfold callSpecialIfBoundUnlessNone? bindSpecialIfBound?
  rw [spec_hash,sim_holding]
  simp -iota only [pure_bind,bind_hash]
  have e2:sim S ok intC (if (Value.builtin "int.__hash__" == Value.none)=true then (do let r <- ((do rule "hash.unhashable";raiseError "TypeError" s!"unhashable type: '{← typeNameOf (.int i t)}'"):Sem Value);pure (some r)) else do
    let r <- call (.builtin "int.__hash__") [.int i t]
    pure (some r)) s p=some (some (.int (rawHash i) s.toks),{ s with toks:=s.toks+1 },p,4):=by
   rw [if_neg (fun h=>absurd (eq_of_beq h) (fun z=>by cases z))]
   refine sim_bind (n:=4) (m:=0) (a:=.int (rawHash i) s.toks) (s₁:={ s with toks:=s.toks+1 }) (p₁:=p) ?_ rfl
   exact (congrArg (Option.bind · _) (intC_eq i t s)).trans rfl
  cases hf:S.params.followText "special-get-raises" with
  | true =>
   show Option.map _ (sim S ok intC ((if S.params.followText "special-get-raises"=true then _ else _) >>= _) s p)=_
   rw [hf,if_pos rfl]
   exact (congrArg (Option.map _) e2).trans rfl
  | false =>
   show Option.map _ (sim S ok intC ((if S.params.followText "special-get-raises"=true then _ else _) >>= _) s p)=_
   rw [hf,if_neg Bool.false_ne_true]
   exact (congrArg (Option.map _) e2).trans rfl
 ·show sim S ok intC (pyHashByItsType.reduced (rawHash i)) _ _=_
  unfold pyHashByItsType.reduced
  show sim S ok intC (if (decide (-(2:Int) ^ 63 <= rawHash i) && decide (rawHash i < 2 ^ 63))=true then _ else _) _ _=_
  rw [if_pos (by rw [decide_eq_true hr.1,decide_eq_true hr.2];rfl)]
  rfl

theorem places_none {es:List DictEntry} {k:Int} (hk:∀ e∈es,e.hash≠k):placesWithHash es.toArray.size (fun i=>es.toArray[i]?.map (·.hash)) k=[]:=by
 unfold placesWithHash
 rw [List.filter_eq_nil_iff]
 intro j hj;simp -iota only [List.getElem?_toArray,beq_iff_eq,Option.map_eq_some_iff,not_exists,not_and]
 intro e he;exact hk e (List.mem_of_getElem? he)
theorem sim_load {C:Code -> Shared -> Option (Result×Shared×Nat)} {a:Addr} {part:Option Value} {s:Shared} {p:Pos} {o:Obj} (e:s.heap.get? a=some o):sim S ok C (loadPart a part) s p=some (o,s,p,1):=by
 exact (congrArg (Option.bind · _) e).trans rfl
theorem sim_entries {C:Code -> Shared -> Option (Result×Shared×Nat)} {h:Heap} {l:List Obj} {i:Nat} {es:List DictEntry} {g:Array GenState} {dr:Drawn} {tk:Nat} {os:OsState} {p:Pos} {part:Option Value} (hl:l[i]?=some (dictO es)) :
  sim S ok C (dictEntries (h.objs.size+i) part) ⟨heapL h l,g,dr,tk,os⟩ p=some (es.toArray,⟨heapL h l,g,dr,tk,os⟩,p,1):=by
 unfold dictEntries
 exact sim_bind (n:=1) (m:=0) (sim_load (heapL_get hl)) rfl
theorem sim_find {C:Code -> Shared -> Option (Result×Shared×Nat)} {h:Heap} {l:List Obj} {i:Nat} {es:List DictEntry} {k:Int} {t:Tok} {g:Array GenState} {dr:Drawn} {tk:Nat} {os:OsState} {p:Pos} (hl:l[i]?=some (dictO es)) (hk:∀ e∈es,e.hash≠hashInt k) :
  sim S ok C (dictFind (h.objs.size+i) (.int k t) (hashInt k)) ⟨heapL h l,g,dr,tk,os⟩ p=some (none,⟨heapL h l,g,dr,tk,os⟩,p,1):=by
 unfold dictFind
 rw [sim_holding]
 refine sim_bind (n:=1) (m:=0) (sim_entries hl) ?_
 dsimp only
 rw [places_none hk]
 rfl
theorem sim_putKey {C:Code -> Shared -> Option (Result×Shared×Nat)} {h:Heap} {l:List Obj} {i:Nat} {es:List DictEntry} {e:DictEntry} {g:Array GenState} {dr:Drawn} {tk:Nat} {os:OsState} {p:Pos} {part:Option Value} (hl:l[i]?=some (dictO es)) (hok:ok (h.objs.size+i)=true) (hs:es.length < sizeLine) :
  sim S ok C (updateDictKeys (h.objs.size+i) (·.push e) part) ⟨heapL h l,g,dr,tk,os⟩ p=some ((),⟨heapL h (l.set i (dictO (es ++ [e]))),g,dr,tk,os⟩,p,3):=by
 have e1:=heapL_get (h:=h) hl
 have hil:i < l.length:=(List.getElem?_eq_some_iff.mp hl).1
 have e2:(heapL h l).update (h.objs.size+i) (Obj.mapDictKeys (·.push e))=heapL h (l.set i (dictO (es ++ [e]))):=by
  rw [heapL_update]
  congr 1
  apply List.ext_getElem?
  intro j;rw [List.getElem?_modify,List.getElem?_set]
  by_cases hj:i=j
  ·subst hj;rw [hl,if_pos rfl,if_pos hil];simp -iota [dictO_push]
  ·rw [if_neg hj];cases l[j]?<;>simp -iota [hj]
 have e3:(l.set i (dictO (es ++ [e])))[i]?=some (dictO (es ++ [e])):=by rw [List.getElem?_set,if_pos rfl,if_pos hil]
 have e4:=heapL_get (h:=h) e3
 unfold updateDictKeys
 refine sim_bind (n:=1) (m:=2) (a:=dictO es) (s₁:=⟨heapL h l,g,dr,tk,os⟩) (p₁:=p) ?_ ?_
 ·exact sim_load e1
 ·show sim S ok C (updatePart (h.objs.size+i) part (Obj.mapDictKeys (·.push e)) >>= fun _=>lookBehind (h.objs.size+i) part) _ p=_
  refine sim_bind (n:=1) (m:=1) (a:=()) (s₁:=⟨heapL h (l.set i (dictO (es ++ [e]))),g,dr,tk,os⟩) (p₁:=p) ?_ ?_
  ·show cond (ok (h.objs.size+i) && ((heapL h l).get? (h.objs.size+i)).isSome) (tick 1 (sim S ok C (Sem.pure ()) ⟨(heapL h l).update (h.objs.size+i) (Obj.mapDictKeys (·.push e)),g,dr,tk,os⟩ p)) none=_
   rw [hok,e1,e2]
   rfl
  ·unfold lookBehind
   refine sim_bind (n:=1) (m:=0) (a:=dictO (es ++ [e])) (s₁:=⟨heapL h (l.set i (dictO (es ++ [e]))),g,dr,tk,os⟩) (p₁:=p) ?_ ?_
   ·exact sim_load e4
   ·have e5:(dictO (es ++ [e])).data.pastItsLine=none:=by
     show (if (es ++ [e]).toArray.size > sizeLine+1 then some "dict:memory" else none)=none
     rw [if_neg (by simp;omega)]
    rw [e5]
    rfl
theorem sim_set {h:Heap} {l:List Obj} {i:Nat} {es:List DictEntry} {k:Int} {t:Tok} {v:Value} {g:Array GenState} {dr:Drawn} {tk:Nat} {os:OsState} {p:Pos} (hl:l[i]?=some (dictO es)) (hk:∀ e∈es,e.hash≠hashInt k) (hok:ok (h.objs.size+i)=true) (hs:es.length < sizeLine) :
  sim S ok intC (dictSet (h.objs.size+i) (.int k t) v) ⟨heapL h l,g,dr,tk,os⟩ p=some ((),⟨heapL h (l.set i (dictO (es ++ [⟨hashInt k,.int k t,v⟩]))),g,dr,tk+1,os⟩,p,10):=by
 unfold dictSet
 rw [sim_holding]
 refine sim_bind (n:=5) (m:=5) (sim_hash k t _ p) ?_
 unfold dictSetHashed
 rw [sim_holding]
 refine sim_bind (n:=1) (m:=4) (sim_find hl hk) ?_
 refine sim_bind (n:=1) (m:=3) (a:=()) (s₁:=⟨heapL h l,g,dr,tk+1,os⟩) (p₁:=p) rfl ?_
 exact sim_putKey hl hok hs
end
end
section
open PySem PySem.W PyProof.Rows PySem.Calls
noncomputable def keyT (q:Int×Str):Sem Value:=mkInt q.1
noncomputable def valT (pos:Pos) (q:Int×Str):Sem Value:=do let x <- mkText q.2;standAt pos;pure x
section
variable {S:Setting} {ok:Addr -> Bool} {h:Heap} {g:Array GenState} {dr:Drawn} {os:OsState} {pos:Pos} {l:List Obj} {i tk:Nat} {es:List DictEntry}
theorem sim_key (q:Int×Str) (s:Shared) (p:Pos):sim S ok intC (keyT q) s p=some (.int q.1 s.toks,{ s with toks:=s.toks+1 },p,1):=rfl
theorem sim_val (q:Int×Str) (s:Shared) (p:Pos):sim S ok intC (valT pos q) s p=some (.str q.2 s.toks,{ s with toks:=s.toks+1 },pos,2):=rfl
theorem list_set_self {o:Obj} (hl:l[i]?=some o):l.set i o=l:=by
 obtain ⟨hi,e⟩:=List.getElem?_eq_some_iff.mp hl
 rw [<- e];exact List.set_getElem_self hi
theorem get_set {o o':Obj} (hl:l[i]?=some o):(l.set i o')[i]?=some o':=by
 have hi:=(List.getElem?_eq_some_iff.mp hl).1
 rw [List.getElem?_set,if_pos rfl,if_pos hi]
noncomputable def Fresh (es:List DictEntry) (qs:List (Int×Str)):Prop:=(∀ e∈es,∀ q∈qs,e.hash≠hashInt q.1) /\ qs.Pairwise fun a b=>hashInt a.1≠hashInt b.1
theorem Fresh.step {q:Int×Str} {qs:List (Int×Str)} {e:DictEntry} (F:Fresh es (q::qs)) (he:e.hash=hashInt q.1):Fresh (es ++ [e]) qs:=by
 refine ⟨fun e' h' q' hq'=>?_,(List.pairwise_cons.mp F.2).2⟩
 rcases List.mem_append.mp h' with h' | h'
 ·exact F.1 e' h' q' (.tail _ hq')
 ·rw [List.mem_singleton] at h';subst h'
  rw [he];exact (List.pairwise_cons.mp F.2).1 q' hq'
theorem entsBy_c {st tk:Nat} {q:Int×Str} {r:List (Int×Str)}:entsBy st tk (q::r)=entry3 tk q::entsBy st (tk+st) r:=rfl
theorem entsBy_n {st tk:Nat}:entsBy st tk []=[]:=rfl
theorem entsBy_length (st:Nat):∀ (tk:Nat) (qs:List (Int×Str)),(entsBy st tk qs).length=qs.length
 | _,[]=>rfl
 | tk,q::qs=>by simp [entsBy_c,entsBy_length st (tk+st) qs]

theorem sim_loopL {f:Sem Value×Sem Value -> PUnit -> Sem (ForInStep PUnit)} (hok:ok (h.objs.size+i)=true)
  (hf:∀ q,f (keyT q,valT pos q) PUnit.unit=(do let kv <- keyT q;let vv <- holding [kv] (valT pos q);holding [kv,vv] (dictSet (h.objs.size+i) kv vv);pure (.yield PUnit.unit))) :
  ∀ (qs:List (Int×Str)) (l:List Obj) (es:List DictEntry) (tk:Nat),l[i]?=some (dictO es) -> Fresh es qs -> es.length+qs.length <= sizeLine →
   sim S ok intC (forIn (qs.map fun q=>(keyT q,valT pos q)) PUnit.unit f) ⟨heapL h l,g,dr,tk,os⟩ pos=some (PUnit.unit,⟨heapL h (l.set i (dictO (es ++ entsBy 3 tk qs))),g,dr,tk+3 * qs.length,os⟩,pos,13 * qs.length)
 | [],l,es,tk,hl,F,hs=>by
  simp only [List.map_nil,List.forIn_nil,entsBy_n,List.append_nil,List.length_nil,Nat.mul_zero,Nat.add_zero]
  rw [list_set_self hl];rfl
 | q::qs,l,es,tk,hl,F,hs=>by
  rw [List.length_cons] at hs
  rw [List.map_cons,List.forIn_cons,hf]
  have e1:sim S ok intC (do let kv <- keyT q;let vv <- holding [kv] (valT pos q);holding [kv,vv] (dictSet (h.objs.size+i) kv vv);pure (ForInStep.yield PUnit.unit):Sem (ForInStep PUnit)) ⟨heapL h l,g,dr,tk,os⟩ pos =
    some (.yield PUnit.unit,⟨heapL h (l.set i (dictO (es ++ [entry3 tk q]))),g,dr,tk+3,os⟩,pos,13):=by
   refine sim_bind (n:=1) (m:=12) (sim_key q _ pos) ?_
   refine sim_bind (n:=2) (m:=10) (by rw [sim_holding];exact sim_val q _ pos) ?_
   refine sim_bind (n:=10) (m:=0) (by rw [sim_holding];exact sim_set hl (fun e he=>F.1 e he q (.head _)) hok (by omega)) ?_
   rfl
  have ih:=sim_loopL hok hf qs (l.set i (dictO (es ++ [entry3 tk q]))) (es ++ [entry3 tk q]) (tk+3) (get_set hl) (F.step rfl) (by simp only [List.length_append,List.length_cons,List.length_nil];omega)
  rw [List.set_set] at ih
  refine Eq.trans (sim_bind e1 (by exact ih) rfl) ?_
  rw [entsBy_c,List.append_assoc,List.length_cons]
  simp only [List.singleton_append,Option.some.injEq,Prod.mk.injEq,Shared.mk.injEq,true_and,and_true]
  omega

noncomputable def valsBy:Nat -> List (Int×Str) -> List (Value×Value)
 | _,[]=>[]
 | tk,q::qs=>(.int q.1 tk,.str q.2 (tk+1))::valsBy (tk+2) qs
theorem valsBy_c {tk:Nat} {q:Int×Str} {qs:List (Int×Str)}:valsBy tk (q::qs)=(.int q.1 tk,.str q.2 (tk+1))::valsBy (tk+2) qs:=rfl
theorem valsBy_n {tk:Nat}:valsBy tk []=[]:=rfl
theorem sim_pairsS:∀ (qs:List (Int×Str)) (s:Shared),sim S ok intC (evalPairs (qs.map fun q=>(keyT q,valT pos q))) s pos=some (valsBy s.toks qs,{ s with toks:=s.toks+2 * qs.length },pos,3 * qs.length)
 | [],s=>rfl
 | q::qs,s=>by
  rw [List.map_cons,evalPairs]
  have ih:=sim_pairsS qs { s with toks:=s.toks+1+1 }
  have e:=sim_bind (S:=S) (ok:=ok) (C:=intC) (n:=1) (m:=3 * qs.length+2) (k:=3 * (q::qs).length) (f:=fun kv=>(do let vv <- holding [kv] (valT pos q);return (kv,vv)::(← holding [kv,vv] (evalPairs (qs.map fun q=>(keyT q,valT pos q)))):Sem (List (Value×Value)))) (sim_key q s pos)
   (sim_bind (n:=2) (m:=3 * qs.length) (f:=fun vv=>(do return (.int q.1 s.toks,vv)::(← holding [.int q.1 s.toks,vv] (evalPairs (qs.map fun q=>(keyT q,valT pos q)))):Sem (List (Value×Value)))) (by rw [sim_holding];exact sim_val q _ pos)
    (sim_bind (n:=3 * qs.length) (m:=0) (f:=fun vs=>(pure ((.int q.1 s.toks,.str q.2 (s.toks+1))::vs):Sem (List (Value×Value)))) (by rw [sim_holding];exact ih) rfl)) (by rw [List.length_cons];omega)
  refine Eq.trans e ?_
  simp only [valsBy_c,List.length_cons,Option.some.injEq,Prod.mk.injEq,Shared.mk.injEq,true_and,and_true]
  omega
theorem sim_loopS {f:Value×Value -> PUnit -> Sem (ForInStep PUnit)} (hok:ok (h.objs.size+i)=true)
  (hf:∀ kv vv,f (kv,vv) PUnit.unit=(do dictSet (h.objs.size+i) kv vv;pure (.yield PUnit.unit))) :
  ∀ (qs:List (Int×Str)) (l:List Obj) (es:List DictEntry) (t0 tk:Nat),l[i]?=some (dictO es) -> Fresh es qs -> es.length+qs.length <= sizeLine →
   sim S ok intC (forIn (valsBy t0 qs) PUnit.unit f) ⟨heapL h l,g,dr,tk,os⟩ pos=some (PUnit.unit,⟨heapL h (l.set i (dictO (es ++ entsBy 2 t0 qs))),g,dr,tk+qs.length,os⟩,pos,10 * qs.length)
 | [],l,es,t0,tk,hl,F,hs=>by
  simp only [valsBy_n,List.forIn_nil,entsBy_n,List.append_nil,List.length_nil,Nat.mul_zero,Nat.add_zero]
  rw [list_set_self hl];rfl
 | q::qs,l,es,t0,tk,hl,F,hs=>by
  rw [List.length_cons] at hs
  rw [valsBy_c,List.forIn_cons,hf]
  have e1:sim S ok intC (do dictSet (h.objs.size+i) (.int q.1 t0) (.str q.2 (t0+1));pure (ForInStep.yield PUnit.unit):Sem (ForInStep PUnit)) ⟨heapL h l,g,dr,tk,os⟩ pos =
    some (.yield PUnit.unit,⟨heapL h (l.set i (dictO (es ++ [entry3 t0 q]))),g,dr,tk+1,os⟩,pos,10) :=
   sim_bind (n:=10) (m:=0) (sim_set hl (fun e he=>F.1 e he q (.head _)) hok (by omega)) rfl
  have ih:=sim_loopS hok hf qs (l.set i (dictO (es ++ [entry3 t0 q]))) (es ++ [entry3 t0 q]) (t0+2) (tk+1) (get_set hl) (F.step rfl) (by simp only [List.length_append,List.length_cons,List.length_nil];omega)
  rw [List.set_set] at ih
  refine Eq.trans (sim_bind e1 (by exact ih) rfl) ?_
  rw [entsBy_c,List.append_assoc,List.length_cons]
  simp only [List.singleton_append,Option.some.injEq,Prod.mk.injEq,Shared.mk.injEq,true_and,and_true]
  omega
theorem set_last (l:List Obj) (o o':Obj):(l ++ [o]).set l.length o'=l ++ [o']:=by simp
theorem get_last (l:List Obj) (o:Obj):(l ++ [o])[l.length]?=some o:=by simp
theorem fresh_nil {qs:List (Int×Str)} (F:qs.Pairwise fun a b=>hashInt a.1≠hashInt b.1):Fresh [] qs:=⟨fun _ he=>(nomatch he),F⟩
theorem sim_subL {qs:List (Int×Str)} (hok:ok (h.objs.size+l.length)=true) (F:qs.Pairwise fun a b=>hashInt a.1≠hashInt b.1) (h1:15 < qs.length) (h2:qs.length <= 1000) :
  sim S ok intC (subDict (qs.map fun q=>(keyT q,valT pos q))) ⟨heapL h l,g,dr,tk,os⟩ pos=some (h.objs.size+l.length,⟨heapL h (l ++ [dictO (entsBy 3 tk qs)]),g,dr,tk+3 * qs.length,os⟩,pos,13 * qs.length+2):=by
 unfold subDict
 have e0:sim S ok intC (alloc { cls:=.type "dict",data:=.dict #[] }) ⟨heapL h l,g,dr,tk,os⟩ pos=some (h.objs.size+l.length,⟨heapL h (l ++ [dictO []]),g,dr,tk,os⟩,pos,1):=by
  show some _=_
  rw [heapL_size,heapL_push];rfl
 refine (sim_bind (m:=13 * qs.length+1) e0 ?_)
 rw [if_neg (by rw [List.length_map];omega)]
 have lp:=sim_loopL (S:=S) (ok:=ok) (h:=h) (i:=l.length) (g:=g) (dr:=dr) (os:=os) (pos:=pos) (f:=fun (x:Sem Value×Sem Value) (_:PUnit)=>(do let kv <- x.1;let vv <- holding [kv] x.2;holding [kv,vv] (dictSet (h.objs.size+l.length) kv vv);pure (.yield PUnit.unit):Sem (ForInStep PUnit)))
  hok (fun q=>rfl) qs (l ++ [dictO []]) [] tk (get_last l _) (fresh_nil F) (by rw [sizeLine_eq,List.length_nil];omega)
 rw [set_last,List.nil_append] at lp
 refine' sim_bind (n:=13 * qs.length+1) (m:=0) (a:=()) ?h1 ?h2 ?h3
 case h2=>exact rfl
 case h3=>omega
 rw [sim_holding]
 refine sim_bind (n:=1) (m:=13 * qs.length) (a:=()) rfl ?_
 exact sim_bind (f:=fun _=>pure PUnit.unit) (m:=0) lp rfl (by omega)
theorem sim_subS {qs:List (Int×Str)} (hok:ok (h.objs.size+l.length)=true) (F:qs.Pairwise fun a b=>hashInt a.1≠hashInt b.1) (h1:qs.length <= 15) :
  sim S ok intC (subDict (qs.map fun q=>(keyT q,valT pos q))) ⟨heapL h l,g,dr,tk,os⟩ pos=some (h.objs.size+l.length,⟨heapL h (l ++ [dictO (entsBy 2 tk qs)]),g,dr,tk+3 * qs.length,os⟩,pos,13 * qs.length+1):=by
 unfold subDict
 have e0:sim S ok intC (alloc { cls:=.type "dict",data:=.dict #[] }) ⟨heapL h l,g,dr,tk,os⟩ pos=some (h.objs.size+l.length,⟨heapL h (l ++ [dictO []]),g,dr,tk,os⟩,pos,1):=by
  show some _=_
  rw [heapL_size,heapL_push];rfl
 refine (sim_bind (m:=13 * qs.length) e0 ?_)
 rw [if_pos (by rw [List.length_map];omega)]
 have lp:=sim_loopS (S:=S) (ok:=ok) (h:=h) (i:=l.length) (g:=g) (dr:=dr) (os:=os) (pos:=pos) (f:=fun (x:Value×Value) (_:PUnit)=>(do dictSet (h.objs.size+l.length) x.1 x.2;pure (.yield PUnit.unit):Sem (ForInStep PUnit)))
  hok (fun _ _=>rfl) qs (l ++ [dictO []]) [] tk (tk+2 * qs.length) (get_last l _) (fresh_nil F) (by rw [sizeLine_eq,List.length_nil];omega)
 rw [set_last,List.nil_append,show tk+2 * qs.length+qs.length=tk+3 * qs.length by omega] at lp
 refine' sim_bind (n:=13 * qs.length) (m:=0) (a:=()) ?h1 ?h2 ?h3
 case h2=>exact rfl
 case h3=>omega
 rw [sim_holding,show 13 * qs.length=10 * qs.length+3 * qs.length by omega]
 refine sim_bind (n:=3 * qs.length) (m:=10 * qs.length) (sim_pairsS qs _) ?_ (by omega)
 rw [sim_holding]
 exact sim_bind (f:=fun _=>pure PUnit.unit) (m:=0) lp rfl (by omega)
noncomputable def IntEnt (e:DictEntry):Prop:=∃ k t,e.key=.int k t /\ e.hash=hashInt k
theorem entsBy_int (st:Nat) (tk:Nat) (qs:List (Int×Str)):∀ e∈entsBy st tk qs,IntEnt e:=by
 induction qs generalizing tk with
 | nil=>exact fun e he=>absurd he List.not_mem_nil
 | cons q qs ih =>
  intro e he;rcases List.mem_cons.mp he with rfl | he
  ·exact ⟨q.1,tk,rfl,rfl⟩
  ·exact ih (tk+st) e he
theorem sim_put {e:DictEntry} (hl:l[i]?=some (dictO es)) (he:IntEnt e) (hk:∀ e'∈es,e'.hash≠e.hash) (hok:ok (h.objs.size+i)=true) (hs:es.length < sizeLine) {p:Pos} :
  sim S ok intC (dictPut (h.objs.size+i) e.hash e.key e.val) ⟨heapL h l,g,dr,tk,os⟩ p=some ((),⟨heapL h (l.set i (dictO (es ++ [e]))),g,dr,tk,os⟩,p,4):=by
 obtain ⟨hash,key,val⟩:=e
 obtain ⟨k,t,e1,e2⟩:=he
 dsimp only at e1 e2 hk
 subst e1 e2
 unfold dictPut
 refine sim_bind (n:=1) (m:=3) (sim_find hl hk) ?_
 exact sim_putKey hl hok hs
theorem sim_epoch {p:Pos} {part:Option Value} (hl:l[i]?=some (dictO es)):sim S ok intC (dictEpoch (h.objs.size+i) part) ⟨heapL h l,g,dr,tk,os⟩ p=some (es.length,⟨heapL h l,g,dr,tk,os⟩,p,1):=by
 unfold dictEpoch
 exact sim_bind (n:=1) (m:=0) (sim_load (heapL_get hl)) rfl
theorem sim_mergeLoop {j:Nat} {es₁:List DictEntry} {f:Nat -> PUnit -> Sem (ForInStep PUnit)} (hok:ok (h.objs.size+i)=true) (hij:i≠j)
  (hf:∀ n,f n PUnit.unit=(do
   let some e:=(← dictEntries (h.objs.size+j))[n]? | unsupported "dict.changed-during-merge"
   holding [e.key,e.val] do
    dictPut (h.objs.size+i) e.hash e.key e.val
   if (← dictEpoch (h.objs.size+j)) != es₁.length then unsupported "dict.changed-during-merge"
   pure (.yield PUnit.unit))) :
  ∀ (rest:List DictEntry) (a:Nat) (l:List Obj) (es:List DictEntry),es₁.drop a=rest -> l[i]?=some (dictO es) -> l[j]?=some (dictO es₁) -> (∀ e∈rest,IntEnt e) -> (∀ e'∈es,∀ e∈rest,e'.hash≠e.hash) -> rest.Pairwise (fun a b=>a.hash≠b.hash) -> es.length+rest.length <= sizeLine →
   sim S ok intC (forIn (List.range' a rest.length) PUnit.unit f) ⟨heapL h l,g,dr,tk,os⟩ pos=some (PUnit.unit,⟨heapL h (l.set i (dictO (es ++ rest))),g,dr,tk,os⟩,pos,6 * rest.length)
 | [],a,l,es,hd,hl,hj,hi,h1,h2,hs=>by
  simp only [List.length_nil,List.range'_zero,List.forIn_nil,List.append_nil,Nat.mul_zero]
  rw [list_set_self hl];rfl
 | e::rest,a,l,es,hd,hl,hj,hi,h1,h2,hs=>by
  rw [List.length_cons] at hs
  rw [List.length_cons,List.range'_succ,List.forIn_cons,hf]
  have ea:es₁[a]?=some e:=by
   have:=congrArg List.head? hd
   rwa [List.head?_drop,List.head?_cons] at this
  have ed:es₁.drop (a+1)=rest:=by
   have:=congrArg List.tail hd
   rwa [List.tail_drop,List.tail_cons] at this
  have hj':(l.set i (dictO (es ++ [e])))[j]?=some (dictO es₁):=by rw [List.getElem?_set_ne hij];exact hj
  have e1:sim S ok intC (do
    let some e:=(← dictEntries (h.objs.size+j))[a]? | unsupported "dict.changed-during-merge"
    holding [e.key,e.val] do
     dictPut (h.objs.size+i) e.hash e.key e.val
    if (← dictEpoch (h.objs.size+j)) != es₁.length then unsupported "dict.changed-during-merge"
    pure (.yield PUnit.unit):Sem (ForInStep PUnit)) ⟨heapL h l,g,dr,tk,os⟩ pos=some (.yield PUnit.unit,⟨heapL h (l.set i (dictO (es ++ [e]))),g,dr,tk,os⟩,pos,6):=by
   refine sim_bind (n:=1) (m:=5) (sim_entries hj) ?_
   rw [List.getElem?_toArray,ea]
   refine sim_bind (n:=4) (m:=1) (by rw [sim_holding];exact sim_put hl (hi e (.head _)) (fun e' he'=>h1 e' he' e (.head _)) hok (by omega)) ?_
   refine sim_bind (n:=1) (m:=0) (sim_epoch hj') ?_
   rw [if_neg (by simp)]
   rfl
  have ih:=sim_mergeLoop hok hij hf rest (a+1) (l.set i (dictO (es ++ [e]))) (es ++ [e]) ed (get_set hl) hj' (fun e he=>hi e (.tail _ he)) (fun e' he' e'' he''=>by
   rcases List.mem_append.mp he' with he' | he'
   ·exact h1 e' he' e'' (.tail _ he'')
   ·rw [List.mem_singleton] at he';subst he'
    exact (List.pairwise_cons.mp h2).1 e'' he'') (List.pairwise_cons.mp h2).2 (by simp only [List.length_append,List.length_cons,List.length_nil];omega)
  rw [List.set_set] at ih
  refine Eq.trans (sim_bind e1 (by exact ih) rfl) ?_
  rw [List.append_assoc]
  simp only [List.singleton_append,Option.some.injEq,Prod.mk.injEq,true_and]
  omega
end
end
section
open PySem PySem.W PyProof.Rows PySem.Calls
section
variable {S:Setting} {ok:Addr -> Bool} {h:Heap} {g:Array GenState} {dr:Drawn} {os:OsState} {pos:Pos} {l:List Obj} {i tk:Nat} {es:List DictEntry}
theorem sub_dict:isSubtype (.type "dict") (.type "dict")=pure true:=by rw [isSubtype_type];kernel_rfl
theorem iter_dict:typeLookup (.type "dict") "__iter__"=pure (some (.builtin "dict.__iter__")):=by rw [typeLookup_type,builtinLookup_eq_fast];kernel_rfl
theorem sim_typeOf {p:Pos} (hl:l[i]?=some (dictO es)):sim S ok intC (typeOf (.ref (h.objs.size+i))) ⟨heapL h l,g,dr,tk,os⟩ p=some (.type "dict",⟨heapL h l,g,dr,tk,os⟩,p,1):=by
 show sim S ok intC (loadPart (h.objs.size+i) (some headPart) >>= fun o=>pure o.cls) _ _=_
 exact sim_bind (n:=1) (m:=0) (sim_load (heapL_get hl)) rfl
theorem sim_merge {j:Nat} {es₁:List DictEntry} (hl:l[i]?=some (dictO es)) (hj:l[j]?=some (dictO es₁)) (hne:es.isEmpty=false) (hij:i≠j) (hok:ok (h.objs.size+i)=true) (hsm:(h.objs.size+j == sysModules)=false)
  (hi:∀ e∈es₁,IntEnt e) (h1:∀ e'∈es,∀ e∈es₁,e'.hash≠e.hash) (h2:es₁.Pairwise (fun a b=>a.hash≠b.hash)) (hs:es.length+es₁.length <= sizeLine) :
  sim S ok intC (mergeMapping (h.objs.size+i) (.ref (h.objs.size+j)) false) ⟨heapL h l,g,dr,tk,os⟩ pos=some ((),⟨heapL h (l.set i (dictO (es ++ es₁))),g,dr,tk,os⟩,pos,6 * es₁.length+5):=by
 unfold mergeMapping
 refine sim_bind (n:=1) (m:=6 * es₁.length+4) (a:=true) (s₁:=⟨heapL h l,g,dr,tk,os⟩) (p₁:=pos) ?_ ?_
 ·unfold isInstance
  refine sim_bind (n:=1) (m:=0) (sim_typeOf hj) ?_
  rw [sub_dict];rfl
 ·dsimp only
  rw [if_pos rfl]
  refine sim_bind (n:=1) (m:=6 * es₁.length+3) (a:=some (.builtin "dict.__iter__")) (s₁:=⟨heapL h l,g,dr,tk,os⟩) (p₁:=pos) ?_ ?_
  ·unfold specialOf
   refine sim_bind (n:=1) (m:=0) (sim_typeOf hj) ?_
   rw [iter_dict];rfl
  ·rw [beq_self_eq_true]
   show sim S ok intC (if (h.objs.size+j == sysModules)=true then _ else _) _ _=_
   rw [hsm,if_neg Bool.false_ne_true]
   refine sim_bind (n:=1) (m:=6 * es₁.length+2) (sim_entries hl) ?_
   rw [if_neg (by cases es with | nil=>cases hne | cons=>simp)]
   refine sim_bind (n:=1) (m:=6 * es₁.length+1) (sim_entries hj) ?_
   refine sim_bind (n:=1) (m:=6 * es₁.length) (sim_epoch hj) ?_
   rw [List.size_toArray,List.range_eq_range']
   refine sim_bind (n:=6 * es₁.length) (m:=0) (a:=PUnit.unit) (s₁:=⟨heapL h (l.set i (dictO (es ++ es₁))),g,dr,tk,os⟩) (p₁:=pos) ?_ rfl
   refine sim_mergeLoop hok hij ?_ es₁ 0 l es rfl hl hj hi h1 h2 hs
   intro n;rfl

noncomputable abbrev Dist (qs:List (Int×Str)):Prop:=qs.Pairwise fun a b=>hashInt a.1≠hashInt b.1
theorem entsBy_app (st:Nat):∀ (tk:Nat) (a b:List (Int×Str)),entsBy st tk (a ++ b)=entsBy st tk a ++ entsBy st (tk+st * a.length) b
 | tk,[],b=>by simp [entsBy_n]
 | tk,q::a,b=>by
  rw [List.cons_append,entsBy_c,entsBy_c,entsBy_app st (tk+st) a b,List.cons_append,List.length_cons]
  congr 3
  rw [Nat.mul_succ];omega
theorem entsBy_hash (st tk:Nat) (qs:List (Int×Str)):∀ e∈entsBy st tk qs,∃ q∈qs,e.hash=hashInt q.1:=by
 induction qs generalizing tk with
 | nil=>intro e he;cases he
 | cons q qs ih =>
  intro e he;rcases List.mem_cons.mp he with rfl | he
  ·exact ⟨q,.head _,rfl⟩
  ·obtain ⟨q',h1,h2⟩:=ih (tk+st) e he
   exact ⟨q',.tail _ h1,h2⟩
theorem entsBy_dist (st:Nat):∀ (tk:Nat) (qs:List (Int×Str)),Dist qs -> (entsBy st tk qs).Pairwise fun a b=>a.hash≠b.hash
 | _,[],_=>.nil
 | tk,q::qs,F=>by
  rw [entsBy_c]
  obtain ⟨f1,f2⟩:=List.pairwise_cons.mp F
  refine List.pairwise_cons.mpr ⟨fun e he=>?_,entsBy_dist st (tk+st) qs f2⟩
  obtain ⟨q',h1,h2⟩:=entsBy_hash st _ qs e he
  rw [h2];exact f1 q' h1
noncomputable def flushD (run:List (Sem Value×Sem Value)) (main:Option Addr):Sem (Option Addr):=do
  if run.isEmpty then return main
  match main with
  | none=>return some (← subDict run)
  | some d =>
   let sub <- holding [.ref d] (subDict run)
   (holding [.ref d,.ref sub] (mergeMapping d (.ref sub) false)).onRaise fun x=>do let _ <- holding [.ref d,x] (runValue (.builtin "proto.let_go" {}))
   return some d
noncomputable def pairT (pos:Pos) (q:Int×Str):Sem Value×Sem Value:=(keyT q,valT pos q)
noncomputable def itemT (pos:Pos) (q:Int×Str):Option (Sem Value)×Sem Value:=(some (keyT q),valT pos q)
noncomputable abbrev StepD:=(Option (Sem Value)×Sem Value) -> (Option Addr×List (Sem Value×Sem Value)) -> Sem (ForInStep (Option Addr×List (Sem Value×Sem Value)))
structure Gathers (pos:Pos) (f:StepD):Prop where
 on:∀ q run m,run.length+1 < 17 -> f (itemT pos q) (m,run)=pure (.yield (m,run ++ [pairT pos q]))
 full:∀ q run m,run.length+1=17 -> f (itemT pos q) (m,run)=(flushD (run ++ [pairT pos q]) m >>= fun m'=>pure (.yield (m',[])))
theorem gather_last {f:StepD} (G:Gathers pos f):∀ (qs:List (Int×Str)) (run:List (Sem Value×Sem Value)) (m:Option Addr),run.length+qs.length < 17 -> forIn (qs.map (itemT pos)) (m,run) f=pure (m,run ++ qs.map (pairT pos))
 | [],run,m,_=>by simp
 | q::qs,run,m,hl=>by
  rw [List.length_cons] at hl
  rw [List.map_cons,List.forIn_cons,G.on q run m (by omega),pure_bind]
  have:=gather_last G qs (run ++ [pairT pos q]) m (by rw [List.length_append];simp;omega)
  simpa using this
theorem gather_full {f:StepD} (G:Gathers pos f) (rest:List (Int×Str)):∀ (qs:List (Int×Str)) (run:List (Sem Value×Sem Value)) (m:Option Addr),qs≠[] -> run.length+qs.length=17 →
  forIn ((qs ++ rest).map (itemT pos)) (m,run) f=(flushD (run ++ qs.map (pairT pos)) m >>= fun m'=>forIn (rest.map (itemT pos)) (m',[]) f)
 | [q],run,m,_,hl=>by
  rw [List.singleton_append,List.map_cons,List.forIn_cons,G.full q run m hl,bind_assoc]
  simp
 | q::q'::qs,run,m,_,hl=>by
  rw [List.length_cons,List.length_cons] at hl
  rw [List.cons_append,List.map_cons,List.forIn_cons,G.on q run m (by omega),pure_bind]
  have:=gather_full G rest (q'::qs) (run ++ [pairT pos q]) m (by simp) (by rw [List.length_append];simp;omega)
  simpa using this
theorem sim_flush0 {qs:List (Int×Str)} (hok:ok (h.objs.size+l.length)=true) (F:Dist qs) (h1:qs.length=17) :
  sim S ok intC (flushD (qs.map (pairT pos)) none) ⟨heapL h l,g,dr,tk,os⟩ pos=some (some (h.objs.size+l.length),⟨heapL h (l ++ [dictO (entsBy 3 tk qs)]),g,dr,tk+51,os⟩,pos,223):=by
 unfold flushD
 rw [if_neg (by cases qs with | nil=>cases h1 | cons=>simp)]
 have e:=sim_subL (S:=S) (ok:=ok) (h:=h) (g:=g) (dr:=dr) (os:=os) (pos:=pos) (tk:=tk) hok F (by omega) (by omega)
 rw [h1] at e
 exact sim_bind (n:=223) (m:=0) e rfl (by omega)
theorem onRaise_ok {x:Sem Unit} {f:Value -> Sem Unit} {s s':Shared} {p p':Pos} {n:Nat} (e:sim S ok intC x s p=some ((),s',p',n)):sim S ok intC (x.onRaise f) s p=some ((),s',p',n):=sim_onRaise f x s p _ _ _ _ e
theorem get_app {o:Obj} (hl:l[i]?=some o) (r:List Obj):(l ++ r)[i]?=some o:=by
 rw [List.getElem?_append_left (List.getElem?_eq_some_iff.mp hl).1];exact hl
theorem set_app {o:Obj} (hl:l[i]?=some o) (r:List Obj) (o':Obj):(l ++ r).set i o'=l.set i o' ++ r:=by
 have:=(List.getElem?_eq_some_iff.mp hl).1
 rw [List.set_append_left _ _ this]
theorem sim_flushL {qs:List (Int×Str)} (hl:l[i]?=some (dictO es)) (hne:es.isEmpty=false) (hok:ok (h.objs.size+i)=true) (hok2:ok (h.objs.size+l.length)=true) (hsm:(h.objs.size+l.length == sysModules)=false)
  (F:Dist qs) (h0:∀ e∈es,∀ q∈qs,e.hash≠hashInt q.1) (h1:qs.length=17) (hs:es.length <= 1000) :
  sim S ok intC (flushD (qs.map (pairT pos)) (some (h.objs.size+i))) ⟨heapL h l,g,dr,tk,os⟩ pos=some (some (h.objs.size+i),⟨heapL h (l.set i (dictO (es ++ entsBy 3 tk qs)) ++ [dictO (entsBy 3 tk qs)]),g,dr,tk+51,os⟩,pos,330):=by
 have hil:=(List.getElem?_eq_some_iff.mp hl).1
 unfold flushD
 rw [if_neg (by cases qs with | nil=>cases h1 | cons=>simp)]
 have e:=sim_subL (S:=S) (ok:=ok) (h:=h) (g:=g) (dr:=dr) (os:=os) (pos:=pos) (tk:=tk) hok2 F (by omega) (by omega)
 rw [h1] at e
 refine sim_bind (n:=223) (m:=107) (by rw [sim_holding];exact e) ?_ (by omega)
 have hz:(entsBy 3 tk qs).length=17:=by rw [entsBy_length,h1]
 have e2:=sim_merge (S:=S) (ok:=ok) (h:=h) (g:=g) (dr:=dr) (os:=os) (pos:=pos) (tk:=tk+51) (i:=i) (j:=l.length) (get_app hl [dictO (entsBy 3 tk qs)]) (get_last l (dictO (entsBy 3 tk qs))) hne (by omega) hok hsm (entsBy_int 3 tk qs)
  (fun e' he' e he=>by obtain ⟨q,h3,h4⟩:=entsBy_hash 3 tk qs e he;rw [h4];exact h0 e' he' q h3) (entsBy_dist 3 tk qs F) (by rw [hz,sizeLine_eq];omega)
 rw [hz,set_app hl] at e2
 exact sim_bind (n:=107) (m:=0) (onRaise_ok (by rw [sim_holding];exact e2)) rfl (by omega)
theorem sim_flushS {qs:List (Int×Str)} (hl:l[i]?=some (dictO es)) (hne:es.isEmpty=false) (hok:ok (h.objs.size+i)=true) (hok2:ok (h.objs.size+l.length)=true) (hsm:(h.objs.size+l.length == sysModules)=false)
  (F:Dist qs) (h0:∀ e∈es,∀ q∈qs,e.hash≠hashInt q.1) (hq:qs≠[]) (h1:qs.length <= 15) (hs:es.length <= 1000) :
  sim S ok intC (flushD (qs.map (pairT pos)) (some (h.objs.size+i))) ⟨heapL h l,g,dr,tk,os⟩ pos=some (some (h.objs.size+i),⟨heapL h (l.set i (dictO (es ++ entsBy 2 tk qs)) ++ [dictO (entsBy 2 tk qs)]),g,dr,tk+3 * qs.length,os⟩,pos,19 * qs.length+6):=by
 have hil:=(List.getElem?_eq_some_iff.mp hl).1
 unfold flushD
 rw [if_neg (by cases qs with | nil=>exact absurd rfl hq | cons=>simp)]
 have e:=sim_subS (S:=S) (ok:=ok) (h:=h) (g:=g) (dr:=dr) (os:=os) (pos:=pos) (tk:=tk) hok2 F h1
 refine sim_bind (n:=13 * qs.length+1) (m:=6 * qs.length+5) (by rw [sim_holding];exact e) ?_ (by omega)
 have hz:(entsBy 2 tk qs).length=qs.length:=entsBy_length 2 tk qs
 have e2:=sim_merge (S:=S) (ok:=ok) (h:=h) (g:=g) (dr:=dr) (os:=os) (pos:=pos) (tk:=tk+3 * qs.length) (i:=i) (j:=l.length) (get_app hl [dictO (entsBy 2 tk qs)]) (get_last l (dictO (entsBy 2 tk qs))) hne (by omega) hok hsm (entsBy_int 2 tk qs)
  (fun e' he' e he=>by obtain ⟨q,h3,h4⟩:=entsBy_hash 2 tk qs e he;rw [h4];exact h0 e' he' q h3) (entsBy_dist 2 tk qs F) (by rw [hz,sizeLine_eq];omega)
 rw [hz,set_app hl] at e2
 exact sim_bind (n:=6 * qs.length+5) (m:=0) (onRaise_ok (by rw [sim_holding];exact e2)) rfl (by omega)
end
end
section
open PySem PySem.W PyProof.Rows PySem.Calls
noncomputable def subsOf:Nat -> List (List (Int×Str)) -> List Obj
 | _,[]=>[]
 | tk,c::cs=>dictO (entsBy 3 tk c)::subsOf (tk+51) cs
theorem subsOf_c {tk:Nat} {c:List (Int×Str)} {cs:List (List (Int×Str))}:subsOf tk (c::cs)=dictO (entsBy 3 tk c)::subsOf (tk+51) cs:=rfl
theorem subsOf_n {tk:Nat}:subsOf tk []=[]:=rfl
section
variable {S:Setting} {ok:Addr -> Bool} {h:Heap} {g:Array GenState} {dr:Drawn} {os:OsState} {pos:Pos} {l:List Obj} {i tk:Nat} {es:List DictEntry}
theorem Dist.sub {a b:List (Int×Str)} (F:Dist (a ++ b)):Dist a /\ Dist b /\ ∀ x∈a,∀ y∈b,hashInt x.1≠hashInt y.1:=List.pairwise_append.mp F
theorem sim_chunks {f:StepD} (G:Gathers pos f) (last:List (Int×Str)) (hlast:last.length < 17) (t0:Nat) (hok:∀ n,ok (h.objs.size+n)=true) (hsm:∀ n,(h.objs.size+n == sysModules)=false) :
  ∀ (cs:List (List (Int×Str))) (prev:List (Int×Str)) (l:List Obj),(∀ c∈cs,c.length=17) -> l[0]?=some (dictO (entsBy 3 t0 prev)) -> prev≠[] -> Dist (prev ++ (cs.flatten ++ last)) -> prev.length+17 * cs.length <= 1000 →
   sim S ok intC (forIn ((cs.flatten ++ last).map (itemT pos)) (some (h.objs.size+0),[]) f) ⟨heapL h l,g,dr,t0+3 * prev.length,os⟩ pos =
    some ((some (h.objs.size+0),last.map (pairT pos)),⟨heapL h (l.set 0 (dictO (entsBy 3 t0 (prev ++ cs.flatten))) ++ subsOf (t0+3 * prev.length) cs),g,dr,t0+3 * prev.length+51 * cs.length,os⟩,pos,330 * cs.length)
 | [],prev,l,hc,hl,hp,F,hs=>by
  have e:=gather_last G last [] (some (h.objs.size+0)) (by simpa using hlast)
  simp only [List.flatten_nil,List.nil_append] at e ⊢
  rw [e]
  simp only [List.append_nil,subsOf_n,List.length_nil,Nat.mul_zero,Nat.add_zero]
  rw [list_set_self hl];rfl
 | c::cs,prev,l,hc,hl,hp,F,hs=>by
  have hc1:c.length=17:=hc c (.head _)
  rw [List.length_cons] at hs
  have e:=gather_full G (cs.flatten ++ last) c [] (some (h.objs.size+0)) (by intro q;rw [q] at hc1;cases hc1) (by simpa using hc1)
  rw [List.flatten_cons,List.append_assoc] at F ⊢
  rw [e,List.nil_append]
  obtain ⟨F1,F2,F3⟩:=Dist.sub F
  obtain ⟨F4,F5,F6⟩:=Dist.sub F2
  have hne:(entsBy 3 t0 prev).isEmpty=false:=by cases prev with | nil=>exact absurd rfl hp | cons=>rfl
  have e1:=sim_flushL (S:=S) (ok:=ok) (h:=h) (g:=g) (dr:=dr) (os:=os) (pos:=pos) (tk:=t0+3 * prev.length) hl hne (hok 0) (hok _) (hsm _) F4
   (fun e he q hq=>by obtain ⟨q',h3,h4⟩:=entsBy_hash 3 t0 prev e he;rw [h4];exact F3 q' h3 q (List.mem_append_left _ hq)) hc1 (by rw [entsBy_length];omega)
  have hset:(l.set 0 (dictO (entsBy 3 t0 prev ++ entsBy 3 (t0+3 * prev.length) c)) ++ [dictO (entsBy 3 (t0+3 * prev.length) c)])[0]?=some (dictO (entsBy 3 t0 (prev ++ c))):=by
   rw [entsBy_app];exact get_app (get_set hl) _
  have ih:=sim_chunks G last hlast t0 hok hsm cs (prev ++ c) _ (fun x hx=>hc x (.tail _ hx)) hset (by simp [hp]) (by rw [List.append_assoc];exact F) (by rw [List.length_append,hc1];omega)
  rw [set_app (get_set hl),List.set_set] at ih
  rw [List.length_append,hc1,show t0+3 * (prev.length+17)=t0+3 * prev.length+51 by omega] at ih
  refine (sim_bind (n:=330) (m:=330 * cs.length) (k:=330 * cs.length+330) e1 ih rfl).trans ?_
  rw [subsOf_c,List.length_cons,<- List.append_assoc prev c,List.append_assoc (l.set 0 _),List.singleton_append]
  simp only [Option.some.injEq,Prod.mk.injEq,Shared.mk.injEq,true_and,and_true]
  omega
theorem display_eq (qs:List (Int×Str)):∃ f:StepD,Gathers pos f /\ dictDisplay (qs.map (itemT pos))=(forIn (qs.map (itemT pos)) ((none:Option Addr),([]:List (Sem Value×Sem Value))) f >>= fun r=>(flushD r.2 r.1 >>= fun m=>match m with
  | some d=>pure (.ref d)
  | none=>newDict)):=by
 unfold dictDisplay
 refine ⟨_,?_,rfl⟩
 constructor
 ·intro q run m hl
  show (if ((run ++ [(keyT q,valT pos q)]).length == 17)=true then _ else _)=_
  rw [if_neg (by simp;omega)];rfl
 ·intro q run m hl
  show (if ((run ++ [(keyT q,valT pos q)]).length == 17)=true then _ else _)=_
  rw [if_pos (by simp;omega)];rfl
theorem sim_display {c₀ last:List (Int×Str)} {cs:List (List (Int×Str))} (hok:∀ n,ok (h.objs.size+n)=true) (hsm:∀ n,(h.objs.size+n == sysModules)=false)
  (h0:c₀.length=17) (hc:∀ c∈cs,c.length=17) (hq:last≠[]) (hl:last.length <= 15) (F:Dist (c₀ ++ (cs.flatten ++ last))) (hs:17+17 * cs.length <= 1000) (t0:Nat) :
  sim S ok intC (dictDisplay ((c₀ ++ (cs.flatten ++ last)).map (itemT pos))) ⟨h,g,dr,t0,os⟩ pos =
   some (.ref h.objs.size,⟨heapL h (dictO (entsBy 3 t0 (c₀ ++ cs.flatten) ++ entsBy 2 (t0+51+51 * cs.length) last)::(subsOf (t0+51) cs ++ [dictO (entsBy 2 (t0+51+51 * cs.length) last)])),g,dr,t0+51+51 * cs.length+3 * last.length,os⟩,pos,
    223+330 * cs.length+(19 * last.length+6)):=by
 obtain ⟨f,G,e⟩:=display_eq (pos:=pos) (c₀ ++ (cs.flatten ++ last))
 rw [e,gather_full G (cs.flatten ++ last) c₀ [] none (by intro q;rw [q] at h0;cases h0) (by simpa using h0),List.nil_append]
 obtain ⟨F1,F2,F3⟩:=Dist.sub F
 obtain ⟨F4,F5,F6⟩:=Dist.sub F2
 have e1:=sim_flush0 (S:=S) (ok:=ok) (h:=h) (g:=g) (dr:=dr) (os:=os) (pos:=pos) (tk:=t0) (l:=[]) (hok 0) F1 h0
 rw [heapL_nil,List.nil_append] at e1
 have e2:=sim_chunks (S:=S) (ok:=ok) (h:=h) (g:=g) (dr:=dr) (os:=os) G last (by omega) t0 hok hsm cs c₀ [dictO (entsBy 3 t0 c₀)] hc rfl (by intro q;rw [q] at h0;cases h0) F (by rw [h0];omega)
 rw [h0,show t0+3 * 17=t0+51 by omega,List.set_cons_zero] at e2
 have hlen:(dictO (entsBy 3 t0 (c₀ ++ cs.flatten))::subsOf (t0+51) cs)[0]?=some (dictO (entsBy 3 t0 (c₀ ++ cs.flatten))):=rfl
 have hfl:(c₀ ++ cs.flatten).length=17+17 * cs.length:=by
  have:∀ cs:List (List (Int×Str)),(∀ c∈cs,c.length=17) -> cs.flatten.length=17 * cs.length:=by
   intro cs;induction cs with
   | nil=>intro _;rfl
   | cons c r ih=>intro hc;rw [List.flatten_cons,List.length_append,hc c (.head _),ih fun x hx=>hc x (.tail _ hx),List.length_cons];omega
  rw [List.length_append,h0,this cs hc]
 have e3:=sim_flushS (S:=S) (ok:=ok) (h:=h) (g:=g) (dr:=dr) (os:=os) (pos:=pos) (tk:=t0+51+51 * cs.length) (i:=0) hlen
  (by cases c₀ with | nil=>cases h0 | cons=>rfl) (hok 0) (hok _) (hsm _) (qs:=last) F5
  (fun e he q hq=>by
   obtain ⟨q',h3,h4⟩:=entsBy_hash 3 t0 _ e he
   rw [h4]
   rw [<- List.append_assoc] at F
   exact (Dist.sub F).2.2 q' h3 q hq) hq hl (by rw [entsBy_length,hfl];omega)
 rw [List.set_cons_zero] at e3
 refine sim_bind (n:=223+330 * cs.length) (m:=19 * last.length+6) (sim_bind (n:=223) (m:=330 * cs.length) e1 e2 (by omega)) ?_ (by omega)
 exact sim_bind (n:=19 * last.length+6) (m:=0) e3 rfl (by omega)
end
end
section
open PySem PySem.W PyProof.Rows
noncomputable def envT:Env:={ scope:=pw_rw0127_01.main.scope,locals:=mainNs,globals:=mainNs,cells:=[],code:=.ref 13,frame:=some 14 }
noncomputable def bodyT:List Stmt:=behindTheImports pw_rw0127_01
noncomputable def codeT:Code:=.body bodyT envT
noncomputable def annT:Option Value:=some (.ref 6)
noncomputable def stT (T:Params -> BT) (n tk:Nat) (w:World) (os:OsState):SharedT:=⟨T w.params,n,{},Array.mk [],{},tk,os⟩
noncomputable def grp (i k:Nat):List Stmt:=(pw_rw0127_01.main.body.drop i).take k
theorem seg_quick {p:Program} {w:World} {m0:Nat} {ann:Option Value} {b n:Nat} {s:SharedT} {sts:List Stmt} {env:Env} {c:Code} {pos:Pos} {B:List Frame} {r:Option (Flow×SharedT×Code×Pos)}
  (h:PySem.W.Fast.tw10110043849684766642 PySem.W.Fast.tw14364793385576792824 p w m0 ann b n s ⟨(PySem.W.Fast.tw12563942051412417395 sts env).wrap doneF deadEnd id id,c,pos,B⟩=r) :
  segRunT treeTable p w m0 ann b n s (piecesOf sts env c pos B)=r:=by
 rw [PySem.W.Fast.te10110043849684766642,PySem.W.Fast.te14364793385576792824]
 show PySem.W.Fast.tw10110043849684766642 PySem.W.Fast.tw14364793385576792824 p w m0 ann b n s ⟨(execs sts env).wrap doneF deadEnd id id,c,pos,B⟩=r
 rw [PySem.W.Fast.te12563942051412417395]
 exact h
theorem pc1 (w:World) (os:OsState):segRunT treeTable pw_rw0127_01 w 11 annT 1 57 (stT treeB 15 187 w os) (piecesOf (grp 0 4) envT codeT ⟨0,0,0,0⟩ [topFrame ⟨0,0,0,0⟩])=some (.next,stT tree3 22 200 w os,codeT,⟨6,0,6,11⟩) :=
 seg_quick (by kernel_rfl)
theorem pc2 (w:World) (os:OsState):segRunT treeTable pw_rw0127_01 w 11 annT 1 494 (stT tree3 22 200 w os) (piecesOf (grp 4 1) envT codeT ⟨6,0,6,11⟩ [topFrame ⟨0,0,0,0⟩])=some (.next,stT tree4 99 308 w os,codeT,⟨7,0,72,47⟩) :=
 seg_quick (by kernel_rfl)
theorem pc3 (w:World) (os:OsState):segRunT treeTable pw_rw0127_01 w 11 annT 1 514 (stT tree4 99 308 w os) (piecesOf (grp 5 2) envT codeT ⟨7,0,72,47⟩ [topFrame ⟨0,0,0,0⟩])=some (.next,stT tree6 183 406 w os,codeT,⟨109,0,109,8⟩) :=
 seg_quick (by kernel_rfl)
noncomputable def P4 (w:World):Prop:=∀ os,segRunT treeTable pw_rw0127_01 w 11 annT 1 999 (stT tree6 183 406 w os) (piecesOf (grp 7 1) envT codeT ⟨109,0,109,8⟩ [topFrame ⟨0,0,0,0⟩])=some (.next,stT tree7 194 466 w os,codeT,⟨110,0,110,6⟩)
theorem pc4a (w:World):P4 ((w.withFollow "special-get-raises" false).withFollow "set-order" false):=fun os=>seg_quick (by kernel_rfl)
theorem pc4b (w:World):P4 ((w.withFollow "special-get-raises" true).withFollow "set-order" false):=fun os=>seg_quick (by kernel_rfl)
theorem pc4c (w:World):P4 ((w.withFollow "special-get-raises" false).withFollow "set-order" true):=fun os=>seg_quick (by kernel_rfl)
theorem pc4d (w:World):P4 ((w.withFollow "special-get-raises" true).withFollow "set-order" true):=fun os=>seg_quick (by kernel_rfl)
theorem pc4 (w:World):P4 w :=
 byRow2 "set-order" (P:=P4)
  (fun w=>byRow2 "special-get-raises" (P:=fun w=>P4 (w.withFollow "set-order" false)) pc4a pc4b w)
  (fun w=>byRow2 "special-get-raises" (P:=fun w=>P4 (w.withFollow "set-order" true)) pc4c pc4d w) w
theorem pc5 (w:World) (os:OsState):segRunT treeTable pw_rw0127_01 w 11 annT 1 30 (stT tree7 194 466 w os) (piecesOf (grp 8 1) envT codeT ⟨110,0,110,6⟩ [topFrame ⟨0,0,0,0⟩])=some (.next,stT tree8 201 473 w os,codeT,⟨111,0,112,30⟩) :=
 seg_quick (by kernel_rfl)
theorem pc7 (w:World):∀ os,segRunT treeTable pw_rw0127_01 w 11 annT 1 567 (stT tree9 240 2424 w os) (piecesOf (grp 10 4) envT codeT ⟨113,0,113,13⟩ [topFrame ⟨0,0,0,0⟩])=some (.next,stT tree13 320 2547 w os,codeT,⟨122,0,187,16⟩) :=
 byRow2 "special-get-raises" (P:=fun w=>∀ os,segRunT treeTable pw_rw0127_01 w 11 annT 1 567 (stT tree9 240 2424 w os) (piecesOf (grp 10 4) envT codeT ⟨113,0,113,13⟩ [topFrame ⟨0,0,0,0⟩])=some (.next,stT tree13 320 2547 w os,codeT,⟨122,0,187,16⟩))
  (fun w os=>seg_quick (by kernel_rfl)) (fun w os=>seg_quick (by kernel_rfl)) w
theorem pc8 (w:World) (os:OsState):segRunT treeTable pw_rw0127_01 w 11 annT 1 249 (stT tree13 320 2547 w os) (piecesOf (grp 14 9) envT codeT ⟨122,0,187,16⟩ [topFrame ⟨0,0,0,0⟩])=some (.next,stT tree22 368 2620 w os,codeT,⟨249,0,288,43⟩) :=
 seg_quick (by kernel_rfl)
end
section
open PySem PySem.W PyProof.Rows PySem.Calls
noncomputable def targetsS (s:Stmt):List Expr:=(asV s).1
noncomputable def posS (s:Stmt):Pos:=(asV s).2.2
noncomputable def keysE (e:Expr):List (Option Expr):=(diV e).1
noncomputable def valsE (e:Expr):List Expr:=(diV e).2.1
noncomputable def posE (e:Expr):Pos:=(diV e).2.2
noncomputable def isI:Const -> Bool
 | .int _=>true
 | _=>false
noncomputable def isS:Const -> Bool
 | .str _=>true
 | _=>false
noncomputable def litV (f:Const -> Bool) (e:Expr):Bool:=f (coV e)
noncomputable def litsB:List (Option Expr) -> List Expr -> Bool
 | [],[]=>true
 | some k::ks,v::vs=>litV isI k && litV isS v && litsB ks vs
 | _,_=>false
theorem isI_of:∀ {c:Const},isI c=true -> ∃ i,c=.int i
 | .int i,_=>⟨i,rfl⟩
theorem isS_of:∀ {c:Const},isS c=true -> ∃ x,c=.str x
 | .str x,_=>⟨x,rfl⟩
theorem lit_of {f:Const -> Bool} (h0:f .none=false) (e:Expr) (h:litV f e=true):∃ c a b,e=.Constant c a b /\ f c=true:=by
 cases e with
 | Constant c a b=>exact ⟨c,a,b,rfl,h⟩
 | _=>exact absurd (h0.symm.trans h) Bool.false_ne_true
theorem items_eq (env:Env) (pos:Pos) (ks:List (Option Expr)) (vs:List Expr) (h:litsB ks vs=true) :
  (evalEachOpt ks env).zip ((evalEach vs env).map fun v=>do let x <- v;standAt pos;pure x)=((ks.map fun k=>match k with | some e=>intE e | none=>0).zip (vs.map strE)).map (itemT pos):=by
 induction ks generalizing vs with
 | nil=>cases vs with
  | nil=>rfl
  | cons v vs=>cases h
 | cons k ks ih =>
  cases vs with
  | nil=>cases k<;>cases h
  | cons v vs=>cases k with
  | none=>cases h
  | some k =>
   have h':(litV isI k && litV isS v && litsB ks vs)=true:=h
   rw [Bool.and_eq_true,Bool.and_eq_true] at h'
   obtain ⟨_,a,b,rfl,hi⟩:=lit_of rfl k h'.1.1
   obtain ⟨_,c,d,rfl,hx⟩:=lit_of rfl v h'.1.2
   obtain ⟨i,rfl⟩:=isI_of hi
   obtain ⟨x,rfl⟩:=isS_of hx
   rw [List.map_cons,List.map_cons,List.zip_cons_cons,List.map_cons,<- ih _ h'.2]
   rfl
noncomputable def okKeys:Int -> List (Int×Str) -> Bool
 | _,[]=>true
 | lo,q::r=>decide (lo < q.1) && decide (q.1 < 1000000) && okKeys q.1 r
theorem okKeys_c {lo:Int} {q:Int×Str} {r:List (Int×Str)}:okKeys lo (q::r)=(decide (lo < q.1) && decide (q.1 < 1000000) && okKeys q.1 r):=rfl
theorem okKeys_all:∀ (lo:Int) (qs:List (Int×Str)),okKeys lo qs=true -> ∀ q∈qs,lo < q.1 /\ q.1 < 1000000
 | lo,q::r,h,q',hq=>by
  simp only [okKeys_c,Bool.and_eq_true,decide_eq_true_eq] at h
  rcases List.mem_cons.mp hq with rfl | hq
  ·exact h.1
  ·have:=okKeys_all q.1 r h.2 q' hq
   omega
theorem hashInt_small {k:Int} (h0:0 <= k) (h1:k < 1000000):hashInt k=k:=by
 obtain ⟨n,rfl⟩:=Int.eq_ofNat_of_zero_le h0
 have hn:n < 1000000:=by omega
 have hm:¬ ((n:Int)=-1):=by omega
 have hq:¬ (((n:Int) == -1)=true):=fun q=>hm (eq_of_beq q)
 have e:rawHash (n:Int)=n:=by
  unfold rawHash
  have h3:(((n:Int).natAbs:Int) % ((2 ^ 61 - 1:Nat):Int))=n:=by
   rw [Int.natAbs_natCast]
   exact Int.emod_eq_of_lt (by omega) (by omega)
  have h4:¬ ((n:Int) < 0):=by omega
  dsimp only
  rw [h3,if_neg h4,if_neg hq]
 unfold hashInt
 rw [e,if_neg hq]
theorem okKeys_dist:∀ (lo:Int) (qs:List (Int×Str)),0 <= lo -> okKeys lo qs=true -> Dist qs
 | _,[],_,_=>.nil
 | lo,q::r,h0,h=>by
  have ha:=okKeys_all lo _ h
  simp only [okKeys_c,Bool.and_eq_true,decide_eq_true_eq] at h
  refine List.pairwise_cons.mpr ⟨fun q' hq'=>?_,okKeys_dist q.1 r (by omega) h.2⟩
  have h1:=ha q (.head _)
  have h2:=okKeys_all q.1 r h.2 q' hq'
  rw [hashInt_small (by omega) h1.2,hashInt_small (by omega) h2.2]
  omega
noncomputable def chunks17 {α:Type}:Nat -> List α -> List (List α)
 | 0,_=>[]
 | n+1,l=>l.take 17::chunks17 n (l.drop 17)
theorem ch17_z {α:Type} {l:List α}:chunks17 0 l=[]:=rfl
theorem ch17_s {α:Type} {n:Nat} {l:List α}:chunks17 (n+1) l=l.take 17::chunks17 n (l.drop 17):=rfl
theorem chunks17_flat {α:Type}:∀ (n:Nat) (l:List α),(chunks17 n l).flatten=l.take (17 * n)
 | 0,l=>by simp [ch17_z]
 | n+1,l=>by
  rw [ch17_s,List.flatten_cons,chunks17_flat n,show 17 * (n+1)=17+17 * n by omega,List.take_add]
theorem chunks17_len {α:Type}:∀ (n:Nat) (l:List α),17 * n <= l.length -> ∀ c∈chunks17 n l,c.length=17
 | n+1,l,h,c,hc=>by
  rcases List.mem_cons.mp hc with rfl | hc
  ·rw [List.length_take];omega
  ·exact chunks17_len n (l.drop 17) (by rw [List.length_drop];omega) c hc
theorem chunks17_length {α:Type}:∀ (n:Nat) (l:List α),(chunks17 n l).length=n
 | 0,l=>rfl
 | n+1,l=>by rw [ch17_s,List.length_cons,chunks17_length n]
theorem subs_chunks (base:Nat):∀ (n j:Nat),n+j <= 38 -> subsOf (473+51 * j) (chunks17 n (b3Src.drop (17 * j)))=(List.range' j n).map fun j=>dictO (b3Chunk j)
 | 0,j,_=>rfl
 | n+1,j,h=>by
  rw [ch17_s,subsOf_c,List.range'_succ,List.map_cons]
  have e:=subs_chunks base n (j+1) (by omega)
  rw [List.drop_drop,show 17 * j+17=17 * (j+1) by omega,show 473+51 * j+51=473+51 * (j+1) by omega,e]
  congr 2
  unfold b3Chunk
  rw [if_neg (by omega)]
theorem b3_len:b3Src.length=650:=by kernel_rfl
theorem b3_keys:okKeys 0 b3Src=true:=by kernel_rfl
theorem b3_split:b3Src=b3Src.take 17 ++ ((chunks17 37 (b3Src.drop 17)).flatten ++ b3Src.drop 646):=by
 rw [chunks17_flat,<- List.append_assoc,show (17 * 37:Nat)=629 by rfl,<- List.take_add,show 17+629=646 by rfl,List.take_append_drop]
theorem b3_main:entsBy 3 473 (b3Src.take 17 ++ (chunks17 37 (b3Src.drop 17)).flatten) ++ entsBy 2 2411 (b3Src.drop 646)=b3Ents:=by
 rw [chunks17_flat,show (17 * 37:Nat)=629 by rfl,<- List.take_add]
 rfl
noncomputable def b3Objs:List Obj:=dictO b3Ents::(List.range' 1 38).map fun j=>dictO (b3Chunk j)
theorem b3_display {S:Setting} {ok:Addr -> Bool} {h:Heap} {g:Array GenState} {dr:Drawn} {os:OsState} {pos:Pos} (hok:∀ n,ok (h.objs.size+n)=true) (hsm:∀ n,(h.objs.size+n == sysModules)=false) :
  sim S ok intC (dictDisplay (b3Src.map (itemT pos))) ⟨h,g,dr,473,os⟩ pos=some (.ref h.objs.size,⟨heapL h b3Objs,g,dr,2423,os⟩,pos,12515):=by
 have hl:(b3Src.drop 646).length=4:=by rw [List.length_drop,b3_len]
 have e:=sim_display (S:=S) (ok:=ok) (h:=h) (g:=g) (dr:=dr) (os:=os) (pos:=pos) (c₀:=b3Src.take 17) (last:=b3Src.drop 646) (cs:=chunks17 37 (b3Src.drop 17)) hok hsm
  (by rw [List.length_take,b3_len];rfl) (chunks17_len 37 _ (by rw [List.length_drop,b3_len];omega)) (by intro q;rw [q] at hl;cases hl) (by rw [hl];omega)
  (by rw [<- b3_split];exact okKeys_dist 0 _ (by omega) b3_keys) (by rw [chunks17_length];omega) 473
 rw [<- b3_split,chunks17_length,hl,show 473+51+51 * 37=2411 by rfl,b3_main] at e
 have e2:=subs_chunks 0 37 1 (by omega)
 rw [show 17 * 1=17 by rfl,show 473+51 * 1=473+51 by rfl] at e2
 rw [e2] at e
 have e3:(List.range' 1 37).map (fun j=>dictO (b3Chunk j)) ++ [dictO (entsBy 2 2411 (b3Src.drop 646))]=(List.range' 1 38).map fun j=>dictO (b3Chunk j):=by
  rw [show (38:Nat)=37+1 by rfl,List.range'_concat,List.map_append]
  rfl
 rw [e3] at e
 exact e
end
section
open PySem PySem.W PyProof.Rows PySem.Calls
theorem heapL_cons (h:Heap) (o:Obj) (l:List Obj):heapL h (o::l)=heapL (h.push o) l:=by
 simp [heapL,Heap.push]
noncomputable def insL:BT -> Nat -> List Obj -> BT
 | t,_,[]=>t
 | t,n,o::r=>insL (t.ins n o) (n+1) r
theorem insL_c {t:BT} {n:Nat} {o:Obj} {r:List Obj}:insL t n (o::r)=insL (t.ins n o) (n+1) r:=rfl
noncomputable def insOk:BT -> Nat -> List Obj -> Bool
 | _,_,[]=>true
 | t,n,o::r=>((t.ins n o).get n).isSome && insOk (t.ins n o) (n+1) r
theorem heapL_abs (life:Life):∀ (l:List Obj) (t:BT) (n:Nat),insOk t n l=true -> heapL (absHeap t n life) l=absHeap (insL t n l) (n+l.length) life
 | [],t,n,_=>heapL_nil _
 | o::r,t,n,h=>by
  obtain ⟨h1,h2⟩:=Bool.and_eq_true_iff.mp h
  rw [heapL_cons,<- absHeap_ins h1,heapL_abs life r _ _ h2,insL_c,List.length_cons,show n+(r.length+1)=n+1+r.length by omega]
noncomputable def st9:Stmt:=dAt 9
theorem st9_eq:dAt 9=.Assign (targetsS (dAt 9)) (.Dict (keysE (valueS (dAt 9))) (valsE (valueS (dAt 9))) (posE (valueS (dAt 9)))) (posS (dAt 9)):=by kernel_rfl
theorem b3_lits:litsB (keysE (valueS (dAt 9))) (valsE (valueS (dAt 9)))=true:=by kernel_rfl
noncomputable def rest9 (v:Value):Sem Flow:=do
 let sw <- swappedStores (targetsS (dAt 9)) (.Dict (keysE (valueS (dAt 9))) (valsE (valueS (dAt 9))) (posE (valueS (dAt 9)))) envT
 assignStores envT v sw ((assignEach (targetsS (dAt 9)) envT).map (·.2))
noncomputable def head9:Sem Value:=do
 standAt (posS (dAt 9))
 eval (.Dict (keysE (valueS (dAt 9))) (valsE (valueS (dAt 9))) (posE (valueS (dAt 9)))) envT
theorem swaps9:swapsWithSole (targetsS (dAt 9)) (.Dict (keysE (valueS (dAt 9))) (valsE (valueS (dAt 9))) (posE (valueS (dAt 9)))) (posS (dAt 9)).line envT=pure false:=by kernel_rfl
theorem exec9:exec (dAt 9) envT=head9 >>= rest9:=by
 rw [st9_eq,arm_exec_Assign,swaps9]
 unfold head9 rest9
 rw [bind_assoc]
 rfl
theorem sim_head9 {S:Setting} {ok:Addr -> Bool} {h:Heap} {g:Array GenState} {dr:Drawn} {os:OsState} {p:Pos} (hok:∀ n,ok (h.objs.size+n)=true) (hsm:∀ n,(h.objs.size+n == sysModules)=false) :
  sim S ok intC head9 ⟨h,g,dr,473,os⟩ p=some (.ref h.objs.size,⟨heapL h b3Objs,g,dr,2423,os⟩,posE (valueS (dAt 9)),12517):=by
 unfold head9
 refine sim_bind (n:=1) (m:=12516) (a:=()) (s₁:=⟨h,g,dr,473,os⟩) (p₁:=posS (dAt 9)) rfl ?_ (by omega)
 rw [arm_eval_Dict]
 refine sim_bind (n:=1) (m:=12515) (a:=()) (s₁:=⟨h,g,dr,473,os⟩) (p₁:=posE (valueS (dAt 9))) rfl ?_ (by omega)
 rw [items_eq _ _ _ _ b3_lits]
 exact b3_display hok hsm
theorem sts_quick {p:Program} {w:World} {m0:Nat} {ann:Option Value} {b n:Nat} {s:SharedT} {t:Thread} {r:Option (Flow×SharedT×Code×Pos)}
  (h:PySem.W.Fast.tw10110043849684766642 PySem.W.Fast.tw14364793385576792824 p w m0 ann b n s t=r):segRunT treeTable p w m0 ann b n s t=r:=by
 rw [PySem.W.Fast.te10110043849684766642,PySem.W.Fast.te14364793385576792824]
 exact h
theorem store9 (w:World) (os:OsState):segRunT treeTable pw_rw0127_01 w 11 annT 1 30 (stT (fun P=>insL (tree8 P) 201 b3Objs) 240 2423 w os) ⟨(rest9 (.ref 201)).wrap doneF deadEnd id id,codeT,posE (valueS (dAt 9)),[topFrame ⟨0,0,0,0⟩]⟩ =
  some (.next,stT tree9 240 2424 w os,codeT,⟨113,0,113,13⟩):=sts_quick (by kernel_rfl)
theorem ins9 (P:Params):insOk (tree8 P) 201 b3Objs=true:=by kernel_rfl
theorem b3Objs_len:b3Objs.length=39:=by unfold b3Objs;rw [List.length_cons,List.length_map,List.length_range']
noncomputable def abT (T:Params -> BT) (n tk:Nat) (w:World) (os:OsState):Shared:=⟨absHeap (T w.params) n {},Array.mk [],{},tk,os⟩
theorem stT_abs (T:Params -> BT) (n tk:Nat) (w:World) (os:OsState):(stT T n tk w os).abs=abT T n tk w os:=rfl
noncomputable def mid9 (P:Params):BT:=insL (tree8 P) 201 b3Objs
theorem run9 (w:World) (os:OsState):segRun treeTable pw_rw0127_01 w 11 annT 1 30 (abT mid9 240 2423 w os) ⟨(rest9 (.ref 201)).wrap doneF deadEnd id id,codeT,posE (valueS (dAt 9)),[topFrame ⟨0,0,0,0⟩]⟩=some (.next,abT tree9 240 2424 w os,codeT,⟨113,0,113,13⟩):=by
 have r:=segRun_of (store9 w os)
 rw [stT_abs,stT_abs] at r
 exact r
theorem go9 (w:World) (os:OsState):segGo treeTable pw_rw0127_01 w 11 annT 1 12517 (abT tree8 201 473 w os) ⟨head9.wrap (fun v=>(rest9 v).wrap doneF deadEnd id id) deadEnd id id,codeT,⟨111,0,112,30⟩,[topFrame ⟨0,0,0,0⟩]⟩ =
  some (abT mid9 240 2423 w os,⟨(rest9 (.ref 201)).wrap doneF deadEnd id id,codeT,posE (valueS (dAt 9)),[topFrame ⟨0,0,0,0⟩]⟩):=by
 have hz:(absHeap (tree8 w.params) 201 {}).objs.size=201:=absHeap_size _ _ _
 have e:=sim_head9 (S:=⟨pw_rw0127_01,w.params⟩) (ok:=fun a=>Nat.ble 11 a || a == mainNs || a == cStatics || annT == some (.ref a)) (h:=absHeap (tree8 w.params) 201 {}) (g:=Array.mk []) (dr:={}) (os:=os) (p:=⟨111,0,112,30⟩)
  (fun n=>by rw [hz,show Nat.ble 11 (201+n)=true from Nat.ble_eq_true_of_le (by omega)];rfl) (fun n=>by rw [hz];exact beq_eq_false_iff_ne.mpr (by unfold sysModules;omega))
 rw [hz,heapL_abs {} b3Objs _ _ (ins9 w.params),b3Objs_len] at e
 exact sim_go (tb:=treeTable) (c:=codeT) (q:=⟨0,0,0,0⟩) (fun c₀ s r s' m e K h g l code pos kept=>intC_right c₀ s r s' m e K h g l code pos kept) head9 (abT tree8 201 473 w os) _ (.ref 201) (abT mid9 240 2423 w os) _ 12517 e _ _ _ _
theorem pc6 (w:World) (os:OsState):segRun treeTable pw_rw0127_01 w 11 annT 1 12547 (abT tree8 201 473 w os) (pieceOf (dAt 9) envT codeT ⟨111,0,112,30⟩ [topFrame ⟨0,0,0,0⟩])=some (.next,abT tree9 240 2424 w os,codeT,⟨113,0,113,13⟩):=by
 have j:=seg_go (go9 w os) (run9 w os)
 have ew:(exec (dAt 9) envT).wrap doneF deadEnd id id=head9.wrap (fun v=>(rest9 v).wrap doneF deadEnd id id) deadEnd id id:=by
  rw [exec9,Sem.bind_eq_wrap',Sem.wrap_wrap]
  rfl
 unfold pieceOf
 rw [ew]
 exact j
end
section
open PySem PySem.W PyProof.Rows PySem.Calls
noncomputable abbrev pT:Program:=pw_rw0127_01
noncomputable abbrev q0:Pos:=⟨0,0,0,0⟩
theorem pre0 (w:World) (os:OsState):topGo treeTable pT w 11 annT 12 ⟨boot_heap w.params,Array.mk [],boot_drawn,boot_toks,os⟩ (topStub pT)=some (abT treeB 15 187 w os,⟨denote treeTable codeT,codeT,q0,[topFrame q0]⟩):=by
 rw [PySem.W.Fast.te15667345088766844465,PySem.W.Fast.te14364793385576792824,PySem.W.Fast.te11892475500146522536]
 kernel_rfl
theorem block0 (w:World) (os:OsState):segRun treeTable pT w 11 annT 1 1 (abT treeB 15 187 w os) (blockOf bodyT envT codeT q0 [topFrame q0])=some (.next,abT treeB 15 187 w os,codeT,q0):=by
 rw [PySem.W.Fast.te14374325043358763698,PySem.W.Fast.te14364793385576792824]
 kernel_rfl
theorem fin0 (w:World) (os:OsState):topRun treeTable pT w 11 annT 2 (abT tree22 368 2620 w os) ⟨doneF .next,codeT,⟨249,0,288,43⟩,[topFrame q0]⟩=some (abT tree22 368 2620 w os):=by
 rw [PySem.W.Fast.te14082659384304107361,PySem.W.Fast.te14364793385576792824]
 kernel_rfl
theorem pa (T:Params -> BT) (n tk:Nat) (T':Params -> BT) (n' tk':Nat) {k:Nat} {sts:List Stmt} {p p':Pos}
  (h:∀ w os,segRunT treeTable pT w 11 annT 1 k (stT T n tk w os) (piecesOf sts envT codeT p [topFrame q0])=some (.next,stT T' n' tk' w os,codeT,p'))
  {rest:List Stmt} {N:Nat} {w:World} {os:OsState} {r:Shared} (e:topRun treeTable pT w 11 annT N (abT T' n' tk' w os) (restOf rest envT codeT p' [topFrame q0])=some r) :
  topRun treeTable pT w 11 annT (k+N) (abT T n tk w os) (restOf (sts ++ rest) envT codeT p [topFrame q0])=some r:=by
 have a:=segRun_of (h w os)
 rw [stT_abs,stT_abs] at a
 exact piece_app a e
theorem body_eq:bodyT=grp 0 4 ++ (grp 4 1 ++ (grp 5 2 ++ (grp 7 1 ++ (grp 8 1 ++ (dAt 9::(grp 10 4 ++ (grp 14 9 ++ []))))))):=by kernel_rfl
noncomputable def stepsT:Nat:=12+(1+(57+(494+(514+(999+(30+(12547+(567+(249+2)))))))))
theorem runT (w:World) (os:OsState):topRun treeTable pT w 11 annT stepsT ⟨boot_heap w.params,Array.mk [],boot_drawn,boot_toks,os⟩ (topStub pT)=some (abT tree22 368 2620 w os):=by
 refine go_top (pre0 w os) (piece_block (block0 w os) ?_)
 rw [body_eq]
 refine pa treeB 15 187 tree3 22 200 pc1 ?_
 refine pa tree3 22 200 tree4 99 308 pc2 ?_
 refine pa tree4 99 308 tree6 183 406 pc3 ?_
 refine pa tree6 183 406 tree7 194 466 pc4 ?_
 refine pa tree7 194 466 tree8 201 473 pc5 ?_
 refine piece_cons (pc6 w os) ?_
 refine pa tree9 240 2424 tree13 320 2547 pc7 ?_
 refine pa tree13 320 2547 tree22 368 2620 pc8 ?_
 exact piece_nil (fin0 w os)
end
section
open PySem PySem.W PyProof.Rows PySem.Spec PySem.Calls
section
variable {prog:Program} {w:World} {A:Around} {E:Value -> Shared -> Prop} {s:Shared} {K:Frag} {x C:Addr} {ox:Obj} {od:Option Obj} {name:Str}

theorem acc_method {f tf:Value} {ga:String} {pl:Sem Bool} {Q:Value×List Value -> Shared -> Prop} (X:K.In s.heap) (I:InstAt s.heap x ox C od)
  (hga:findIn K (.ref C) "__getattribute__"=some (some (.builtin ga))) (hcan:(Manifest.canonical ga != "object.__getattribute__")=false)
  (hk:findIn K (.ref C) "__getattr__"=some none) (hf:findIn K (.ref C) name=some (some f)) (ht:typeIn K f=some tf)
  (htf:(tf != .type "function" && tf != .type "method_descriptor" && tf != .type "wrapper_descriptor")=false)
  (hs:shadowIn od name=some false) (h:Q (f,[.ref x]) s) :
  wpAny (model prog w) A (getMethod (.ref x) name pl) Q E s:=by
 unfold getMethod specialOf
 refine wpAny_bind (wpAny_bind (I.type.here ((looks_findIn X hga).here ?_)))
 dsimp only
 rw [hcan,if_neg (by decide)]
 refine wpAny_bind (wpAny_bind (I.type.here ((looks_findIn X hk).here ?_)))
 refine wpAny_bind (wpAny_bind (I.type.here ((looks_findIn X hf).here (wpAny_bind ((looks_typeIn X ht).here ?_)))))
 rw [htf,if_neg (by decide)]
 refine wpAny_bind (wpAny_loadPart I.at_ ?_)
 have hd:=I.dict
 cases e:ox.dict with
 | none=>exact wpAny_bind (wpAny_rule (wpAny_pure h))
 | some dx =>
  cases od with
  | none=>rw [e] at hd;exact hd.elim
  | some o =>
   rw [e] at hd
   obtain ⟨r,a,b⟩:=Option.map_eq_some_iff.mp hs
   refine wpAny_bind (wpAny_bind (wpAny_loadPart hd ?_))
   rw [nsLook_of a]
   refine wpAny_pure ?_
   rw [b]
   exact wpAny_bind (wpAny_rule (wpAny_pure h))

theorem InstAt.of_newsSeq {h₀ h:Heap} {L x C dx:Addr} {news:List (Addr×Obj)} {od:Obj} {sl:Array (Option Value)} {items:Array Value} {n:Nat} (N:News h₀ L h news) (h1:(x,(⟨.ref C,some dx,.seq items n,sl⟩:Obj))∈news) (h2:(dx,od)∈news) :
  InstAt h x ⟨.ref C,some dx,.seq items n,sl⟩ C (some od):=⟨(N _ h1).1,rfl,rfl,(N _ h2).1⟩

theorem lga_kind:builtinKind "list.__getattribute__"=some .slot:=by decide +kernel
theorem lga_split:splitId "list.__getattribute__"=some ("list","__getattribute__"):=by decide +kernel
theorem lga_plain:plainId "list.__getattribute__"=true:=by decide +kernel
theorem lga_entry:entryFor table "list.__getattribute__"=some Builtin.«object.__getattribute__»:=PySem.F.entry_list_ga
theorem lga_args (a b:Value):argsOk "list.__getattribute__" ⟨[a,b],[]⟩:=by unfold argsOk;kernel_rfl
theorem lga_bind (self:Value):bindSpecial (.builtin "list.__getattribute__") self=pure (.builtin "list.__getattribute__",[self]):=by
 exact PySem.F.slot_list_getattribute.bind self

theorem acc_get {v:Value} {expr:Bool} {Q:Value -> Shared -> Prop} (X:K.In s.heap) (I:InstAt s.heap x ox C od) (hga:findIn K (.ref C) "__getattribute__"=some (some (.builtin "list.__getattribute__")))
  (hk:findIn K (.ref C) "__getattr__"=some none) (hl:mroIn K C (.type "list")=some true)
  (hf:findObj K C od name=some (.value v)) (hh:handedIn v=true) (h:Q v { s with toks:=s.toks+1 }):wpAny (model prog w) A (getAttr (.ref x) name expr) Q E s:=by
 obtain ⟨hh',g,d,t,os⟩:=s
 have L0:=I.type (M:=model prog w)
 have L1:=looks_find (M:=model prog w) X I hf
 refine wpAny_bind (wpAny_mkText (wpAny_holding (wpAny_bind (L0.at (wpAny_bind ((looks_findIn X hga).at ?_))))))
 dsimp only
 rw [show (onTheHeap (.ref C) && Value.builtin "list.__getattribute__" == Value.builtin "object.__getattribute__")=false from by rw [show (Value.builtin "list.__getattribute__" == Value.builtin "object.__getattribute__")=false from by decide +kernel,Bool.and_false],if_neg (by decide)]
 refine wpAny_bind ((looks_hook X (r:=none) (mc:=.ref C) (by simpa [onTheHeap] using hk)).at (wpAny_bind (wpAny_attempt (wpAny_holding ?_))))
 unfold callGetattribute
 rw [show (expr && onTheHeap (Value.builtin "list.__getattribute__"))=false from Bool.and_false _,if_neg (by decide)]
 unfold boundAndCalled
 rw [lga_bind]
 refine wpAny_bind (wpAny_pure ?_)
 show wpAny _ _ (call (.builtin "list.__getattribute__") [.ref x,.str name t]) _ _ _
 refine wpAny_call ?_;refine codeAny_call_builtin lga_plain lga_entry ?_
 refine @check_slot (model prog w) _ _ ⟨hh',g,d,t+1,os⟩ "list.__getattribute__" "list" "__getattribute__" (.ref x) [.str name t] [] _ lga_kind lga_split (L0.andThen (looks_mroIn X hl)) (lga_args (.ref x) (.str name t)) ?_
 unfold Builtin.«object.__getattribute__»
 refine wpAny_bind (wpAny_pure (wpAny_bind (wpAny_pure (wpAny_bind (L0.at (wpAny_bind (L1.at ?_)))))))
 refine wpAny_pure ?_
 show wpAny _ _ (handedOut v) _ _ _
 rw [handedOut_of hh];exact wpAny_pure h

theorem check_sub {M:Model} {A:Around} {E:Value -> Shared -> Prop} {s:Shared} {i n owner:String} {self:Value} {rest:List Value} {kw:List (Str×Value)} {Q:Unit -> Shared -> Prop}
  (hk:builtinKind i=some .slot \/ builtinKind i=some .method) (hs:splitId i=some (owner,n)) (hi:Looks M s.heap (isInstance self (.type owner)) true) (ha:argsOk i ⟨self::rest,kw⟩) (q:Q () s) :
  wpAny M A (checkBuiltinCall i ⟨self::rest,kw⟩) Q E s:=by
 rcases hk with hk | hk
 ·exact check_slot hk hs hi ha q
 ·simp -iota only [checkBuiltinCall,hk,hs]
  refine wpAny_bind (hi.here ?_)
  simp -iota only [Bool.not_true,Bool.false_eq_true,if_false]
  cases hsig:Manifest.signature? i with
  | none=>exact wpAny_pure q
  | some sig =>
   simp -iota only [argsOk,hsig] at ha
   have h2:Bind.checkArgs i sig ⟨self::rest,kw⟩=pure ():=ha
   show wpAny M A (Bind.checkArgs i sig ⟨self::rest,kw⟩) Q E s
   rw [h2];exact wpAny_pure q

theorem sub_call {id n owner:String} {b:Builtin} {self:Value} {rest:List Value} {Q:Value -> Shared -> Prop} (hp:plainId id=true) (hb:entryFor table id=some b)
  (hk:builtinKind id=some .slot \/ builtinKind id=some .method) (hs:splitId id=some (owner,n)) (hi:Looks (model prog w) s.heap (isInstance self (.type owner)) true) (ha:argsOk id ⟨self::rest,[]⟩)
  (hc:wpAny (model prog w) A.in1 (b ⟨self::rest,[]⟩) (fun fin s'=>∃ v,fin=.done (.ret v) /\ Q v s') E s) :
  wpAny (model prog w) A (call (.builtin id) (self::rest)) Q E s:=by
 refine wpAny_call (codeAny_call_builtin hp hb (check_sub hk hs hi ha (wpAny_mono hc (fun fin s' h'=>?_) fun _ _ h'=>h')))
 obtain ⟨v,rfl,hv⟩:=h';exact hv

theorem sub_special {id n owner:String} {T:String} {b:Builtin} {self t:Value} {args:List Value} {Q:Option Value -> Shared -> Prop} (hty:Looks (model prog w) s.heap (typeOf self) t) (hf:Looks (model prog w) s.heap (typeLookup t name) (some (.builtin id)))
  (hsl:Slot T name id) (hb:entryFor table id=some b) (hk:builtinKind id=some .slot \/ builtinKind id=some .method) (hs:splitId id=some (owner,n)) (hi:Looks (model prog w) s.heap (isInstance self (.type owner)) true)
  (ha:argsOk id ⟨self::args,[]⟩)
  (hc:wpAny (model prog w) A.in1 (b ⟨self::args,[]⟩) (fun fin s'=>∃ v,fin=.done (.ret v) /\ Q (some v) s') E s) :
  wpAny (model prog w) A (callSpecial? self name args []) Q E s:=by
 simp -iota only [callSpecial?,specialOf]
 refine wpAny_bind (wpAny_bind (hty.here (hf.here ?_)))
 simp only [hsl.bind]
 exact wpAny_holding (wpAny_bind (wpAny_pure (wpAny_bind (wpAny_mono (sub_call (Q:=fun v=>Q (some v)) hsl.plain hb hk hs hi ha hc) (fun v s' h'=>wpAny_pure h') fun _ _ h'=>h'))))

theorem k_append:builtinKind "list.append"=some .slot \/ builtinKind "list.append"=some .method:=by decide +kernel
theorem k_iter:builtinKind "list.__iter__"=some .slot \/ builtinKind "list.__iter__"=some .method:=by decide +kernel
theorem k_pop:builtinKind "list.pop"=some .slot \/ builtinKind "list.pop"=some .method:=by decide +kernel
theorem k_getitem:builtinKind "list.__getitem__"=some .slot \/ builtinKind "list.__getitem__"=some .method:=by decide +kernel
theorem k_setitem:builtinKind "list.__setitem__"=some .slot \/ builtinKind "list.__setitem__"=some .method:=by decide +kernel
theorem k_len:builtinKind "list.__len__"=some .slot \/ builtinKind "list.__len__"=some .method:=by decide +kernel
theorem k_init:builtinKind "list.__init__"=some .slot \/ builtinKind "list.__init__"=some .method:=by decide +kernel
theorem sp_append:splitId "list.append"=some ("list","append"):=by decide +kernel
theorem sp_iter:splitId "list.__iter__"=some ("list","__iter__"):=by decide +kernel
theorem sp_pop:splitId "list.pop"=some ("list","pop"):=by decide +kernel
theorem sp_getitem:splitId "list.__getitem__"=some ("list","__getitem__"):=by decide +kernel
theorem sp_setitem:splitId "list.__setitem__"=some ("list","__setitem__"):=by decide +kernel
theorem sp_len:splitId "list.__len__"=some ("list","__len__"):=by decide +kernel
theorem sp_init:splitId "list.__init__"=some ("list","__init__"):=by decide +kernel
end

theorem upd_news {h₀ h h':Heap} {L x:Addr} {m:Str -> Option Value} {news news':List (Addr×Obj)} {o o':Obj} (F:Fr h₀ L h m) (N:News h₀ L h news) (U:Upd x o o' news news') (hs:Heap.SameBut x h h') (ho:h'.get? x=some o') :
  Fr h₀ L h' m /\ News h₀ L h' news':=by
 obtain ⟨pre,post,rfl,rfl,a,b⟩:=U.split
 have z:=N (x,o) (List.mem_append.mpr (.inr (.head _)))
 exact ⟨F.change hs z.2.1 z.2.2,news_set N a b hs ho⟩
theorem upd_get {h₀ h:Heap} {L x:Addr} {news news':List (Addr×Obj)} {o o':Obj} (N:News h₀ L h news) (U:Upd x o o' news news'):h.get? x=some o:=by
 obtain ⟨pre,post,rfl,rfl,a,b⟩:=U.split
 exact (N (x,o) (List.mem_append.mpr (.inr (.head _)))).1

section
variable {prog:Program} {w:World} {A:Around} {E:Value -> Shared -> Prop} {s:Shared} {K:Frag} {x C d:Addr} {name:Str} {h₀:Heap} {L:Addr} {m:Str -> Option Value} {news news':List (Addr×Obj)} {items:Array Value} {n:Nat}
noncomputable abbrev subO (C d:Addr) (items:Array Value) (n:Nat):Obj:={ cls:=.ref C,dict:=some d,data:=.seq items n }
theorem looks_sub {M:Model} {h:Heap} (X:K.In h) (hx:h.get? x=some (subO C d items n)) (hl:mroIn K C (.type "list")=some true):Looks M h (isInstance (.ref x) (.type "list")) true :=
 ((Looks.ld hx).andThen .now:Looks M h (typeOf (.ref x)) (.ref C)).andThen (looks_mroIn X hl)

theorem acc_append {v:Value} {Q:Value -> Shared -> Prop} (F:Fr h₀ L s.heap m) (X:K.In h₀) (N:News h₀ L s.heap news) (hl:mroIn K C (.type "list")=some true)
  (U:Upd x (subO C d items n) (subO C d (items.push v) (n+1)) news news') (h:∀ h',Fr h₀ L h' m -> News h₀ L h' news' -> Q .none { s with heap:=h' }) (hsz:items.size <= sizeLine:=by size_fits) :
  wpAny (model prog w) A (call (.builtin "list.append") [.ref x,v]) Q E s:=by
 have hx:=upd_get N U
 refine sub_call PySem.F.slot_list_append.plain PySem.F.entry_list_append k_append sp_append (looks_sub (X.keeps F.keep) hx hl) (PySem.F.args_list_append_2 _ _) ?_
 show wpAny _ _ (updateSeq x (·.push v) >>= fun _=>ret .none) _ _ s
 refine wpAny_bind (wpAny_updateSeq hx rfl ?_)
 have e:Obj.mapSeq (fun xs=>xs.push v) (subO C d items n)=subO C d (items.push v) (n+1):=by
  simp [Obj.mapSeq,Array.size_push]
 obtain ⟨F',N'⟩:=upd_news F N U (Heap.SameBut.update (f:=Obj.mapSeq fun xs=>xs.push v) ..) (by rw [Heap.get?_update_self _ hx (by rw [e];rfl),e])
 exact wpAny_pure ⟨.none,rfl,h _ F' N'⟩

theorem pop_push (vs:Array Value) (v:Value):(vs.push v).eraseIdxIfInBounds vs.size=vs:=by
 simp -iota [Array.eraseIdxIfInBounds,Array.size_push]
 apply Array.ext'
 simp -iota [List.eraseIdx_append_of_length_le]

end
end
section
open PySem PySem.W PyProof.Rows PySem.Spec PySem.Calls
section
variable {prog:Program} {w:World} {A:Around} {E:Value -> Shared -> Prop} {s:Shared} {K:Frag} {x C d:Addr} {name:Str} {h₀:Heap} {L:Addr} {m:Str -> Option Value} {news news':List (Addr×Obj)} {items:Array Value} {n:Nat}

structure SubList (K:Frag) (C:Addr):Prop where
 list:mroIn K C (.type "list")=some true
 deque:mroIn K C (.type "collections.deque")=some false
 item:findIn K (.ref C) "__getitem__"=some (some (.builtin "list.__getitem__"))
 put:findIn K (.ref C) "__setitem__"=some (some (.builtin "list.__setitem__"))
 iter:findIn K (.ref C) "__iter__"=some (some (.builtin "list.__iter__"))

theorem sub_key {k:Value} {nm:Str} {Q:Value -> Shared -> Prop} (X:K.In s.heap) (Y:SubList K C) (hx:s.heap.get? x=some (subO C d items n)) (h:Q k s):wpAny (model prog w) A (sequenceKey (.ref x) k nm) Q E s:=by
 unfold sequenceKey
 have ht:Looks (model prog w) s.heap (typeOf (.ref x)) (.ref C):=(Looks.ld hx).andThen .now
 refine wpAny_bind (ht.here ?_)
 dsimp only
 unfold seqItemTypes
 simp -iota only [List.anyM_cons]
 refine wpAny_bind (wpAny_bind ((looks_mroIn X Y.deque).here ?_))
 refine wpAny_pure ?_
 rw [if_pos (by decide)]
 exact wpAny_pure h

theorem sub_getItem {i:Int} {t:Tok} {v:Value} {Q:Value -> Shared -> Prop} (X:K.In s.heap) (Y:SubList K C) (hx:s.heap.get? x=some (subO C d items n)) (h0:0 <= i) (hfit:i < 2 ^ 63) (hv:items[i.toNat]?=some v) (h:Q v s) :
  wpAny (model prog w) A (getItem (.ref x) (.int i t)) Q E s:=by
 unfold getItem
 refine wpAny_holding (wpAny_bind (sub_key X Y hx ?_))
 refine wpAny_bind (sub_special (T:="list") (t:=.ref C) ((Looks.ld hx).andThen .now) (looks_findIn X Y.item) PySem.F.slot_list_getitem PySem.F.entry_list_getitem k_getitem sp_getitem (looks_sub X hx Y.list) (PySem.F.args_list_getitem_2 _ _) ?_)
 show wpAny _ _ (Builtin.List.listSubscript? (.int i t) >>= _) _ _ s
 refine wpAny_bind (wpAny_listSubscript_int (fitsIndex_of h0 hfit) ?_)
 clear hfit;obtain ⟨k,rfl⟩:=Int.eq_ofNat_of_zero_le h0
 have hv:items[k]?=some v:=hv
 show wpAny _ _ ((seqItemAt x k >>= fun r=>pure (r.map (k,·))) >>= _) _ _ s
 refine wpAny_bind (wpAny_bind (wpAny_seqItemAt hx rfl (wpAny_pure ?_)))
 rw [hv]
 first
  | exact wpAny_bind (wpAny_pure (wpAny_pure ⟨v,rfl,wpAny_pure h⟩))
  | exact wpAny_pure ⟨v,rfl,wpAny_pure h⟩

theorem sub_getSlice {sl:Addr} {vl vu vs:Value} {lo hi st:Option Int} {Q:Value -> Shared -> Prop} (X:K.In s.heap) (Y:SubList K C) (hx:s.heap.get? x=some (subO C d items n))
  (hs:s.heap.IsSliceOf sl vl vu vs) (pl:IsPart vl lo) (pu:IsPart vu hi) (ps:IsPart vs st) (h0:st≠some 0)
  (h:Q (.ref s.heap.objs.size) { s with heap:=s.heap.push { cls:=.type "list",data:=.seq (slicePick items lo hi st) } })
  (hsz:items.size <= sizeLine:=by size_fits):wpAny (model prog w) A (getItem (.ref x) (.ref sl)) Q E s:=by
 obtain ⟨os,hos,hcs,hds⟩:=id hs
 have hTs:s.TypeIs (.ref sl) "slice":=⟨os,hos,hcs⟩
 unfold getItem
 refine wpAny_holding (wpAny_bind (sub_key X Y hx ?_))
 refine wpAny_bind (sub_special (T:="list") (t:=.ref C) ((Looks.ld hx).andThen .now) (looks_findIn X Y.item) PySem.F.slot_list_getitem PySem.F.entry_list_getitem k_getitem sp_getitem (looks_sub X hx Y.list) (PySem.F.args_list_getitem_2 _ _) ?_)
 show wpAny _ _ (Builtin.List.listSubscript? (.ref sl) >>= _) _ _ s
 refine wpAny_bind ?_
 ·unfold Builtin.List.listSubscript?
  refine wpAny_bind (wpAny_specialOf hTs slice_no_index ?_)
  simp -iota only [Option.isNone_none,if_true]
  refine wpAny_pure ?_
  show wpAny _ _ (typeOf (.ref sl) >>= _) _ _ s
  refine wpAny_bind (wpAny_typeOf hTs ?_)
  rw [if_neg (by decide)]
  rw [listSliceParts_eq]
  have hstep:¬ ((rawPart st == rawInt 0)=true):=by
   cases st with
   | none=>exact Bool.false_ne_true
   | some c =>
    intro hh;have:c=0:=by simpa [rawPart,rawInt] using hh
    exact h0 (by rw [this])
  refine wpAny_bind (wpAny_bind (wpAny_field hos hds (x:=vs) rfl (wpAny_bind (wpAny_listPart ps ?_))))
  rw [if_neg hstep]
  refine wpAny_bind (wpAny_field hos hds (x:=vl) rfl (wpAny_bind (wpAny_listPart pl ?_)))
  refine wpAny_bind (wpAny_field hos hds (x:=vu) rfl (wpAny_bind (wpAny_listPart pu (wpAny_pure ?_))))
  refine wpAny_bind (wpAny_listItems hx rfl ?_)
  refine wpAny_bind (wpAny_of_eq (sliceIndices_raw lo hi st items.size h0) ?_)
  refine wpAny_bind (wpAny_newObj_type (wpAny_pure ⟨_,rfl,wpAny_pure h⟩) (Nat.le_trans (slicePick_size_le items lo hi st) hsz))

noncomputable def slicePut (items new:Array Value) (lo hi:Option Int):Array Value :=
 items.extract 0 (sliceBounds lo hi none items.size).1.toNat ++ new ++ items.extract (max (sliceBounds lo hi none items.size).1 (sliceBounds lo hi none items.size).2.1).toNat items.size

theorem wpAny_letGo' {M:Model} {A:Around} {E:Value -> Shared -> Prop} {s:Shared} {Q:Unit -> Shared -> Prop} (h:Q () s):∀ (l keep:List Value),wpAny M A (letGo l keep) Q E s
 | [],_=>wpAny_pure h
 | _::r,keep=>wpAny_bind (wpAny_holding (wpAny_point (wpAny_letGo' h r keep)))

theorem sub_setSlice {sl y:Addr} {vl vu:Value} {lo hi:Option Int} {new out:Array Value} {Q:Unit -> Shared -> Prop} (F:Fr h₀ L s.heap m) (X:K.In h₀) (Y:SubList K C) (N:News h₀ L s.heap news)
  (U:Upd x (subO C d items n) (subO C d out (if out.size == items.size then n else n+1)) news news') (hy:s.heap.IsList y new) (hxy:x≠y)
  (hs:s.heap.IsSliceOf sl vl vu .none) (pl:IsPart vl lo) (pu:IsPart vu hi) (ho:slicePut items new lo hi=out)
  (h:∀ h',Fr h₀ L h' m -> News h₀ L h' news' -> Q () { s with heap:=h' })
  (hsz:items.size <= 1000) (hsn:new.size <= 1000) (hso:out.size <= sizeLine):wpAny (model prog w) A (setItem (.ref x) (.ref sl) (.ref y)) Q E s:=by
 have hx:=upd_get N U
 have X':=X.keeps F.keep
 obtain ⟨os,hos,hcs,hds⟩:=id hs
 obtain ⟨oy,hoy,hcy,ny,hdy⟩:=id hy
 have hTs:s.TypeIs (.ref sl) "slice":=⟨os,hos,hcs⟩
 have hTy:s.TypeIs (.ref y) "list":=⟨oy,hoy,hcy⟩
 unfold setItem
 refine wpAny_holding (wpAny_bind (sub_key X' Y hx ?_))
 refine wpAny_bind (sub_special (T:="list") (t:=.ref C) ((Looks.ld hx).andThen .now) (looks_findIn X' Y.put) PySem.F.slot_list_setitem PySem.F.entry_list_setitem k_setitem sp_setitem (looks_sub X' hx Y.list) (PySem.F.args_list_setitem_3 _ _ _) ?_)
 unfold Builtin.«list.__setitem__»
 refine wpAny_bind (wpAny_pure ?_)
 dsimp only
 unfold Builtin.List.listSubscript?
 refine wpAny_bind (wpAny_bind (wpAny_specialOf hTs slice_no_index ?_))
 simp -iota only [Option.isNone_none,if_true]
 refine wpAny_pure ?_
 dsimp only
 refine wpAny_bind (wpAny_typeOf hTs ?_)
 rw [if_neg (by decide)]
 rw [listSliceParts_eq]
 refine wpAny_bind (wpAny_bind (wpAny_field hos hds (x:=.none) rfl (wpAny_bind (wpAny_listPart .none ?_))))
 rw [if_neg (by decide)]
 refine wpAny_bind (wpAny_field hos hds (x:=vl) rfl (wpAny_bind (wpAny_listPart pl ?_)))
 refine wpAny_bind (wpAny_field hos hds (x:=vu) rfl (wpAny_bind (wpAny_listPart pu (wpAny_pure ?_))))
 dsimp only
 rw [if_neg (by simp [Builtin.List.listSameRef,hxy])]
 unfold Builtin.List.listAllItems
 refine wpAny_bind (wpAny_bind (wpAny_typeOf hTy ?_))
 rw [if_pos (by decide)]
 refine wpAny_listItems hoy hdy ?_
 refine wpAny_bind (wpAny_listItems hx rfl ?_)
 refine wpAny_bind (wpAny_of_eq (sliceIndices_raw lo hi none items.size (by simp)) ?_)
 rw [if_pos (by rfl)]
 refine wpAny_bind (wpAny_rule ?_)
 have hll:¬ (Builtin.List.listTooLong (items.size+new.size)=true):=by
  unfold Builtin.List.listTooLong
  have:=sizeLine_eq
  simp
  omega
 rw [if_neg hll]
 show wpAny _ _ (updateSeq x (fun xs=>xs.extract 0 (sliceBounds lo hi none items.size).1.toNat ++ new ++ xs.extract (max (sliceBounds lo hi none items.size).1 (sliceBounds lo hi none items.size).2.1).toNat xs.size) >>= _) _ _ s
 have e:Obj.mapSeq (fun xs=>xs.extract 0 (sliceBounds lo hi none items.size).1.toNat ++ new ++ xs.extract (max (sliceBounds lo hi none items.size).1 (sliceBounds lo hi none items.size).2.1).toNat xs.size) (subO C d items n)=subO C d out (if out.size == items.size then n else n+1):=by
  subst ho;rfl
 refine wpAny_bind (wpAny_updateSeq hx rfl ?_ (by rw [sizeLine_eq];omega) (by subst ho;exact Nat.le_succ_of_le hso))
 obtain ⟨F',N'⟩:=upd_news F N U (Heap.SameBut.update (f:=Obj.mapSeq (fun xs=>xs.extract 0 (sliceBounds lo hi none items.size).1.toNat ++ new ++ xs.extract (max (sliceBounds lo hi none items.size).1 (sliceBounds lo hi none items.size).2.1).toNat xs.size)) ..) (by rw [Heap.get?_update_self _ hx (by rw [e];rfl),e])
 exact wpAny_bind (wpAny_letGo' (wpAny_pure ⟨_,rfl,wpAny_pure (h _ F' N')⟩) _ _)
end
end
section
open PySem PySem.W PyProof.Rows PySem.Spec PySem.Calls Builtin

noncomputable def makesSub (K:Frag) (C:Addr):Bool:=match K.lookup C with
 | some ⟨_,_,.cls cd,sl⟩=>!cd.abstract && !cd.hasDel && (sl.toList[4]?).join == some (.builtin "list.__new__") && !cd.mro.isEmpty && cd.mro.contains (.ref C) && cd.mro.contains (.type "list") &&
   specialIn K (.ref C) "__call__" == some (some (.builtin "type.__call__")) && instIn K (.ref C) (.type "type") == some true
 | _=>false
structure MakesL (M:Model) (h:Heap) (C:Addr):Prop where
 obj:∃ oc od cd sl,h.get? C=some ⟨oc,od,.cls cd,sl⟩ /\ cd.abstract=false /\ cd.hasDel=false /\ cd.mro.isEmpty=false
 made:Looks M h (Bind.madeBy (.ref C)) (some "list.__new__")
 base:Looks M h (Bind.staticBase (.ref C)) (.ref C)
 self:Looks M h (isSubtype (.ref C) (.ref C)) true
 top:Looks M h (isSubtype (.ref C) (.type "list")) true
 call:Looks M h (specialOf (.ref C) "__call__") (some (.builtin "type.__call__"))
 typ:Looks M h (isInstance (.ref C) (.type "type")) true
theorem makesL_of {K:Frag} {M:Model} {h:Heap} (X:K.In h) {C:Addr} (e:makesSub K C=true):MakesL M h C:=by
 unfold makesSub at e
 split at e
 ·rename_i oc od cd sl ho
  simp -iota only [Bool.and_eq_true,Bool.not_eq_true',beq_iff_eq] at e
  obtain ⟨⟨⟨⟨⟨⟨⟨e1,e2⟩,e3⟩,e4⟩,e5⟩,e6⟩,e7⟩,e8⟩:=e
  have hc:clsIn K C=some cd:=by unfold clsIn;rw [ho]
  have hm:Looks M h (mroOf (.ref C)) cd.mro:=(looks_clsIn X hc).andThen .now
  obtain ⟨c,l,hl⟩:∃ c l,cd.mro=c::l:=by cases q:cd.mro with | nil=>rw [q] at e4;cases e4 | cons c l=>exact ⟨c,l,rfl⟩
  have made:Looks M h (Bind.madeBy (.ref C)) (some "list.__new__"):=by
   intro A Q E s k q;unfold Bind.madeBy
   refine wpAny_bind (hm A _ E s k ?_)
   rw [hl,List.forIn_cons]
   refine wpAny_bind (wpAny_bind (wpAny_bind (wpAny_bind (wpAny_loadPart (k _ _ (X _ _ ho)) (wpAny_pure ?_)))))
   dsimp only
   rw [<- Array.getElem?_toList,e3]
   exact wpAny_pure (wpAny_pure (wpAny_pure q))
  refine ⟨⟨oc,od,cd,sl,X _ _ ho,e1,e2,e4⟩,made,?_,looks_mroIn X ?_,looks_mroIn X ?_,looks_specialIn X e7,looks_instIn X e8⟩
  ·intro A Q E s k q
   unfold Bind.staticBase
   refine wpAny_bind (hm A _ E s k ?_)
   rw [hl,List.forIn_cons]
   exact wpAny_bind (wpAny_bind (wpAny_bind (made A _ E s k (wpAny_pure (wpAny_pure (wpAny_pure q))))))
  ·unfold mroIn;rw [hc,Option.bind_some,if_neg (by rw [e4];decide),e5]
  ·unfold mroIn;rw [hc,Option.bind_some,if_neg (by rw [e4];decide),e6]
 ·cases e

theorem ln_split:splitId "list.__new__"=some ("list","__new__"):=by decide +kernel
theorem ln_kind:builtinKind "list.__new__"=some .builtinFn:=by decide +kernel
theorem ln_args (a b:Value):argsOk "list.__new__" ⟨[a,b],[]⟩:=by unfold argsOk;kernel_rfl
theorem ln_canon:(Manifest.canonical "list.__new__" != Manifest.canonical "list.__new__")=false:=by simp
section
variable {prog:Program} {w:World} {A:Around} {K:Frag} {C:Addr} {R:Result -> Shared -> Prop} {h:Heap} {g:Array GenState} {d:Drawn} {t:Nat} {os:OsState}
noncomputable def S_newL_K {a:Value}:Prop:=∀ (Y:MakesL (model prog w) h C) (hq:R (.ok (.ret (.ref (h.objs.size+1)))) ⟨(h.push emptyDict).push (subO C h.objs.size #[] 0),g,d,t,os⟩),codeAny (model prog w) A (.call (.builtin "list.__new__") ⟨[.ref C,a],[]⟩) R ⟨h,g,d,t,os⟩
namespace e_newL_K
noncomputable abbrev Sd:=fun z:(((_×_)×_×_×_)×(_×_×_)×_×_×_)=>@S_newL_K z.1.1.1 z.1.1.2 z.1.2.1 z.1.2.2.1 z.1.2.2.2 z.2.1.1 z.2.1.2.1 z.2.1.2.2 z.2.2.1 z.2.2.2.1 z.2.2.2.2
@[irreducible] def κ:=pick (by k_extra "ne") Sd
def t_:=κ.2.2.1
noncomputable abbrev Sc:=@S_newL_K κ.1.1.1 κ.1.1.2 κ.1.2.1 κ.1.2.2.1 κ.1.2.2.2 κ.2.1.1 κ.2.1.2.1 κ.2.1.2.2 t_ κ.2.2.2.1 κ.2.2.2.2
theorem core:Sc:=by
 unfold Sc S_newL_K
 intro Y hq;obtain ⟨⟨oc,od,cd,sl,hC,e1,e2,e4⟩,made,base,self,top,call,typ⟩:=Y
 refine codeAny_call_builtin_code (plainId_quiet PySem.F.plain_list_new _) ?_
 simp only [checkBuiltinCall,ln_kind,ln_split]
 rw [if_pos (by decide)]
 refine wpAny_bind (ks_wpAny_isType_cls hC rfl ?_)
 rw [if_neg (by decide)]
 refine wpAny_bind (top.at ?_)
 rw [if_neg (by decide)]
 refine wpAny_bind (base.at ?_)
 refine wpAny_bind (made.at ?_)
 dsimp only
 rw [if_neg (by rw [ln_canon];decide)]
 have hend:codeAny (model κ.1.1.1 κ.1.1.2) κ.1.2.1 (.builtin "list.__new__" ⟨[.ref κ.1.2.2.1,κ.2.2.2.2],[]⟩) κ.1.2.2.2 ⟨κ.2.1.1,κ.2.1.2.1,κ.2.1.2.2,t_,κ.2.2.2.1⟩:=by
  refine codeAny_builtin_stack PySem.F.entry_list_new rfl fun p st=>?_
  rw [Around.under_plainId PySem.F.plain_list_new _]
  have hown:=PySem.owner_list_new
  dsimp only
  simp -iota only [hown]
  refine wpAny_bind (ks_wpAny_isType_cls hC rfl ?_)
  rw [if_neg (by decide)]
  refine wpAny_bind (top.at ?_)
  rw [if_neg (by decide)]
  refine wpAny_bind (wpAny_pure ?_)
  rw [if_neg (by simp -iota [typeHasDict])]
  unfold newDict
  refine wpAny_bind (wpAny_newObj_type ?_)
  dsimp only
  refine wpAny_bind ?_
  have eN:newObj (.ref κ.1.2.2.1) (Data.seq #[]) (some κ.2.1.1.objs.size)=newObjAsIs (.ref κ.1.2.2.1) (Data.seq #[]) (some κ.2.1.1.objs.size):=by
   unfold newObj
   simp
  rw [eN]
  unfold newObjAsIs classHasDel
  have hC':=Heap.get?_push_of_some (subO κ.1.2.2.1 κ.2.1.1.objs.size #[] 0) (Heap.get?_push_of_some emptyDict hC)
  refine wpAny_bind (wpAny_alloc (wpAny_bind (wpAny_bind (wpAny_load hC' (wpAny_pure ?_)))))
  dsimp only
  rw [e2]
  refine wpAny_pure (wpAny_pure ?_)
  show κ.1.2.2.2 _ _
  rw [Heap.size_push]
  exact hq
 cases hs:Manifest.signature? "list.__new__" with
 | none=>exact wpAny_pure hend
 | some sig =>
  have h2:=ln_args (.ref κ.1.2.2.1) κ.2.2.2.2
  simp -iota only [argsOk,hs] at h2
  have h3:Bind.checkArgs "list.__new__" sig ⟨[.ref κ.1.2.2.1,κ.2.2.2.2],[]⟩=pure ():=h2
  show wpAny _ _ (Bind.checkArgs "list.__new__" sig ⟨[.ref κ.1.2.2.1,κ.2.2.2.2],[]⟩) _ _ _
  rw [h3]
  exact wpAny_pure hend
end e_newL_K
theorem newL_K {a:Value}:@S_newL_K prog w A C R h g d t os a:=@pick_all _ _ e_newL_K.Sd (by with_unfolding_all exact e_newL_K.core) (((_,_),_,_,_),(_,_,_),_,_,_)
noncomputable def S_makeL_core {a:Value} {init:Value}:Prop:=∀ (Y:MakesL (model prog w) h C) (hi:Looks (model prog w) h (typeLookup (.ref C) "__init__") (some init)) (hb:∀ self,Looks (model prog w) h (bindSpecial init self) (init,[self])) (hq:codeAny (model prog w) (A.under (.builtin "type.__call__" ⟨[.ref C,a],[]⟩)) (.call init ⟨[.ref (h.objs.size+1),a],[]⟩) (InitBack (h.objs.size+1) R) ⟨(h.push emptyDict).push (subO C h.objs.size #[] 0),g,d,t,os⟩),codeAny (model prog w) A (.call (.ref C) ⟨[a],[]⟩) R ⟨h,g,d,t,os⟩
namespace e_makeL_core
noncomputable abbrev Sd:=fun z:(((_×_×_)×_×_×_)×(_×_×_)×_×_×_)=>@S_makeL_core z.1.1.1 z.1.1.2.1 z.1.1.2.2 z.1.2.1 z.1.2.2.1 z.1.2.2.2 z.2.1.1 z.2.1.2.1 z.2.1.2.2 z.2.2.1 z.2.2.2.1 z.2.2.2.2
@[irreducible] def κ:=pick (by k_extra "ne") Sd
def h_:=κ.1.2.2.2
noncomputable abbrev Sc:=@S_makeL_core κ.1.1.1 κ.1.1.2.1 κ.1.1.2.2 κ.1.2.1 κ.1.2.2.1 h_ κ.2.1.1 κ.2.1.2.1 κ.2.1.2.2 κ.2.2.1 κ.2.2.2.1 κ.2.2.2.2
theorem core:Sc:=by
 unfold Sc S_makeL_core
 intro Y hi hb hq;have Y':=Y
 obtain ⟨⟨oc,od,cd,sl,hC,e1,e2,e4⟩,made,base,self,top,call,typ⟩:=Y
 refine codeAny_of_tree ?_
 show wpAny _ _ (callAny (.ref κ.1.2.1) _) _ _ _
 refine nd_load hC ?_
 show wpAny _ _ (callAny.viaDunder (.ref κ.1.2.1) _) _ _ _
 unfold callAny.viaDunder
 refine wpAny_bind (call.at ?_)
 dsimp only
 rw [tc_bind]
 refine wpAny_bind (wpAny_pure (wpAny_bind (wpAny_pure ?_)))
 refine wpAny_pure (a:=Fin.again (.call (.builtin "type.__call__") ⟨[.ref κ.1.2.1,κ.2.2.2.1],[]⟩)) (And.intro rfl ?_)
 refine codeAny_call_builtin_at (Code.quiet_builtin _ (by decide +kernel)) entry_typeCall (check_slot tc_kind tc_split typ (tc_args _ _ _) ?_)
 unfold Builtin.«type.__call__»
 have hm:Looks (model κ.1.1.1 κ.1.1.2.1) h_ (mroOf (.ref κ.1.2.1)) cd.mro:=((Looks.ld (part:=none) hC).andThen .now).andThen .now
 repeat (first | simp -iota only [e4,Bool.false_eq_true,if_false] | with_reducible refine wpAny_call ?_ | lk)
 refine newL_K Y' ?_
 have k:∀ b o,h_.get? b=some o -> ((h_.push emptyDict).push (subO κ.1.2.1 h_.objs.size #[] 0)).get? b=some o:=fun b o e=>Heap.get?_push_of_some _ (Heap.get?_push_of_some _ e)
 have hx:((h_.push emptyDict).push (subO κ.1.2.1 h_.objs.size #[] 0)).get? (h_.objs.size+1)=some (subO κ.1.2.1 h_.objs.size #[] 0):=by heap_get
 have t1:Looks (model κ.1.1.1 κ.1.1.2.1) ((h_.push emptyDict).push (subO κ.1.2.1 h_.objs.size #[] 0)) (typeOf (.ref (h_.objs.size+1))) (.ref κ.1.2.1):=(Looks.ld hx).andThen .now
 have s1:=self.keeps k
 have i1:=hi.keeps k
 have b1:=(hb (.ref (h_.objs.size+1))).keeps k
 unfold isInstance callSpecial? specialOf
 repeat (first | with_reducible refine wpAny_call ?_ | lk)
 refine codeAny_mono hq fun r s' z=>?_
 rcases r with e | (v | _ | _ | _)<;>first | exact z | exact z.elim | skip
 obtain ⟨rfl,z⟩:=z
 exact wpAny_pure (wpAny_pure z)
end e_makeL_core
theorem makeL_core {a:Value} {init:Value}:@S_makeL_core prog w A C R h g d t os a init:=@pick_all _ _ e_makeL_core.Sd (by with_unfolding_all exact e_makeL_core.core) (((_,_,_),_,_,_),(_,_,_),_,_,_)
end

section
variable {prog:Program} {w:World} {A:Around} {K:Frag} {C x:Addr} {s:Shared} {h₀:Heap} {L:Addr} {m:Str -> Option Value} {news:List (Addr×Obj)} {R:Result -> Shared -> Prop}
theorem make_sub {a:Value} {fI:Addr} (F:Fr h₀ L s.heap m) (N:News h₀ L s.heap news) (X:K.In s.heap) (hm:makesSub K C=true)
  (hi:findIn K (.ref C) "__init__"=some (some (.ref fI))) (hf:typeIn K (.ref fI)=some (.type "function"))
  (h:∀ x dx h',Fr h₀ L h' m -> News h₀ L h' ((x,subO C dx #[] 0)::(dx,emptyDict)::news) -> (∀ p∈news,p.1 < dx) -> dx < x →
   codeAny (model prog w) (A.under (.builtin "type.__call__" ⟨[.ref C,a],[]⟩)) (.call (.ref fI) ⟨[.ref x,a],[]⟩) (InitBack x R) { s with heap:=h' }) :
  codeAny (model prog w) A (.call (.ref C) ⟨[a],[]⟩) R s:=by
 obtain ⟨hh,g,d,t,os⟩:=s
 refine makeL_core (makesL_of X hm) (looks_findIn X hi) (fun self=>bind_fn X self hf) (h _ hh.objs.size _ ((F.push _).push _) ?_ (fun p hp=>Heap.lt_size (N p hp).1) (Nat.lt_succ_self _))
 have:=(N.push F emptyDict).push (F.push _) (subO C hh.objs.size #[] 0)
 rwa [Heap.size_push] at this
end
end
section
open PySem PySem.W PyProof.Rows PySem.Spec PySem.Calls

theorem slot_wd_get:Slot "wrapper_descriptor" "__get__" "wrapper_descriptor.__get__":=.of (owner:="wrapper_descriptor") (n:="__get__") (by rw [typeLookup_type,builtinLookup_eq_fast];kernel_rfl) (by decide +kernel) (by decide +kernel) (by decide +kernel)
 (by first | exact .inl (by decide +kernel) | exact .inr (by decide +kernel)) (by rw [isSubtype_type];kernel_rfl)
theorem slot_md_get:Slot "method_descriptor" "__get__" "method_descriptor.__get__":=.of (owner:="method_descriptor") (n:="__get__") (by rw [typeLookup_type,builtinLookup_eq_fast];kernel_rfl) (by decide +kernel) (by decide +kernel) (by decide +kernel)
 (by first | exact .inl (by decide +kernel) | exact .inr (by decide +kernel)) (by rw [isSubtype_type];kernel_rfl)
theorem entry_wd_get:entryFor table "wrapper_descriptor.__get__"=some Builtin.«wrapper_descriptor.__get__»:=entryFor_of_tree (by kernel_rfl)
theorem entry_md_get:entryFor table "method_descriptor.__get__"=some Builtin.«method_descriptor.__get__»:=entryFor_of_tree (by kernel_rfl)
theorem args_wd_get (a b c:Value):argsOk "wrapper_descriptor.__get__" ⟨[a,b,c],[]⟩:=by unfold argsOk;kernel_rfl
theorem args_md_get (a b c:Value):argsOk "method_descriptor.__get__" ⟨[a,b,c],[]⟩:=by unfold argsOk;kernel_rfl
theorem ty_init:typeOf (.builtin "list.__init__")=pure (.type "wrapper_descriptor"):=by kernel_rfl
theorem ty_len:typeOf (.builtin "list.__len__")=pure (.type "wrapper_descriptor"):=by kernel_rfl
theorem ty_pop:typeOf (.builtin "list.pop")=pure (.type "method_descriptor"):=by kernel_rfl
section
variable {prog:Program} {w:World} {M:Model} {A:Around} {E:Value -> Shared -> Prop} {h:Heap} {g:Array GenState} {d:Drawn} {t:Nat} {os:OsState}


theorem own_init:".".intercalate ("list.__init__".cutAt '.').dropLast="list":=by decide +kernel
theorem own_len:".".intercalate ("list.__len__".cutAt '.').dropLast="list":=by decide +kernel
theorem own_pop:".".intercalate ("list.pop".cutAt '.').dropLast="list":=by decide +kernel
theorem wd_get {id:String} {x C dx:Addr} {items:Array Value} {n:Nat} {Q:Fin -> Shared -> Prop} (hid:".".intercalate (id.cutAt '.').dropLast="list") (hx:h.get? x=some (subO C dx items n)) (hs:Looks (model prog w) h (isSubtype (.ref C) (.type "list")) true)
  (hq:Q (.done (.ret (.ref h.objs.size))) ⟨h.push { cls:=.type "method-wrapper",data:=.fields #[.builtin id,.ref x] },g,d,t,os⟩) :
  wpAny (model prog w) A (Builtin.«wrapper_descriptor.__get__» ⟨[.builtin id,.ref x,.ref C],[]⟩) Q E ⟨h,g,d,t,os⟩:=by
 unfold Builtin.«wrapper_descriptor.__get__»
 repeat (first
  | (with_reducible refine wpAny_loadPart_at hx ?_)
  | (rw [hid];with_reducible refine Looks.at hs ?_)
  | wp_step
  | dsimp only)
 all_goals exact hq
theorem md_get {x C dx:Addr} {items:Array Value} {n:Nat} {Q:Fin -> Shared -> Prop} (hx:h.get? x=some (subO C dx items n)) (hs:Looks (model prog w) h (isSubtype (.ref C) (.type "list")) true)
  (hq:Q (.done (.ret (.ref h.objs.size))) ⟨h.push { cls:=.type "builtin_function_or_method",data:=.fields #[.builtin "list.pop",.ref x] },g,d,t,os⟩) :
  wpAny (model prog w) A (Builtin.«method_descriptor.__get__» ⟨[.builtin "list.pop",.ref x,.ref C],[]⟩) Q E ⟨h,g,d,t,os⟩:=by
 unfold Builtin.«method_descriptor.__get__»
 repeat (first
  | (with_reducible refine wpAny_loadPart_at hx ?_)
  | (rw [own_pop];with_reducible refine Looks.at hs ?_)
  | (rw [if_neg (by decide +kernel)])
  | wp_step
  | dsimp only)
 all_goals exact hq

noncomputable def S_super_ga {id T G:String} {b:Builtin} {so D x C:Addr} {l₀ l:List Value} {K:Frag} {name:Str} {tk:Tok} {Q:Fin -> Shared -> Prop}:Prop:=∀ (hso:h.get? so=some { cls:=.type "super",dict:=none,data:=.fields #[.ref D,.ref x,.ref C],slots:=#[] }) (hno:Looks (model prog w) h (opaqueClassAbove (.ref C)) none) (hC:Looks (model prog w) h (mroOf (.ref C)) l₀) (hl:(l₀.dropWhile (· != .ref D)).drop 1=l) (X:K.In h) (hf:alongIn K name l=some (some (.builtin id))) (hty:typeOf (.builtin id)=pure (.type T)) (hsl:Slot T "__get__" G) (hen:entryFor table G=some b) (har:argsOk G ⟨[.builtin id,.ref x,.ref C],[]⟩) (hxC:x≠C) (hn:(name == ("__class__":Str))=false) (hb:wpAny (model prog w) A.in1 (b ⟨[.builtin id,.ref x,.ref C],[]⟩) (fun fin s'=>∃ v,fin=.done (.ret v) /\ Q (.done (.ret v)) s') E ⟨h,g,d,t,os⟩),wpAny (model prog w) A (Builtin.«super.__getattribute__» ⟨[.ref so,.str name tk],[]⟩) Q E ⟨h,g,d,t,os⟩
namespace e_super_ga
noncomputable abbrev Sd:=fun z:((((_×_)×_×_×_)×(_×_×_)×_×_×_)×((_×_×_)×_×_×_)×(_×_×_)×_×_×_)=>@S_super_ga z.1.1.1.1 z.1.1.1.2 z.1.1.2.1 z.1.1.2.2.1 z.1.1.2.2.2 z.1.2.1.1 z.1.2.1.2.1 z.1.2.1.2.2 z.1.2.2.1 z.1.2.2.2.1 z.1.2.2.2.2 z.2.1.1.1 z.2.1.1.2.1 z.2.1.1.2.2 z.2.1.2.1 z.2.1.2.2.1 z.2.1.2.2.2 z.2.2.1.1 z.2.2.1.2.1 z.2.2.1.2.2 z.2.2.2.1 z.2.2.2.2.1 z.2.2.2.2.2
@[irreducible] def κ:=pick (by k_extra "ne") Sd
def t_:=κ.1.2.1.2.2
def x_:=κ.2.1.2.2.1
def C_:=κ.2.1.2.2.2
noncomputable abbrev Sc:=@S_super_ga κ.1.1.1.1 κ.1.1.1.2 κ.1.1.2.1 κ.1.1.2.2.1 κ.1.1.2.2.2 κ.1.2.1.1 κ.1.2.1.2.1 t_ κ.1.2.2.1 κ.1.2.2.2.1 κ.1.2.2.2.2 κ.2.1.1.1 κ.2.1.1.2.1 κ.2.1.1.2.2 κ.2.1.2.1 x_ C_ κ.2.2.1.1 κ.2.2.1.2.1 κ.2.2.1.2.2 κ.2.2.2.1 κ.2.2.2.2.1 κ.2.2.2.2.2
theorem core:Sc:=by
 unfold Sc S_super_ga
 intro hso hno hC hl X hf hty hsl hen har hxC hn hb;have hlk:=hsl.lookup
 have hne:(Value.ref x_ == Value.ref C_)=false:=by simp -iota [hxC]
 have hTf:(⟨κ.1.1.2.2.2,κ.1.2.1.1,κ.1.2.1.2.1,t_,κ.1.2.2.1⟩:Shared).TypeIs (.builtin κ.1.2.2.2.1) κ.1.2.2.2.2:=hty
 have hdt:({ cls:=.type "super",dict:=none,data:=.fields #[.ref κ.2.1.2.1,.ref x_,.ref C_],slots:=#[] }:Obj).data=.fields #[.ref κ.2.1.2.1,.ref x_,.ref C_]:=rfl
 have f0:(#[.ref κ.2.1.2.1,.ref x_,.ref C_]:Array Value)[0]?=some (.ref κ.2.1.2.1):=rfl
 have f1:(#[.ref κ.2.1.2.1,.ref x_,.ref C_]:Array Value)[1]?=some (.ref x_):=rfl
 have f2:(#[.ref κ.2.1.2.1,.ref x_,.ref C_]:Array Value)[2]?=some (.ref C_):=rfl
 unfold Builtin.«super.__getattribute__»
 repeat (first
  | (with_reducible refine wpAny_field hso hdt f0 ?_) | (with_reducible refine wpAny_field hso hdt f1 ?_) | (with_reducible refine wpAny_field hso hdt f2 ?_)
  | (with_reducible refine ks_wpAny_notOpaque hno ?_)
  | (with_reducible refine Looks.at hC ?_;rw [hl])
  | (refine ks_forIn_along X (fun _ _=>rfl) rfl ?_ hf)
  | (with_reducible refine wpAny_typeOf hTf ?_)
  | (with_reducible refine wpAny_call_entry hsl hTf hen ?_ har)
  | (simp -iota only [hn,hne,Bool.or_false,Bool.false_eq_true,if_false])
  | wp_step
  | dsimp only)
 all_goals refine wpAny_mono hb (fun fin s' hh=>?_) fun _ _ z=>z
 all_goals obtain ⟨v,rfl,hv⟩:=hh
 all_goals exact ⟨v,rfl,wpAny_bind (wpAny_pure (wpAny_pure (wpAny_pure hv)))⟩
end e_super_ga
theorem super_ga {id T G:String} {b:Builtin} {so D x C:Addr} {l₀ l:List Value} {K:Frag} {name:Str} {tk:Tok} {Q:Fin -> Shared -> Prop}:@S_super_ga prog w A E h g d t os id T G b so D x C l₀ l K name tk Q:=@pick_all _ _ e_super_ga.Sd (by with_unfolding_all exact e_super_ga.core) ((((_,_),_,_,_),(_,_,_),_,_,_),((_,_,_),_,_,_),(_,_,_),_,_,_)
theorem super_getMethod {id T G:String} {b:Builtin} {so D x C:Addr} {l₀ l:List Value} {K:Frag} {name:Str} {pl:Sem Bool} {o:Obj} {Q:Value×List Value -> Shared -> Prop}
  (hso:h.get? so=some { cls:=.type "super",dict:=none,data:=.fields #[.ref D,.ref x,.ref C],slots:=#[] }) (hno:Looks (model prog w) h (opaqueClassAbove (.ref C)) none)
  (hC:Looks (model prog w) h (mroOf (.ref C)) l₀) (hl:(l₀.dropWhile (· != .ref D)).drop 1=l) (X:K.In h)
  (hf:alongIn K name l=some (some (.builtin id))) (hty:typeOf (.builtin id)=pure (.type T)) (hsl:Slot T "__get__" G) (hen:entryFor table G=some b) (har:argsOk G ⟨[.builtin id,.ref x,.ref C],[]⟩)
  (hxC:x≠C) (hn:(name == ("__class__":Str))=false)
  (hb:∀ (A:Around) (E:Value -> Shared -> Prop) (Q':Fin -> Shared -> Prop),Q' (.done (.ret (.ref h.objs.size))) ⟨h.push o,g,d,t+1,os⟩ -> wpAny (model prog w) A (b ⟨[.builtin id,.ref x,.ref C],[]⟩) Q' E ⟨h,g,d,t+1,os⟩)
  (hq:Q (.ref h.objs.size,[]) ⟨h.push o,g,d,t+1,os⟩) :
  wpAny (model prog w) A (getMethod (.ref so) name pl) Q E ⟨h,g,d,t,os⟩:=by
 have hlk:=F.ks_slot_super_ga.lookup
 have hcan:=F.ks_canon_super_ga
 have hT:∀ t',(⟨h,g,d,t',os⟩:Shared).TypeIs (.ref so) "super":=fun _=>⟨_,hso,rfl⟩
 unfold getMethod
 refine wpAny_bind (wpAny_specialOf (hT _) hlk ?_)
 show wpAny _ _ (if (Manifest.canonical "super.__getattribute__" != "object.__getattribute__")=true then _ else _) _ _ _
 rw [if_pos hcan]
 unfold getAttr getAttrBy
 refine wpAny_bind (wpAny_bind (wpAny_mkText (wpAny_holding (wpAny_bind (wpAny_typeOf (hT _) (wpAny_bind (wpAny_of_eq hlk ?_)))))))
 show wpAny _ _ (getAttrByItsOwn (.ref so) (.str name t) (.type "super") (.builtin "super.__getattribute__") true false) _ _ _
 unfold getAttrByItsOwn hookBefore callGetattribute boundAndCalled
 refine wpAny_bind (wpAny_of_eq (show (if onTheHeap (.type "super") then typeLookup (.type "super") "__getattr__" else pure none)=pure none from rfl) ?_)
 refine wpAny_bind (wpAny_attempt (wpAny_holding ?_))
 show wpAny _ _ (bindSpecial (.builtin "super.__getattribute__") (.ref so) >>= _) _ _ _
 refine wpAny_bind (wpAny_of_eq (F.ks_slot_super_ga.bind _) ?_)
 refine wpAny_mono (Q:=fun v s'=>v=.ref h.objs.size /\ s'=⟨h.push o,g,d,t+1,os⟩) (E:=fun _ _=>False)
  (wpAny_call_entry F.ks_slot_super_ga (hT _) F.ks_entry_super_ga (super_ga hso hno hC hl X hf hty hsl hen har hxC hn (hb _ _ _ ⟨_,rfl,_,rfl,rfl,rfl⟩)) (F.ks_gaArgs_super _ _)) (fun v s' hv=>?_) fun _ _ z=>z.elim
 obtain ⟨rfl,rfl⟩:=hv
 exact wpAny_pure (wpAny_pure hq)

theorem call_bound {id:String} {bo x:Addr} {cl:String} {R:Result -> Shared -> Prop} {s:Shared}
  (hbo:s.heap.get? bo=some { cls:=.type cl,data:=.fields #[.builtin id,.ref x] }) (hcl:(cl == "builtin_function_or_method" || cl == "method-wrapper")=true) (hq:(Code.builtin id ⟨[.ref x],[]⟩).quiet=true)
  (hck:∀ (A:Around) (E:Value -> Shared -> Prop) (Q:Unit -> Shared -> Prop),Q () s -> wpAny (model prog w) A (checkBoundCall id ⟨[.ref x],[]⟩) Q E s)
  (h:codeAny (model prog w) A (.builtin id ⟨[.ref x],[]⟩) R s):codeAny (model prog w) A (.call (.ref bo) ⟨[],[]⟩) R s:=by
 refine codeAny_of_tree ?_
 show wpAny _ A.in1 (callAny (.ref bo) ⟨[],[]⟩) _ _ _
 unfold callAny
 refine wpAny_bind (wpAny_load hbo ?_)
 have e:((Value.type cl == Value.type "method") || (Value.type cl == Value.type "builtin_function_or_method") || (Value.type cl == Value.type "method-wrapper"))=true:=by
  simp -iota only [Bool.or_eq_true,beq_iff_eq] at hcl ⊢
  rcases hcl with rfl | rfl<;>simp
 have e2:(Value.type cl != Value.type "method")=true:=by
  simp -iota only [Bool.or_eq_true,beq_iff_eq] at hcl
  rcases hcl with rfl | rfl<;>decide
 dsimp only
 rw [if_pos e]
 show wpAny _ _ (if (Value.type cl != Value.type "method")=true then _ else _) _ _ _
 rw [if_pos e2]
 refine wpAny_bind (hck _ _ _ ?_)
 exact wpAny_pure ⟨hq,h⟩

theorem bcode {id:String} {b:Builtin} {args:Args} {R:Result -> Shared -> Prop} {s:Shared} (hp:plainId id=true) (hb:entryFor table id=some b)
  (hc:wpAny (model prog w) A.in1 (b args) (fun fin s'=>∃ v,fin=.done (.ret v) /\ R (.ok (.ret v)) s') (fun e s'=>R (.error e) s') s):codeAny (model prog w) A (.builtin id args) R s:=by
 refine codeAny_builtin hb ?_
 rw [Around.under_plainId hp _]
 refine wpAny_mono hc (fun fin s' hh=>?_) fun _ _ z=>z
 obtain ⟨v,rfl,hv⟩:=hh
 exact hv
end
section
variable {prog:Program} {w:World} {A:Around} {E:Value -> Shared -> Prop} {s:Shared} {K:Frag} {x C d:Addr} {name:Str} {h₀:Heap} {L:Addr} {m:Str -> Option Value} {news news':List (Addr×Obj)} {items:Array Value} {n:Nat}

theorem b_len {Q:Fin -> Shared -> Prop} (hx:s.heap.get? x=some (subO C d items n)) (h:Q (.done (.ret (.int items.size s.toks))) { s with toks:=s.toks+1 }) :
  wpAny (model prog w) A (Builtin.«list.__len__» ⟨[.ref x],[]⟩) Q E s:=by
 unfold Builtin.«list.__len__»
 refine wpAny_bind (wpAny_pure ?_)
 dsimp only
 unfold seqSize retInt
 refine wpAny_bind (wpAny_bind (wpAny_loadPart hx ?_))
 refine wpAny_pure (wpAny_bind (wpAny_mkInt (wpAny_pure h)))

theorem b_init {Q:Fin -> Shared -> Prop} (F:Fr h₀ L s.heap m) (N:News h₀ L s.heap news)
  (U:Upd x (subO C d #[] 0) (subO C d #[] 0) news news') (h:∀ h',Fr h₀ L h' m -> News h₀ L h' news' -> Q (.done (.ret .none)) { s with heap:=h' }) :
  wpAny (model prog w) A (Builtin.«list.__init__» ⟨[.ref x],[]⟩) Q E s:=by
 have hx:=upd_get N U
 unfold Builtin.«list.__init__»
 dsimp only
 rw [if_neg (by decide),if_neg (by decide)]
 refine wpAny_bind (wpAny_listItems hx rfl ?_)
 show wpAny _ _ (updateSeq x (fun _=>#[]) >>= _) _ _ s
 refine wpAny_bind (wpAny_updateSeq hx rfl ?_ (by size_fits) (by size_fits))
 have e:Obj.mapSeq (fun _=>#[]) (subO C d #[] 0)=subO C d #[] 0:=rfl
 obtain ⟨F',N'⟩:=upd_news F N U (Heap.SameBut.update (f:=Obj.mapSeq fun _=>#[]) ..) (by rw [Heap.get?_update_self _ hx (by rw [e];rfl),e])
 exact wpAny_bind (wpAny_letGo' (wpAny_pure (h _ F' N')) _ _)
theorem b_pop {v:Value} {Q:Fin -> Shared -> Prop} (F:Fr h₀ L s.heap m) (N:News h₀ L s.heap news)
  (U:Upd x (subO C d (items.push v) n) (subO C d items (n+1)) news news') (h:∀ h',Fr h₀ L h' m -> News h₀ L h' news' -> Q (.done (.ret v)) { s with heap:=h' }) (hsz:items.size+1 <= sizeLine:=by size_fits) :
  wpAny (model prog w) A (Builtin.«list.pop» ⟨[.ref x],[]⟩) Q E s:=by
 have hx:=upd_get N U
 unfold Builtin.«list.pop»
 refine wpAny_bind (wpAny_pure ?_)
 refine wpAny_bind (wpAny_pure ?_)
 dsimp only
 rw [if_neg (by decide)]
 refine wpAny_bind (wpAny_listItems hx rfl ?_)
 rw [if_neg (by simp)]
 have e:(seqIndex? (-1) (items.push v).size).bind (fun k=>(items.push v)[k]?.map (k,·))=some (items.size,v):=by
  have e1:seqIndex? (-1) (items.push v).size=some items.size:=by
   unfold seqIndex?
   simp only [Array.size_push,show (-1:Int) < 0 from by decide,if_true]
   have a:(decide (0 <= -1+((items.size+1:Nat):Int)) && decide (-1+((items.size+1:Nat):Int) < ((items.size+1:Nat):Int)))=true:=by
    simp only [Bool.and_eq_true,decide_eq_true_eq];omega
   rw [if_pos a]
   congr 1;omega
  rw [e1]
  simp
 rw [e]
 show wpAny _ _ (updateSeq x (·.eraseIdxIfInBounds items.size) >>= fun _=>ret v) _ _ s
 refine wpAny_bind (wpAny_updateSeq hx rfl ?_ (by rw [Array.size_push];exact hsz) (by rw [pop_push];omega))
 have e2:Obj.mapSeq (fun xs=>xs.eraseIdxIfInBounds items.size) (subO C d (items.push v) n)=subO C d items (n+1):=by
  simp only [Obj.mapSeq,pop_push,Array.size_push]
  simp
 obtain ⟨F',N'⟩:=upd_news F N U (Heap.SameBut.update (f:=Obj.mapSeq fun xs=>xs.eraseIdxIfInBounds items.size) ..) (by rw [Heap.get?_update_self _ hx (by rw [e2];rfl),e2])
 exact wpAny_pure (h _ F' N')
end
end
section
open PySem PySem.W PyProof.Rows PySem.Spec PySem.Calls

noncomputable abbrev boundO (cl id:String) (x:Addr):Obj:={ cls:=.type cl,data:=.fields #[.builtin id,.ref x] }
inductive SupB:String -> String -> Prop
 | init:SupB "list.__init__" "method-wrapper"
 | len:SupB "list.__len__" "method-wrapper"
 | pop:SupB "list.pop" "builtin_function_or_method"
section
variable {prog:Program} {w:World} {A:Around} {E:Value -> Shared -> Prop} {s:Shared} {K:Frag} {x C D so d:Addr} {name:Str} {h₀:Heap} {L:Addr} {m:Str -> Option Value} {news news':List (Addr×Obj)} {items:Array Value} {n:Nat}

theorem sup_method {id cl:String} {pl:Sem Bool} {Q:Value×List Value -> Shared -> Prop} (F:Fr h₀ L s.heap m) (X₀:K.In h₀) (N:News h₀ L s.heap news) (hso:(so,ks_superObj D x C)∈news) (hx:(x,subO C d items n)∈news)
  (ho:nsIn K cStatics "thirdparty.any"=some none) (hm:ks_superIn K C D name=some (some (.builtin id))) (hl:mroIn K C (.type "list")=some true) (hn:(name == ("__class__":Str))=false) (hs:SupB id cl)
  (h:∀ q h',Fr h₀ L h' m -> News h₀ L h' ((q,boundO cl id x)::news) -> (∀ p∈news,p.1 < q) -> Q (.ref q,[]) { s with heap:=h',toks:=s.toks+1 }):wpAny (model prog w) A (getMethod (.ref so) name pl) Q E s:=by
 have X:K.In s.heap:=X₀.keeps F.keep
 obtain ⟨hh,g,dr,t,os⟩:=s
 have hxx:=(N _ hx).1
 cases hc:clsIn K C with
 | none=>unfold ks_superIn at hm;rw [hc] at hm;cases hm
 | some cd =>
  unfold ks_superIn at hm
  rw [hc] at hm
  have hxC:x≠C:=by
   rintro rfl
   unfold clsIn at hc
   split at hc
   ·rename_i c d cd' sl ho
    have e:=X _ _ ho
    rw [hxx] at e
    cases e
   ·cases hc
  have hC:Looks (model prog w) hh (mroOf (.ref C)) cd.mro:=fun A Q E s k q=>wpAny_bind ((looks_clsIn X hc) A _ E s k (wpAny_pure q))
  have hsub:Looks (model prog w) hh (isSubtype (.ref C) (.type "list")) true:=looks_mroIn X hl
  obtain ⟨F',N',l'⟩:=ks_newsPush (s:=⟨hh,g,dr,t,os⟩) (o:=boundO cl id x) F N rfl (Heap.get?_push_at rfl rfl) (fun b o e=>Heap.get?_push_of_some _ e)
  cases hs
  ·exact super_getMethod (N _ hso).1 (looks_opaque X ho) hC rfl X hm ty_init slot_wd_get entry_wd_get (args_wd_get _ _ _) hxC hn (fun A E Q' hq=>wd_get own_init hxx hsub hq) (h _ _ F' N' l')
  ·exact super_getMethod (N _ hso).1 (looks_opaque X ho) hC rfl X hm ty_len slot_wd_get entry_wd_get (args_wd_get _ _ _) hxC hn (fun A E Q' hq=>wd_get own_len hxx hsub hq) (h _ _ F' N' l')
  ·exact super_getMethod (N _ hso).1 (looks_opaque X ho) hC rfl X hm ty_pop slot_md_get entry_md_get (args_md_get _ _ _) hxC hn (fun A E Q' hq=>md_get hxx hsub hq) (h _ _ F' N' l')

theorem pop_args_acc (v:Value):(match Manifest.signature? "list.pop" with | some sig=>Bind.checkArgs "list.pop" { sig with full:=toString ((("_Accumulator":Str)).toString) ++ toString "." ++ toString (Bind.lastOf "list.pop") } ⟨[v],[]⟩ | none=>pure ())=pure ():=by kernel_rfl
theorem pop_not_var:Manifest.varargsMethods.contains "list.pop"=false:=by decide +kernel
theorem pop_kind:builtinKind "list.pop"=some .method:=by decide +kernel
theorem init_kind:builtinKind "list.__init__"=some .slot:=by decide +kernel
theorem len_kind:builtinKind "list.__len__"=some .slot:=by decide +kernel
theorem check_bound_slot {id:String} {v:Value} {Q:Unit -> Shared -> Prop} (hk:builtinKind id=some .slot) (ha:argsOk id ⟨[v],[]⟩) (q:Q () s):wpAny (model prog w) A (checkBoundCall id ⟨[v],[]⟩) Q E s:=by
 unfold checkBoundCall
 cases hs:Manifest.signature? id with
 | none=>exact wpAny_pure q
 | some sig =>
  simp only [argsOk,hs] at ha
  have h2:Bind.checkArgs id sig ⟨[v],[]⟩=pure ():=ha
  simp only [hk]
  rw [if_pos (by decide)]
  exact wpAny_of_eq h2 q
theorem check_bound_pop {Q:Unit -> Shared -> Prop} {oC:Obj} {cd:ClassData} (hx:s.heap.get? x=some (subO C d items n)) (hC:s.heap.get? C=some oC) (hd:oC.data=.cls cd) (ht:oC.cls=.type "type")
  (hq:cd.qualname=("_Accumulator":Str)) (hm:Looks (model prog w) s.heap (isSubtype (.ref C) (.type "module")) false) (q:Q () s):wpAny (model prog w) A (checkBoundCall "list.pop" ⟨[.ref x],[]⟩) Q E s:=by
 obtain ⟨hh,g,dr,t,os⟩:=s
 unfold checkBoundCall
 have key:=pop_args_acc (.ref x)
 cases hs:Manifest.signature? "list.pop" with
 | none=>exact wpAny_pure q
 | some sig =>
  rw [hs] at key
  dsimp only at key
  simp only [pop_kind]
  rw [if_neg (by decide)]
  have hty:Looks (model prog w) hh (typeOf (.ref x)) (.ref C):=(Looks.ld hx).andThen .now
  have hinst:Looks (model prog w) hh (isInstance (.ref x) (.type "module")) false:=hty.andThen hm
  refine wpAny_bind (hinst.at ?_)
  rw [pop_not_var,if_neg (by decide)]
  refine wpAny_bind ?_
  refine ks_wpAny_isType_inst hx (fun c=>by simp) ?_
  rw [if_neg (by decide)]
  refine wpAny_bind (hty.at ?_)
  dsimp only
  have hcd:Looks (model prog w) hh (classData C) cd:=by
   intro A Q E s k q;unfold classData
   refine wpAny_bind (wpAny_load (k _ _ hC) ?_)
   rw [hd]
   exact wpAny_pure q
  refine wpAny_bind (hcd.at ?_)
  have htC:Looks (model prog w) hh (typeOf (.ref C)) (.type "type"):=by
   have z:Looks (model prog w) hh (typeOf (.ref C)) oC.cls:=(Looks.ld hC).andThen .now
   rwa [ht] at z
  refine wpAny_bind (htC.at ?_)
  rw [if_pos (by decide),hq]
  exact wpAny_of_eq key q
theorem call_b_init {b:Addr} {Q:Value -> Shared -> Prop} (F:Fr h₀ L s.heap m) (N:News h₀ L s.heap news) (hb:(b,boundO "method-wrapper" "list.__init__" x)∈news) (U:Upd x (subO C d #[] 0) (subO C d #[] 0) news news')
  (h:∀ h',Fr h₀ L h' m -> News h₀ L h' news' -> Q .none { s with heap:=h' }):wpAny (model prog w) A (call (.ref b) []) Q E s:=by
 refine wpAny_call (call_bound (N _ hb).1 (by decide) (plainId_quiet PySem.F.slot_list_init.plain _) (fun A E Q q=>?_) (bcode PySem.F.slot_list_init.plain PySem.F.entry_list_init (b_init F N U fun h' F' N'=>⟨_,rfl,h h' F' N'⟩)))
 with_reducible exact check_bound_slot init_kind (PySem.F.args_list_init_1 _) q
theorem call_b_len {b:Addr} {Q:Value -> Shared -> Prop} (N:News h₀ L s.heap news) (hb:(b,boundO "method-wrapper" "list.__len__" x)∈news) (hx:(x,subO C d items n)∈news)
  (h:Q (.int items.size s.toks) { s with toks:=s.toks+1 }):wpAny (model prog w) A (call (.ref b) []) Q E s:=by
 refine wpAny_call (call_bound (N _ hb).1 (by decide) (plainId_quiet PySem.F.slot_list_len.plain _) (fun A E Q q=>?_) (bcode PySem.F.slot_list_len.plain PySem.F.entry_list_len (b_len (N _ hx).1 ⟨_,rfl,h⟩)))
 with_reducible exact check_bound_slot len_kind (PySem.F.args_list_len_1 _) q
theorem call_b_pop {b:Addr} {oC:Obj} {cd:ClassData} {v:Value} {Q:Value -> Shared -> Prop} (F:Fr h₀ L s.heap m) (X:K.In h₀) (N:News h₀ L s.heap news) (hb:(b,boundO "builtin_function_or_method" "list.pop" x)∈news) (hC:K.lookup C=some oC) (hd:oC.data=.cls cd) (ht:oC.cls=.type "type")
  (hq:cd.qualname=("_Accumulator":Str)) (hm:mroIn K C (.type "module")=some false) (U:Upd x (subO C d (items.push v) n) (subO C d items (n+1)) news news')
  (hsz:items.size+1 <= sizeLine) (h:∀ h',Fr h₀ L h' m -> News h₀ L h' news' -> Q v { s with heap:=h' }):wpAny (model prog w) A (call (.ref b) []) Q E s:=by
 have X':=X.keeps F.keep
 refine wpAny_call (call_bound (N _ hb).1 (by decide) (plainId_quiet PySem.F.slot_list_pop.plain _) (fun A E Q q=>?_) (bcode PySem.F.slot_list_pop.plain PySem.F.entry_list_pop (b_pop F N U (fun h' F' N'=>⟨_,rfl,h h' F' N'⟩) hsz)))
 exact check_bound_pop (upd_get N U) (X' _ _ hC) hd ht hq (looks_mroIn X' hm) q
theorem keeps_B {M:Model} {q:Addr} {id cl:String} (hcl:(cl == "builtin_function_or_method" || cl == "method-wrapper")=true) (h:Heap) (X:h.get? q=some (boundO cl id x)):∃ k,(k=Keeper.frame \/ k=Keeper.machine \/ k=Keeper.boundFrame) /\ Looks M h (keeperOf (.ref q)) k:=by
 refine ⟨.machine,.inr (.inl rfl),(Looks.ld (part:=none) X).andThen ?_⟩
 simp only [Bool.or_eq_true,beq_iff_eq] at hcl
 rcases hcl with rfl | rfl<;>exact .now
theorem callWith_B0 {env:Env} {pos:Pos} {q:Addr} {id cl:String} {first:List Value} {Q:Value -> Shared -> Prop} (N:News h₀ L s.heap news) (hb:(q,boundO cl id x)∈news) (hcl:(cl == "builtin_function_or_method" || cl == "method-wrapper")=true)
  (h:wpAny (model prog w) A (call (.ref q) (first ++ [])) Q E s):wpAny (model prog w) A (callWith pos (.ref q) first (backTo pos (starEach [] env)) []) Q E s :=
 callWith_of rfl (keeps_B hcl) (evalArgs_nil3 ⟨(N _ hb).1,h⟩)
end
end
section
open PySem PySem.W PyProof.Rows PySem.Spec PySem.Calls
section
variable {prog:Program} {w:World} {A:Around} {E:Value -> Shared -> Prop} {s:Shared} {K:Frag} {x C d:Addr} {h₀:Heap} {L:Addr} {m:Str -> Option Value} {news:List (Addr×Obj)} {items:Array Value} {n:Nat}

theorem sub_iter {Q:Value -> Shared -> Prop} (X:K.In s.heap) (hx:s.heap.get? x=some (subO C d items n)) (hf:findIn K (.ref C) "__iter__"=some (some (.builtin "list.__iter__"))) (hl:mroIn K C (.type "list")=some true)
  (hQ:Q (.ref s.heap.objs.size) { s with heap:=s.heap.push { cls:=.type "list_iterator",data:=.fields #[.ref x,.int 0 0] } }) :
  wpAny (model prog w) A (pyIter (.ref x)) Q E s:=by
 have hty:Looks (model prog w) s.heap (typeOf (.ref x)) (.ref C):=(Looks.ld hx).andThen .now
 have hfi:=looks_findIn (M:=model prog w) X hf
 unfold pyIter specialOf
 refine wpAny_bind (wpAny_bind (hty.here (hfi.here ?_)))
 simp -iota only [callSpecialIfBoundUnlessNone?,bindSpecialIfBound?,specialOf]
 refine wpAny_bind (wpAny_holding (wpAny_bind (wpAny_bind (wpAny_bind (hty.here (hfi.here ?_))))))
 have fin:wpAny (model prog w) A (call (.builtin "list.__iter__") [.ref x]) (fun it s'=>∃ T' r,s'.TypeIs it T' /\ typeLookup (.type T') "__next__"=pure (some r) /\ Q it s') E s:=by
  refine sub_call PySem.F.slot_list_iter.plain PySem.F.entry_list_iter k_iter sp_iter (looks_sub X hx hl) (PySem.F.args_list_iter_1 _) ?_
  show wpAny _ _ (do ret (← newFields "list_iterator" [.ref x,rawInt 0])) _ _ s
  exact wpAny_bind (wpAny_newObj_type (wpAny_pure ⟨_,rfl,"list_iterator",_,⟨_,Heap.get?_push_size _ rfl,rfl⟩,PySem.slot_listiter_next.lookup,hQ⟩))
 have fin2:∀ (Q':Option Value -> Shared -> Prop),(∀ it s' T' r,s'.TypeIs it T' -> typeLookup (.type T') "__next__"=pure (some r) -> Q it s' -> Q' (some it) s') -> wpAny (model prog w) A (if (Value.builtin "list.__iter__" == Value.none)=true then (do
    rule "iter.none"
    raiseError "TypeError" s!"'{← typeNameOf (.ref x)}' object is not iterable") >>= fun v=>pure (some v) else (call (.builtin "list.__iter__") [.ref x] >>= fun v=>pure (some v))) Q' E s:=by
  intro Q' hQ';simp -iota only [builtin_beq_none,Bool.false_eq_true,if_false]
  refine wpAny_bind (wpAny_mono fin (fun v s' h'=>?_) fun _ _ h'=>h')
  refine via ?_
  intro gV yV;obtain ⟨T',r,a,b,c⟩:=h'
  refine yV ?_
  clear yV gV;exact wpAny_pure (hQ' _ _ _ _ a b c)
 refine wpAny_bind (wpAny_askSetting (wpAny_ite ?_))
 simp -iota only [PySem.F.slot_list_iter.bind]
 have last:∀ it s' T' r,s'.TypeIs it T' -> typeLookup (.type T') "__next__"=pure (some r) -> Q it s' -> wpAny (model prog w) A (do
   match <- specialOf it "__next__" with
   | none=>rule "iter.non-iterator";raiseError "TypeError" s!"iter() returned non-iterator of type '{← typeNameOf it}'"
   | some _=>pure it) Q E s':=fun it s' T' r a b c=>wpAny_bind (wpAny_specialOf a b (wpAny_pure c))
 split
 ·refine wpAny_bind (wpAny_pure (wpAny_pure ?_))
  exact fin2 _ fun it s' T' r a b c=>last it s' T' r a b c
 ·refine wpAny_tryCatch (wpAny_bind (wpAny_pure (wpAny_pure ?_)))
  exact fin2 _ fun it s' T' r a b c=>last it s' T' r a b c

theorem next_item {it l:Addr} {i:Nat} {ol:Obj} {nl:Nat} {v:Value} {Q:Option Value -> Shared -> Prop} (hit:s.heap.IsListIter it l i)
  (hol:s.heap.get? l=some ol) (hdl:ol.data=.seq items nl) (hx:items[i]?=some v)
  (hQ:∀ h',h'.IsListIter it l (i+1) -> Heap.SameBut it s.heap h' -> Q (some v) { s with heap:=h' }) :
  wpAny (model prog w) A (pyNext (.ref it)) Q E s:=by
 refine via ?_
 intro gV yV;obtain ⟨o,ho,hc,hd⟩:=id hit
 refine yV ?_
 clear yV gV;unfold pyNext
 refine wpAny_bind (wpAny_attempt (wpAny_callSpecial?_slot (name:=Str.ofString "__next__") hit.typeIs PySem.slot_listiter_next
  (wpAny_call_entry PySem.slot_listiter_next hit.typeIs PySem.entry_listiter_next ?_ (PySem.args_listiter_next _))))
 show wpAny _ _ (field (.ref it) 0 >>= _) _ _ s
 refine wpAny_bind (wpAny_field ho hd (x:=.ref l) rfl ?_)
 show wpAny _ _ (if (Value.ref l == Value.none)=true then _ else _) _ _ s
 rw [if_neg (show ¬ ((Value.ref l == Value.none)=true) from Bool.false_ne_true)]
 show wpAny _ _ (field (.ref it) 1 >>= _) _ _ s
 refine wpAny_bind (wpAny_field ho hd (x:=.int i 0) rfl ?_)
 show wpAny _ _ (seqItems? (.ref l) >>= _) _ _ s
 refine wpAny_bind (wpAny_seqItems hol hdl ?_)
 simp only [Int.toNat_natCast,hx]
 refine wpAny_bind (wpAny_setField ho hd (by simp) (wpAny_pure ⟨v,rfl,wpAny_pure (hQ _ ?_ (Heap.SameBut.update ..))⟩))
 exact ⟨_,Heap.get?_update_self _ ho (Obj.isFreed_of_fields (Obj.data_mapFields hd _)),(Obj.cls_mapFields ..).trans hc,by
  rw [Obj.data_mapFields hd];simp [rawInt]⟩

theorem next_end {it l:Addr} {i:Nat} {ol:Obj} {nl:Nat} {Q:Option Value -> Shared -> Prop} (hh:A.handled=none)
  (hit:s.heap.IsListIter it l i) (hol:s.heap.get? l=some ol) (hdl:ol.data=.seq items nl) (hx:items[i]?=none)
  (hQ:∀ h',Heap.ExtBut it s.heap h' -> Q none { s with heap:=h' }):wpAny (model prog w) A (pyNext (.ref it)) Q E s:=by
 refine via ?_
 intro gV yV;obtain ⟨o,ho,hc,hd⟩:=id hit
 refine yV ?_
 clear yV gV;unfold pyNext
 refine wpAny_bind (wpAny_attempt (wpAny_callSpecial?_slot (name:=Str.ofString "__next__") hit.typeIs PySem.slot_listiter_next
  (wpAny_call_entry PySem.slot_listiter_next hit.typeIs PySem.entry_listiter_next ?_ (PySem.args_listiter_next _))))
 show wpAny _ _ (field (.ref it) 0 >>= _) _ _ s
 refine wpAny_bind (wpAny_field ho hd (x:=.ref l) rfl ?_)
 show wpAny _ _ (if (Value.ref l == Value.none)=true then _ else _) _ _ s
 rw [if_neg (show ¬ ((Value.ref l == Value.none)=true) from Bool.false_ne_true)]
 show wpAny _ _ (field (.ref it) 1 >>= _) _ _ s
 refine wpAny_bind (wpAny_field ho hd (x:=.int i 0) rfl ?_)
 show wpAny _ _ (seqItems? (.ref l) >>= _) _ _ s
 refine wpAny_bind (wpAny_seqItems hol hdl ?_)
 simp only [Int.toNat_natCast,hx]
 refine wpAny_bind (wpAny_rule (wpAny_bind (wpAny_setField ho hd (by simp) ?_)))
 show wpAny _ _ (newExc (.type "StopIteration") [] >>= _) _ _ _
 refine wpAny_bind ?_
 simp -iota only [newExc,newTuple]
 refine wpAny_bind (wpAny_newObj_type ?_ (by size_fits))
 refine wpAny_bind (m:=firstArgMember _ _) (wpAny_of_eq (a:=Value.none) (by first | rfl | (simp -iota only [firstArgMember];rfl)) ?_)
 refine wpAny_newObj_type ?_ (by size_fits)
 simp -iota only [raiseNew]
 refine wpAny_bind (wpAny_handled ?_)
 rw [show A.in1.handled=none from hh]
 refine wpAny_bind (wpAny_pure (wpAny_throw ?_))
 refine wpAny_bind (wpAny_isInstance (T:="StopIteration") (b:=true) ⟨_,Heap.get?_push_size _ rfl,rfl⟩ PySem.isSubtype_stop ?_)
 exact wpAny_pure (hQ _ (((Heap.SameBut.update ..).extBut.push _).push _))
end

theorem pairsU {prog:Program} {w:World} {A:Around} (hh:A.handled=none) (I ax:Addr) (hne:ax≠I) (items:Array Value) (ox:Obj) (nx:Nat) (hd:ox.data=.seq items nx) (Ts:Nat -> Addr) (vals:Nat -> Array Value)
  (hit:∀ j,j < items.size -> items[j]?=some (.ref (Ts j))) (hTI:∀ j,j < items.size -> Ts j≠I) :
  WalksU prog w A I (I::ax::(List.range items.size).map Ts) [I] items.size (fun j v=>j < items.size /\ v=vals j)
   (fun j h=>h.IsListIter I ax j /\ h.get? ax=some ox /\ ∀ k,k < items.size -> h.IsTuple (Ts k) (vals k))
   (fun j T h=>(j < items.size /\ T=Ts j) /\ h.IsListIter I ax (j+1) /\ h.get? ax=some ox /\ ∀ k,k < items.size -> h.IsTuple (Ts k) (vals k)) where
 sub:=fun b hb=>by simp at hb;simp -iota [hb]
 frame:=fun _ _ _ st hk=>⟨st.1.at fun o e=>hk I (by simp) o e,hk ax (by simp) _ st.2.1,
  fun k hk'=>(st.2.2 k hk').at fun o e=>hk (Ts k) (List.mem_cons_of_mem _ (List.mem_cons_of_mem _ (List.mem_map.mpr ⟨k,List.mem_range.mpr hk',rfl⟩))) o e⟩
 item:=fun i s Q E hi st hQ=>by
  refine next_item st.1 st.2.1 hd (v:=.ref (Ts i)) (hit i hi) fun h' hit' hs'=>?_
  have tup:∀ k,k < items.size -> h'.IsTuple (Ts k) (vals k):=fun k hk'=>(st.2.2 k hk').extBut hs'.extBut (hTI k hk')
  exact hQ (Ts i) (vals i) h' s.toks ⟨hi,rfl⟩ (tup i hi) ⟨⟨hi,rfl⟩,hit',hs'.extBut ax _ hne st.2.1,tup⟩ fun b o hb e=>hs'.extBut b o (fun h=>hb (by simp -iota [h])) e
 go:=fun _ _ _ _ _ s Q _ hm hQ=>wpAny_letOwnedTupleGo_listiter hm.2.1 (hQ s.heap hm.2 fun _ _ _ e=>e)
 apart:=fun j T _ hm hmem=>by
  rcases List.mem_cons.mp hmem with e | e
  ·exact hTI j hm.1.1 (hm.1.2▸e)
  ·cases e
 done:=fun s Q E st hQ=>next_end hh st.1 st.2.1 hd (by simp) fun h' he'=>hQ h' s.toks fun b o hb e=>he' b o (fun h=>hb (by simp -iota [h])) e
 self:=fun _ _ _ _ st hQ=>wpAny_pyIter_listiter st.1 hQ

theorem shiftS {prog:Program} {w:World} {A:Around} {I:Addr} {fp wr:List Addr} {G:Array GenState -> Array GenState -> Prop} {n:Nat} {P:Nat -> Value -> Prop} {St:Nat -> Shared -> Prop}
  (W:WalksS prog w A I fp wr G n P St):WalksS prog w A I fp wr G (n+1) (fun i v=>1 <= i /\ P (i - 1) v) (fun i s=>1 <= i /\ St (i - 1) s) where
 sub:=W.sub
 grefl:=W.grefl
 gtrans:=W.gtrans
 frame:=fun i s h' tk st a b=>⟨st.1,W.frame _ s h' tk st.2 a b⟩
 item:=fun i s Q E hi st hQ=>by
  refine W.item (i - 1) s Q E (by omega) st.2 fun v s' hP hst hm=>hQ v s' ⟨st.1,hP⟩ ⟨by omega,?_⟩ hm
  rwa [show i+1 - 1=i - 1+1 from by omega]
 done:=fun s Q E st hQ=>W.done s Q E st.2 hQ
 self:=fun i s Q E st hQ=>W.self _ s Q E st.2 hQ

section
variable {prog:Program} {w:World} {A:Around} {E:Value -> Shared -> Prop} {s:Shared}
theorem sum_args2 (a b:Value):argsOk "sum" ⟨[a,b],[]⟩:=by unfold argsOk;kernel_rfl
noncomputable def S_sum2 {x:Value} {k:Int} {tk:Tok} {Q:Value -> Shared -> Prop}:Prop:=∀ (h:wpAny (model prog w) A.in1 (pyIter x) (fun it s₂=>∃ I fp wr G n P St,∃ val:Nat -> Int,it=.ref I /\ WalksS prog w A.in1 I fp wr G n P St /\ St 0 s₂ /\ (∀ b∈fp,b < s₂.heap.objs.size) ∧
   (∀ i v,P i v -> ∃ t,v=.int (val i) t) ∧
   ∀ s' t',Moved wr G s₂ s' -> Q (.int (k+preSum val n) t') s') E s),wpAny (model prog w) A (call (.builtin "sum") [x,.int k tk]) Q E s
namespace e_sum2
noncomputable abbrev Sd:=fun z:(((_×_)×_×_)×(_×_)×_×_×_)=>@S_sum2 z.1.1.1 z.1.1.2 z.1.2.1 z.1.2.2 z.2.1.1 z.2.1.2 z.2.2.1 z.2.2.2.1 z.2.2.2.2
@[irreducible] def κ:=pick (by k_extra "ne") Sd
def k_:=κ.2.2.1
noncomputable abbrev Sc:=@S_sum2 κ.1.1.1 κ.1.1.2 κ.1.2.1 κ.1.2.2 κ.2.1.1 κ.2.1.2 k_ κ.2.2.2.1 κ.2.2.2.2
theorem core:Sc:=by
 unfold Sc S_sum2
 intro h;refine call_function_tree PySem.F.kind_sum PySem.F.plain_sum PySem.F.entry_sum (sum_args2 _ _) ?_
 unfold Builtin.«sum»
 simp -iota only [List.length_cons,List.length_nil]
 rw [if_neg (by decide)]
 refine wpAny_bind (wpAny_of_eq (show Builtin.Builtins.bindParams "sum" ["start"] 0 { pos:=[.int k_ κ.2.2.2.1] }=pure [some (.int k_ κ.2.2.2.1)] from rfl) ?_)
 refine wpAny_bind (wpAny_mono h (fun it s₂ h₂=>?_) fun _ _ e=>e)
 refine via ?_
 intro gV yV;obtain ⟨I,fp,wr,G,n,P,St,val,rfl,W,hst,hfp,hval,hQ⟩:=h₂
 refine yV ?_
 clear yV gV;dsimp only
 let val':Nat -> Int:=fun i=>if i=0 then k_ else val (i - 1)
 have hp:∀ j,preSum val' (j+1)=k_+preSum val j:=by
  intro j;induction j with
  | zero=>simp -iota [preSum,val']
  | succ j ih=>rw [show preSum val' (j+1+1)=preSum val' (j+1)+val' (j+1) from rfl,ih,show preSum val (j+1)=preSum val j+val j from rfl];simp -iota [val'];omega
 split
 ·refine wpAny_bind (wpAny_rule (wpAny_bind (wpAny_mkInt ?_)))
  refine wpAny_bind (wpAny_pure ?_)
  simp -iota only [List.forIn_cons,List.forIn_nil]
  refine wpAny_bind (wpAny_bind (wpAny_bind (wpAny_isInstance (T:="int") (b:=false) (typeIs_int _ _ _) PySem.sub_int_str ?_)))
  simp -iota only [Bool.false_eq_true,if_false]
  refine wpAny_pure (wpAny_bind (wpAny_bind (wpAny_isInstance (T:="int") (b:=false) (typeIs_int _ _ _) PySem.sub_int_bytes ?_)))
  simp -iota only [Bool.false_eq_true,if_false]
  refine wpAny_pure (wpAny_bind (wpAny_bind (wpAny_isInstance (T:="int") (b:=false) (typeIs_int _ _ _) PySem.sub_int_bytearray ?_)))
  simp -iota only [Bool.false_eq_true,if_false]
  refine wpAny_pure (wpAny_pure ?_)
  refine wpAny_bind (wpAny_newObj_type ?_)
  have hSf:s₂.heap.objs.size∉fp:=fun hm=>Nat.lt_irrefl _ (hfp _ hm)
  refine wpAny_pure ⟨plainId_quiet PySem.F.plain_sum_loop _,codeAny_sum_loopAnyS (shiftS W) val' (fun i v hv=>?_) s₂.heap.objs.size hSf n 1 _ s₂.toks 0 0 (.inl rfl) (by omega) (by omega)
   (⟨Nat.le_refl _,W.frame 0 s₂ _ _ hst (by first | exact Nat.le_refl _ | exact Nat.le_succ _ | omega) fun b _ o e=>Heap.get?_push_of_some _ e⟩) ?_ fun s' t' hm=>?_⟩
  ·obtain ⟨t,ht⟩:=hval _ _ hv.2
   refine ⟨t,?_⟩
   rw [ht];simp -iota only [val'];rw [if_neg (by omega)]
  ·rw [hp 0];simp -iota only [preSum,Int.add_zero];exact Heap.get?_push_size _ rfl
  ·rw [hp n];exact hQ s' t' (hm.drop_new (by first | exact Nat.le_refl _ | exact Nat.le_succ _ | omega))
 ·refine wpAny_bind (wpAny_pure ?_)
  simp -iota only [List.forIn_cons,List.forIn_nil]
  refine wpAny_bind (wpAny_bind (wpAny_bind (wpAny_isInstance (T:="int") (b:=false) (typeIs_int _ _ _) PySem.sub_int_str ?_)))
  simp -iota only [Bool.false_eq_true,if_false]
  refine wpAny_pure (wpAny_bind (wpAny_bind (wpAny_isInstance (T:="int") (b:=false) (typeIs_int _ _ _) PySem.sub_int_bytes ?_)))
  simp -iota only [Bool.false_eq_true,if_false]
  refine wpAny_pure (wpAny_bind (wpAny_bind (wpAny_isInstance (T:="int") (b:=false) (typeIs_int _ _ _) PySem.sub_int_bytearray ?_)))
  simp -iota only [Bool.false_eq_true,if_false]
  refine wpAny_pure (wpAny_pure ?_)
  refine wpAny_bind (wpAny_newObj_type ?_)
  have hSf:s₂.heap.objs.size∉fp:=fun hm=>Nat.lt_irrefl _ (hfp _ hm)
  refine wpAny_pure ⟨plainId_quiet PySem.F.plain_sum_loop _,codeAny_sum_loopAnyS (shiftS W) val' (fun i v hv=>?_) s₂.heap.objs.size hSf n 1 _ κ.2.2.2.1 0 2 (.inr rfl) (by omega) (by omega)
   (⟨Nat.le_refl _,W.frame 0 s₂ _ _ hst (by first | exact Nat.le_refl _ | exact Nat.le_succ _ | omega) fun b _ o e=>Heap.get?_push_of_some _ e⟩) ?_ fun s' t' hm=>?_⟩
  ·obtain ⟨t,ht⟩:=hval _ _ hv.2
   refine ⟨t,?_⟩
   rw [ht];simp -iota only [val'];rw [if_neg (by omega)]
  ·rw [hp 0];simp -iota only [preSum,Int.add_zero];exact Heap.get?_push_size _ rfl
  ·rw [hp n];exact hQ s' t' (hm.drop_new (by first | exact Nat.le_refl _ | exact Nat.le_succ _ | omega))
end e_sum2
theorem sum2 {x:Value} {k:Int} {tk:Tok} {Q:Value -> Shared -> Prop}:@S_sum2 prog w A E s x k tk Q:=@pick_all _ _ e_sum2.Sd (by with_unfolding_all exact e_sum2.core) (((_,_),_,_),(_,_),_,_,_)
end
end
section
open PySem PySem.W PyProof.Rows PySem.Spec PySem.Calls

noncomputable abbrev tblO (ps:Array Value):Obj:={ cls:=.none,data:=.fields ps }
noncomputable abbrev tupO (a b:Value):Obj:={ cls:=.type "tuple",data:=.seq #[a,b] }
noncomputable def TabIs (pos:Pos) (ps:Array Value):Prop:=ps=#[] \/ ∃ c',ps=#[rawInt pos.line,rawInt pos.col,.ref c']
theorem TabIs.triples {pos:Pos} {ps:Array Value} (h:TabIs pos ps):TriplesOk ps.toList:=by
 rcases h with rfl | ⟨c',rfl⟩<;>simp [TriplesOk,rawInt]
noncomputable def CodeShape (oc:Obj) (P:Addr):Prop:=∃ vs file tf flags tg inF text tt,oc.cls=.type "code" /\ oc.data=.fields vs /\ vs.getD 11 .none=.ref P /\ vs.getD 18 .none=.str file tf ∧
  vs.getD 7 .none=.int flags tg /\ vs.getD 9 .none=.bool inF /\ vs.getD 10 .none=.int text tt /\ vs[11]?=some (.ref P)
section
variable {prog:Program} {w:World} {A:Around} {E:Value -> Shared -> Prop} {s:Shared} {K:Frag} {x C d P c:Addr} {h₀:Heap} {L:Addr} {m:Str -> Option Value} {news:List (Addr×Obj)} {items:Array Value} {n:Nat}

theorem code_is {h:Heap} {oc:Obj} {ps:Array Value} (hc:h.get? c=some oc) (hs:CodeShape oc P) (hP:h.get? P=some (tblO ps)) (ht:TriplesOk ps.toList):h.IsCode c P ps /\ h.TableAt c P ps:=by
 refine via ?_
 intro gV yV;obtain ⟨vs,file,tf,flags,tg,inF,text,tt,a0,a,b1,b2,b3,b4,b5,b6⟩:=hs
 refine yV ?_
 clear yV gV;have hne:c≠P:=by
  rintro rfl
  rw [hc] at hP
  cases hP
  cases a0
 exact ⟨⟨oc,vs,file,tf,flags,tg,inF,text,tt,_,hc,a,b1,b2,b3,b4,b5,hP,rfl,ht,hne⟩,⟨oc,vs,hc,a0,a,b6⟩,hP⟩

theorem gen_code {env:Env} {oc:Obj} {ps:Array Value} {pos:Pos} {q:Str} {scope:Scope} {Q:Value -> Shared -> Prop} (F:Fr h₀ L s.heap m) (X:K.In h₀) (N:News h₀ L s.heap ((P,tblO ps)::news)) (hap:∀ q∈news,q.1≠P)
  (hcode:env.code=.ref c) (hc:K.lookup c=some oc) (hs:CodeShape oc P) (ht:TabIs pos ps)
  (h:∀ c' h' tk ps',Fr h₀ L h' m -> News h₀ L h' ((P,tblO ps')::news) -> TabIs pos ps' -> (∀ b o,b≠P -> s.heap.get? b=some o -> h'.get? b=some o) -> Q c' { s with heap:=h',toks:=tk }) :
  wpAny (model prog w) A (genexprCode env pos q scope) Q E s:=by
 have hcc:=X.keeps F.keep _ _ hc
 have hP:=(N _ (.head _)).1
 obtain ⟨ic,it⟩:=code_is hcc hs hP ht.triples
 rcases ht with rfl | ⟨c',rfl⟩
 ·refine wpAny_genexprCodeX hcode ic it rfl fun c' h' tk hx _ _ _ _ ht' _=>?_
  have hk:∀ b o,b≠P -> s.heap.get? b=some o -> h'.get? b=some o:=fun b o hb e=>hx b o hb e
  refine h _ h' tk _ ⟨?_,fun b o e=>hk b o (fun q=>?_) (F.keep b o e),F.above⟩ (fun p hp=>?_) (.inr ⟨c',rfl⟩) hk
  ·refine via ?_
   intro gV yV;obtain ⟨oL,a1,a2,hL,a3⟩:=F.ns
   refine yV ?_
   clear yV gV;exact ⟨oL,a1,a2,hk _ _ (Ne.symm (N _ (.head _)).2.1) hL,a3⟩
  ·subst q;have:=(N _ (.head _)).2.2;rw [e] at this;cases this
  ·rcases List.mem_cons.mp hp with rfl | hp
   ·exact ⟨ht'.2,(N _ (.head _)).2⟩
   ·have z:=N p (.tail _ hp)
    exact ⟨hk _ _ (hap p hp) z.1,z.2⟩
 ·refine wpAny_genexprCode_hit (c':=.ref c') hcode ic (by simp [codeAmong,rawInt]) ?_
  exact h _ s.heap s.toks _ F N (.inr ⟨c',rfl⟩) fun _ _ _ e=>e
end

theorem weakenS {prog:Program} {w:World} {A:Around} {I:Addr} {fp wr:List Addr} {G:Array GenState -> Array GenState -> Prop} {n:Nat} {P P':Nat -> Value -> Prop} {St:Nat -> Shared -> Prop}
  (W:WalksS prog w A I fp wr G n P St) (hP:∀ i v,P i v -> P' i v):WalksS prog w A I fp wr G n P' St where
 sub:=W.sub
 grefl:=W.grefl
 gtrans:=W.gtrans
 frame:=W.frame
 item:=fun i s Q E hi st hQ=>W.item i s Q E hi st fun v s' h=>hQ v s' (hP i v h)
 done:=W.done
 self:=W.self
theorem passing_all (n:Nat):passing (fun _=>true) n 0=List.range n:=by
 unfold passing;simp
theorem isTup_of {h:Heap} {t:Addr} {a b:Value} (e:h.get? t=some (tupO a b)):h.IsTuple t #[a,b]:=⟨_,e,rfl,_,rfl⟩

section
variable {prog:Program} {w:World} {A:Around} {E:Value -> Shared -> Prop} {s:Shared} {K:Frag} {x C d P c:Addr} {h₀:Heap} {L:Addr} {m:Str -> Option Value} {news:List (Addr×Obj)} {items:Array Value} {n:Nat}

structure GenOf (prog:Program) (w:World) (A:Around) (h₀:Heap) (L:Addr) (m:Str -> Option Value) (P:Addr) (pos:Pos) (news:List (Addr×Obj)) (N:Nat) (Fv:Nat -> Value -> Prop) (a:Addr) (fp wr:List Addr) (g:Nat) (St:Nat -> Shared -> Prop) (s:Shared):Prop where
 walks:WalksS prog w A a fp wr (GenOnlyQ g) N Fv St
 st:St 0 s
 typ:∀ i s,St i s -> s.TypeIs (.ref a) "generator"
 self:a∈fp
 low:∀ b∈fp,b < s.heap.objs.size
 bare:AllBare s.gens
 back:∀ s':Shared,(∀ b o,b∉wr -> s.heap.get? b=some o -> s'.heap.get? b=some o) -> Fr h₀ L s'.heap m /\ ∃ ps',TabIs pos ps' /\ News h₀ L s'.heap ((P,tblO ps')::news)

noncomputable def S_gen_pairs {env:Env} {iter elt:Expr} {xa xb:Str} {pa pb pt:Pos} {kt:Nat} {scope:Scope} {cl:List (Str×Addr)} {pos:Pos} {oc:Obj} {ps:Array Value} {mg:Str -> Option Value} {bm:Addr} {ob:Obj} {Ts:Nat -> Addr} {va vb:Nat -> Value} {Fv:Nat -> Value -> Prop} {Q:Value -> Shared -> Prop}:Prop:=∀ {s:Shared} (hh:A.handled=none) (hco:scope.isCoroutine=false) (hclos:closureFor scope env=pure cl) (hcell:∀ y∈scope.names,y.2≠.cell) (h0:scope.names.lookup (".0":Str)=some NameKind.local) (hxa:scope.names.lookup xa=some .local) (hxb:scope.names.lookup xb=some .local) (hab:xa≠xb) (hkind:scope.kind=.function) (hroom:A.depth < recursionLimit) (hs:∀ x,genFold iter env x=pure x) (F:Fr h₀ L s.heap m) (X:K.In h₀) (N:News h₀ L s.heap ((P,tblO ps)::news)) (hap:∀ q∈news,q.1≠P) (M:BMod h₀ env.globals mg bm ob) (lim:h₀.NoLimit) (hg:AllBare s.gens) (hcode:env.code=.ref c) (hc:K.lookup c=some oc) (hsh:CodeShape oc P) (ht:TabIs pos ps) (hiter:∀ Q':Value -> Shared -> Prop,Q' (.ref x) s -> wpAny (model prog w) A (eval iter env) Q' E s) (hx:(x,subO C d items n)∈news) (hf:findIn K (.ref C) "__iter__"=some (some (.builtin "list.__iter__"))) (hl:mroIn K C (.type "list")=some true) (hit:∀ j,j < items.size -> items[j]?=some (.ref (Ts j))) (htup:∀ j,j < items.size -> (Ts j,tupO (va j) (vb j))∈news) (helt:∀ (A':Around) E' j (s₂:Shared) m₂ (c':Value) (Cn:Addr),A'.handled=none -> A'.depth <= A.depth+1 -> A'.units <= A.units+8 -> j < items.size -> Fr h₀ Cn s₂.heap m₂ -> m₂ xa=some (va j) -> m₂ xb=some (vb j) →
   wpAny (model prog w) A' (eval elt (genEnv scope cl Cn c' builtinsNs env)) (fun y s₃=>Fv j y /\ Keeps s₂ s₃) E' s₂) (h:∀ a fp wr St s',GenOf prog w A.in4 h₀ L m P pos news items.size Fv a fp wr s.gens.size St s' -> s'.os=s.os -> s'.drawn=s.drawn -> Q (.ref a) s'),wpAny (model prog w) A (eval (.GeneratorExp elt [⟨.Tuple [.Name xa pa,.Name xb pb] kt pt,iter,[],0⟩] scope pos) env) Q E s
namespace e_gen_pairs
noncomputable abbrev Sd:=fun z:(((((_×_)×_×_)×(_×_)×_×_×_)×((_×_)×_×_×_)×(_×_)×_×_×_)×(((_×_)×_×_)×(_×_)×_×_×_)×((_×_)×_×_×_)×(_×_)×_×_×_)=>@S_gen_pairs z.1.1.1.1.1 z.1.1.1.1.2 z.1.1.1.2.1 z.1.1.1.2.2 z.1.1.2.1.1 z.1.1.2.1.2 z.1.1.2.2.1 z.1.1.2.2.2.1 z.1.1.2.2.2.2 z.1.2.1.1.1 z.1.2.1.1.2 z.1.2.1.2.1 z.1.2.1.2.2.1 z.1.2.1.2.2.2 z.1.2.2.1.1 z.1.2.2.1.2 z.1.2.2.2.1 z.1.2.2.2.2.1 z.1.2.2.2.2.2 z.2.1.1.1.1 z.2.1.1.1.2 z.2.1.1.2.1 z.2.1.1.2.2 z.2.1.2.1.1 z.2.1.2.1.2 z.2.1.2.2.1 z.2.1.2.2.2.1 z.2.1.2.2.2.2 z.2.2.1.1.1 z.2.2.1.1.2 z.2.2.1.2.1 z.2.2.1.2.2.1 z.2.2.1.2.2.2 z.2.2.2.1.1 z.2.2.2.1.2 z.2.2.2.2.1 z.2.2.2.2.2.1 z.2.2.2.2.2.2
@[irreducible] def κ:=pick (by k_extra "ne") Sd
def h₀_:=κ.1.2.1.1.2
def n_:=κ.1.2.2.1.2
def va_:=κ.2.2.2.1.2
def vb_:=κ.2.2.2.2.1
noncomputable abbrev Sc:=@S_gen_pairs κ.1.1.1.1.1 κ.1.1.1.1.2 κ.1.1.1.2.1 κ.1.1.1.2.2 κ.1.1.2.1.1 κ.1.1.2.1.2 κ.1.1.2.2.1 κ.1.1.2.2.2.1 κ.1.1.2.2.2.2 κ.1.2.1.1.1 h₀_ κ.1.2.1.2.1 κ.1.2.1.2.2.1 κ.1.2.1.2.2.2 κ.1.2.2.1.1 n_ κ.1.2.2.2.1 κ.1.2.2.2.2.1 κ.1.2.2.2.2.2 κ.2.1.1.1.1 κ.2.1.1.1.2 κ.2.1.1.2.1 κ.2.1.1.2.2 κ.2.1.2.1.1 κ.2.1.2.1.2 κ.2.1.2.2.1 κ.2.1.2.2.2.1 κ.2.1.2.2.2.2 κ.2.2.1.1.1 κ.2.2.1.1.2 κ.2.2.1.2.1 κ.2.2.1.2.2.1 κ.2.2.1.2.2.2 κ.2.2.2.1.1 va_ vb_ κ.2.2.2.2.2.1 κ.2.2.2.2.2.2
theorem core:Sc:=by
 unfold Sc S_gen_pairs
 intro s hh hco hclos hcell h0 hxa hxb hab hkind hroom hs F X N hap M lim hg hcode hc hsh ht hiter hx hf hl hit htup helt h;refine wpAny_GeneratorExp_walksQTD hh hco hclos hcell h0 hxa hxb hab hkind hroom ?_ hs
 refine hiter _ ?_
 have hxx:=(N _ (.tail _ hx)).1
 refine sub_iter (X.keeps F.keep) hxx hf hl ?_
 obtain ⟨hh0,gs0,dr0,tk0,os0⟩:=s
 dsimp only at *
 have F2:=F.push { cls:=.type "list_iterator",data:=.fields #[.ref κ.1.1.2.1.2,.int 0 0] }
 have N2:=N.push F { cls:=.type "list_iterator",data:=.fields #[.ref κ.1.1.2.1.2,.int 0 0] }
 refine ⟨lim.keeps F2.keep,?_⟩
 have hIP:hh0.objs.size≠κ.1.1.2.2.2.2:=(Nat.ne_of_lt (Heap.lt_size (N _ (.head _)).1)).symm
 refine gen_code (P:=κ.1.1.2.2.2.2) (news:=(hh0.objs.size,{ cls:=.type "list_iterator",data:=.fields #[.ref κ.1.1.2.1.2,.int 0 0] })::κ.1.2.1.2.2.2) F2 X (fun p hp=>N2 p ?_) (fun q hq=>?_) hcode hc hsh ht fun c' h' tk ps' F3 N3 ht' hk3=>?_
 ·rcases List.mem_cons.mp hp with rfl | hp
  ·exact .tail _ (.head _)
  ·rcases List.mem_cons.mp hp with rfl | hp
   ·exact .head _
   ·exact .tail _ (.tail _ hp)
 ·rcases List.mem_cons.mp hq with rfl | hq
  ·exact hIP
  ·exact hap _ hq
 have M3:=M.keeps F3.keep
 refine wpAny_builtinsFor M3.ns M3.name M3.ne M3.obj M3.cls M3.dict M3.data ?_
 have hne:∀ p∈κ.1.2.1.2.2.2,p.1≠hh0.objs.size:=fun p hp=>Nat.ne_of_lt (Heap.lt_size (N p (.tail _ hp)).1)
 have hIfresh:h₀_.get? hh0.objs.size=none:=by
  cases q:h₀_.get? hh0.objs.size with
  | none=>rfl
  | some o=>exact absurd (Heap.lt_size (F.keep _ _ q)) (Nat.lt_irrefl _)
 have hI3:h'.get? hh0.objs.size=some { cls:=.type "list_iterator",data:=.fields #[.ref κ.1.1.2.1.2,.int 0 0] }:=(N3 _ nx1).1
 have hlow:cStatics≠hh0.objs.size:=by
  refine via ?_
  intro gV yV;obtain ⟨mc,hn,_⟩:=lim
  refine yV ?_
  clear yV gV;intro q;refine via ?_
  intro gV yV;obtain ⟨o,_,_,ho,_⟩:=hn
  refine yV ?_
  clear yV gV;rw [q,hIfresh] at ho
  cases ho
 refine ⟨hh0.objs.size,_,_,κ.1.2.2.1.1.size,fun j v=>j < κ.1.2.2.1.1.size /\ v=#[va_ j,vb_ j],_,_,fun _=>true,κ.2.2.2.2.2.1,rfl,
  fun A' hA=>pairsU hA hh0.objs.size κ.1.1.2.1.2 (hne _ hx) κ.1.2.2.1.1 (subO κ.1.1.2.2.1 κ.1.1.2.2.2.1 κ.1.2.2.1.1 n_) n_ rfl κ.2.2.2.1.1 (fun j=>#[va_ j,vb_ j]) hit (fun j hj=>hne _ (htup j hj)),
  fun i vals hv=>⟨_,_,hv.2⟩,⟨⟨_,hI3,rfl,rfl⟩,(N3 _ (.tail _ (.tail _ hx))).1,fun k hk=>isTup_of (N3 _ (.tail _ (.tail _ (htup k hk)))).1⟩,?_,lim.keeps F3.keep,by simpa using hlow,fun href hhref=>⟨?_,?_⟩,?_⟩
 ·intro b hb
  dsimp only
  simp only [List.mem_cons,List.mem_map,List.mem_range] at hb
  rcases hb with rfl | rfl | ⟨k,hk,rfl⟩
  ·exact Heap.lt_size hI3
  ·exact Heap.lt_size (N3 _ (.tail _ (.tail _ hx))).1
  ·exact Heap.lt_size (N3 _ (.tail _ (.tail _ (htup k hk)))).1
 ·intro A' E' i va' vb' s₂ m₂ _ _ _ _ _ _ _ _
  exact wpAny_pure ⟨rfl,s₂.heap,s₂.toks,rfl,fun _ _ e=>e⟩
 ·intro A' E' i va' vb' s₂ m₂ e1 e2 e3 e4 _ e5 e6 e7 e8
  obtain ⟨hi,e4⟩:=e4
  obtain ⟨rfl,rfl⟩:va'=va_ i /\ vb'=vb_ i:=by simpa using e4
  refine helt A' E' i s₂ m₂ c' _ e1 e2 e3 hi ⟨e5,fun b o hb=>?_,Nat.le_trans F3.above (Nat.le_of_lt (Heap.lt_size (F3.ns.choose_spec.choose_spec.choose_spec.1)))⟩ e6 e7
  have hb3:=F3.keep b o hb
  exact e8 b (List.mem_range.mpr (Heap.lt_size hb3)) (fun q=>by rw [List.mem_singleton] at q;rw [q,hIfresh] at hb;cases hb) o (hhref b o hb3)
 ·intro a h₅ tk5 gs hb hCa hsz hk5 W G0
  dsimp only at hCa hsz hk5 W G0
  rw [passing_all,List.length_range] at W
  have hlt3:∀ b o,h'.get? b=some o -> b < h'.objs.size:=fun b o e=>Heap.lt_size e
  refine h a _ _ _ _ ⟨weakenS W fun j v hv=>?_,G0,fun i s hs=>hs.1.typeIs,List.mem_cons_self,fun b hb=>?_,hg.push hb,fun s' hm=>?_⟩ rfl rfl
  ·refine via ?_
   intro gV yV;obtain ⟨i,e1,e2⟩:=hv
   refine yV ?_
   clear yV gV;obtain ⟨hlt,e⟩:=List.getElem?_eq_some_iff.mp e1
   rw [List.getElem_range] at e
   rwa [e]
  ·show b < h₅.objs.size
   simp only [List.mem_cons,List.mem_range] at hb
   have ha:a < h₅.objs.size:=by rw [hsz];exact Nat.lt_succ_self _
   rcases hb with rfl | rfl | hb
   ·exact ha
   ·exact Nat.lt_trans hCa ha
   ·exact Nat.lt_trans hb (Nat.lt_trans hCa ha)
  ·have up:∀ b o,b≠hh0.objs.size -> h'.get? b=some o -> s'.heap.get? b=some o:=fun b o hb e =>
    hm b o (by simp only [List.mem_cons,List.not_mem_nil,or_false,not_or];exact ⟨Nat.ne_of_lt (hlt3 b o e),hb⟩) (hk5 b o e)
   refine ⟨⟨?_,fun b o e=>up b o (fun q=>by rw [q,hIfresh] at e;cases e) (F3.keep b o e),F.above⟩,ps',ht',fun p hp=>?_⟩
   ·refine via ?_
    intro gV yV;obtain ⟨oL,a1,a2,hL,a3⟩:=F3.ns
    refine yV ?_
    clear yV gV;refine ⟨oL,a1,a2,up _ _ (fun q=>?_) hL,a3⟩
    refine via ?_
    intro gV yV;obtain ⟨oL',_,_,hL',_⟩:=F.ns
    refine yV ?_
    clear yV gV;exact Nat.lt_irrefl _ (q▸Heap.lt_size hL')
   ·rcases List.mem_cons.mp hp with rfl | hp
    ·have z:=N3 _ (.head _)
     exact ⟨up _ _ (Ne.symm hIP) z.1,z.2⟩
    ·have z:=N3 _ (.tail _ (.tail _ hp))
     exact ⟨up _ _ (hne _ hp) z.1,z.2⟩
end e_gen_pairs
theorem gen_pairs {env:Env} {iter elt:Expr} {xa xb:Str} {pa pb pt:Pos} {kt:Nat} {scope:Scope} {cl:List (Str×Addr)} {pos:Pos} {oc:Obj} {ps:Array Value} {mg:Str -> Option Value} {bm:Addr} {ob:Obj} {Ts:Nat -> Addr} {va vb:Nat -> Value} {Fv:Nat -> Value -> Prop} {Q:Value -> Shared -> Prop}:@S_gen_pairs prog w A E K x C d P c h₀ L m news items n env iter elt xa xb pa pb pt kt scope cl pos oc ps mg bm ob Ts va vb Fv Q:=@pick_all _ _ e_gen_pairs.Sd (by with_unfolding_all exact e_gen_pairs.core) (((((_,_),_,_),(_,_),_,_,_),((_,_),_,_,_),(_,_),_,_,_),(((_,_),_,_),(_,_),_,_,_),((_,_),_,_,_),(_,_),_,_,_)
theorem gen_builtin {env:Env} {scope:Scope} {cl:List (Str×Addr)} {code:Value} {y:Str} {pos:Pos} {v:Value} {p:Program} {loose:List Str} {mean:ExcName -> Option Value} {mg mb:Str -> Option Value} {Q:Value -> Shared -> Prop} (F:Fr h₀ L s.heap m) (X:K.In h₀) (T:Top p loose mean mg mb h₀)
  (hn:nsIn K mainGlobals y=some none) (hb:bootBuiltins y=some v) (hne:y≠"__name__") (h:Q v s)
  (hg:env.globals=mainGlobals:=by rfl) (hk:scope.kind=.function:=by rfl) (hx:(genEnv scope cl L code builtinsNs env).kindOf y=some .globalImplicit:=by rfl)
  (hd:(y == ("__debug__":Str))=false:=by decide):wpAny (model prog w) A (eval (.Name y pos) (genEnv scope cl L code builtinsNs env)) Q E s :=
 Name_function_global hk hx (loadGlobal_builtin (env:=genEnv scope cl L code builtinsNs env) (show s.heap.Ns env.globals mg from hg▸T.g.keeps F.keep) (mg_none_of X T.g hn) (T.b.keeps F.keep) ((T.builtins _ hne).trans hb) h) hd
theorem gen_global {env:Env} {scope:Scope} {cl:List (Str×Addr)} {code:Value} {y:Str} {pos:Pos} {v:Value} {p:Program} {loose:List Str} {mean:ExcName -> Option Value} {mg mb:Str -> Option Value} {Q:Value -> Shared -> Prop} (F:Fr h₀ L s.heap m) (X:K.In h₀) (T:Top p loose mean mg mb h₀)
  (hn:nsIn K mainGlobals y=some (some v)) (h:Q v s)
  (hg:env.globals=mainGlobals:=by rfl) (hk:scope.kind=.function:=by rfl) (hx:(genEnv scope cl L code builtinsNs env).kindOf y=some .globalImplicit:=by rfl)
  (hd:(y == ("__debug__":Str))=false:=by decide):wpAny (model prog w) A (eval (.Name y pos) (genEnv scope cl L code builtinsNs env)) Q E s :=
 Name_function_global hk hx (loadGlobal_global (env:=genEnv scope cl L code builtinsNs env) (show s.heap.Ns env.globals mg from hg▸T.g.keeps F.keep) (mg_of X T.g hn) h) hd
theorem gen_local {env:Env} {scope:Scope} {cl:List (Str×Addr)} {code:Value} {y:Str} {pos:Pos} {v:Value} {Q:Value -> Shared -> Prop} (F:Fr h₀ L s.heap m) (hv:m y=some v) (h:Q v s)
  (hk:scope.kind=.function:=by rfl) (hx:(genEnv scope cl L code builtinsNs env).kindOf y=some .local:=by rfl)
  (hd:(y == ("__debug__":Str))=false:=by decide):wpAny (model prog w) A (eval (.Name y pos) (genEnv scope cl L code builtinsNs env)) Q E s :=
 wpAny_Name (wpAny_loadName_local hk hx F.ns hv h) hd
end

section
variable {M:Model} {A:Around} {E:Value -> Shared -> Prop} {s:Shared} {h₀:Heap} {L:Addr} {m:Str -> Option Value} {news:List (Addr×Obj)}
theorem newTuple_kept {vs:List Value} {Q:Value -> Shared -> Prop} (F:Fr h₀ L s.heap m) (N:News h₀ L s.heap news)
  (h:∀ D h',Fr h₀ L h' m -> News h₀ L h' ((D,{ cls:=.type "tuple",data:=.seq vs.toArray })::news) -> (∀ b o,s.heap.get? b=some o -> h'.get? b=some o) -> Q (.ref D) { s with heap:=h' }) (hsz:vs.length <= sizeLine) :
  wpAny M A (newTuple vs) Q E s:=wpAny_newObj_type (h _ _ (F.push _) (N.push F _) fun _ _ e=>Heap.get?_push_of_some _ e) (by show vs.toArray.size <= sizeLine;rw [List.size_toArray];exact hsz)
end
structure Cell where
 T:Addr
 a:Str
 ta:Tok
 b:Str
 tb:Tok
deriving Inhabited
noncomputable abbrev Cell.obj (c:Cell):Obj:=tupO (.str c.a c.ta) (.str c.b c.tb)
noncomputable def itemsOf (cs:List Cell):Array Value:=(cs.map fun c=>Value.ref c.T).toArray
theorem itemsOf_size (cs:List Cell):(itemsOf cs).size=cs.length:=by simp [itemsOf]
theorem itemsOf_get (cs:List Cell) (j:Nat) (h:j < (itemsOf cs).size):(itemsOf cs)[j]?=some (.ref ((cs[j]?.getD default).T)):=by
 rw [itemsOf_size] at h
 simp [itemsOf,h]
theorem itemsOf_snoc (cs:List Cell) (c:Cell):itemsOf (cs ++ [c])=(itemsOf cs).push (.ref c.T):=by
 simp [itemsOf]
noncomputable def CellsIn (cs:List Cell) (news:List (Addr×Obj)):Prop:=∀ c∈cs,(c.T,c.obj)∈news /\ c.a.length <= 1000 /\ c.b.length <= 1000
theorem CellsIn.at {cs:List Cell} {news:List (Addr×Obj)} (h:CellsIn cs news) (j:Nat) (hj:j < (itemsOf cs).size):((cs[j]?.getD default).T,tupO (.str (cs[j]?.getD default).a (cs[j]?.getD default).ta) (.str (cs[j]?.getD default).b (cs[j]?.getD default).tb))∈news:=by
 rw [itemsOf_size] at hj
 have e:cs[j]?=some cs[j]:=List.getElem?_eq_getElem hj
 rw [e]
 exact (h _ (List.getElem_mem hj)).1
theorem CellsIn.fit {cs:List Cell} {news:List (Addr×Obj)} (h:CellsIn cs news) (j:Nat) (hj:j < (itemsOf cs).size):(cs[j]?.getD default).a.length <= 1000 /\ (cs[j]?.getD default).b.length <= 1000:=by
 rw [itemsOf_size] at hj
 have e:cs[j]?=some cs[j]:=List.getElem?_eq_getElem hj
 rw [e]
 exact (h _ (List.getElem_mem hj)).2
noncomputable def lenSum:List Cell -> Nat
 | []=>0
 | c::r=>c.a.length+c.b.length+lenSum r
theorem lenSum_n:lenSum []=0:=rfl
theorem lenSum_c {c:Cell} {r:List Cell}:lenSum (c::r)=c.a.length+c.b.length+lenSum r:=rfl
theorem lenSum_append (a b:List Cell):lenSum (a ++ b)=lenSum a+lenSum b:=by
 induction a with
 | nil=>simp [lenSum_n]
 | cons c r ih=>simp [lenSum_c,ih];omega
theorem preSum_cells (cs:List Cell):preSum (fun j=>(((cs[j]?.getD default).a.length+(cs[j]?.getD default).b.length:Nat):Int)) cs.length=(lenSum cs:Nat):=by
 have key:∀ k,k <= cs.length -> preSum (fun j=>(((cs[j]?.getD default).a.length+(cs[j]?.getD default).b.length:Nat):Int)) k=(lenSum (cs.take k):Nat):=by
  intro k;induction k with
  | zero=>intro _;simp [preSum,lenSum_n]
  | succ k ih =>
   intro hk;rw [show preSum (fun j=>(((cs[j]?.getD default).a.length+(cs[j]?.getD default).b.length:Nat):Int)) (k+1)=preSum (fun j=>(((cs[j]?.getD default).a.length+(cs[j]?.getD default).b.length:Nat):Int)) k+_ from rfl,ih (by omega),List.take_succ_eq_append_getElem (by omega),lenSum_append]
   have e:cs[k]?=some cs[k]:=List.getElem?_eq_getElem (by omega)
   dsimp only
   rw [e]
   simp [lenSum_c,lenSum_n]
 have:=key cs.length (Nat.le_refl _)
 rwa [List.take_length] at this
end
section
open PySem PySem.W PyProof.Rows PySem.Spec PySem.Calls Builtin Builtin.ObjectAttr Builtin.Getset_descriptor

theorem refuse_sub (self:Value) (C:Addr):refuseLoop self "__setattr__" [.ref C,.type "list",.type "object"]=pure ():=by rw [refuseLoop_ref];kernel_rfl
noncomputable abbrev overList (K:Frag) (C:Addr):Prop:=(clsIn K C).map (·.mro)=some [.ref C,.type "list",.type "object"]
theorem drop1 {h₀ h:Heap} {L:Addr} {a:Addr×Obj} {l:List (Addr×Obj)} (N:News h₀ L h (a::l)):News h₀ L h l:=fun p hp=>N p (.tail _ hp)
theorem drop2 {h₀ h:Heap} {L:Addr} {a b:Addr×Obj} {l:List (Addr×Obj)} (N:News h₀ L h (a::b::l)):News h₀ L h l:=fun p hp=>N p (.tail _ (.tail _ hp))
theorem subNews {h₀ h:Heap} {L:Addr} {l l':List (Addr×Obj)} (N:News h₀ L h l) (hs:∀ p∈l',p∈l):News h₀ L h l':=fun p hp=>N p (hs p hp)
noncomputable abbrev sizeEnt (P:Params) (k:Int) (tk tv:Tok):DictEntry:=⟨PyData.keyHash P "_initial_size",.str "_initial_size" tk,.int k tv⟩
section
variable {prog:Program} {w:World} {A:Around} {E:Value -> Shared -> Prop} {R:Result -> Shared -> Prop} {s:Shared} {K:Frag} {x C dx:Addr} {h₀:Heap} {L:Addr} {m:Str -> Option Value} {news news':List (Addr×Obj)} {items:Array Value} {n:Nat} {name:Str} {v:Value}

theorem setattr_open {ox:Obj} {od:Option Obj} {tk:Tok} (X:K.In s.heap) (I:InstAt s.heap x ox C od) (hp:overList K C) (ht:takerIn K C name=some none)
  (h:∀ b,wpAny (model prog w) A.in1 (storeInOwnDict (.ref x) (.ref C) (.str name tk) name v b)
   (fun fin s'=>match fin with | .done f=>R (.ok f) s' | .again c'=>c'.quiet=true /\ codeAny (model prog w) A c' R s') (fun e s'=>R (.error e) s') s) :
  codeAny (model prog w) A (.call (.builtin "object.__setattr__") ⟨[.ref x,.str name tk,v],[]⟩) R s:=by
 have SF:=PySem.F.store_object
 obtain ⟨cd,hc,ho⟩:=Option.map_eq_some_iff.mp hp
 have sub:Looks (model prog w) s.heap (isInstance (.ref x) (.type "object")) true:=I.type.andThen (looks_mroIn X (by unfold mroIn;rw [hc,Option.bind_some,ho];rfl))
 refine codeAny_call_builtin SF.slot.plain SF.entry (@check_slot (model prog w) _ _ s "object.__setattr__" "object" "__setattr__" (.ref x) [.str name tk,v] [] _ SF.kind SF.split sub (SF.args (.ref x) (.str name tk) v) ?_)
 obtain ⟨attr,ha,hr⟩:=Option.bind_eq_some_iff.mp ht
 have hm:Looks (model prog w) s.heap (mroOf (.ref C)) cd.mro:=(looks_clsIn X hc).andThen .now
 have L3:Looks (model prog w) s.heap (storeTaker? attr) none:=by
  cases attr with
  | none=>exact .now
  | some a =>
   obtain ⟨b,hb,hb'⟩:=Option.map_eq_some_iff.mp hr
   refine (looks_takesIn X hb).andThen ?_
   cases b with
   | false=>exact .now
   | true=>cases hb'
 rw [osa_eq,refuse_eq]
 refine wpAny_bind (wpAny_bind (I.type.here (wpAny_bind (hm.here ?_))))
 rw [ho,refuse_sub]
 refine wpAny_pure (wpAny_bind (I.type.here (wpAny_bind ((looks_findIn X ha).here (wpAny_bind (L3.here ?_))))))
 exact h _

theorem sub_setAttr {es es':List DictEntry} {nd nd':Nat} {Q:Unit -> Shared -> Prop} (F:Fr h₀ L s.heap m) (X₀:K.In h₀) (N:News h₀ L s.heap news) (hx:(x,subO C dx items n)∈news) (_hdd:(dx,dictOf es nd)∈news)
  (hs:findIn K (.ref C) "__setattr__"=some (some (.builtin "object.__setattr__"))) (hp:overList K C) (ht:takerIn K C name=some none) (hh:hasDictIn K C=true) (hl:(getL name es).isSome=true)
  (e:(putL name (PyData.keyHash w.params name) (.str name (s.toks+1)) v es,putN name es nd)=(es',nd')) (U:Upd dx (dictOf es nd) (dictOf es' nd') news news') (hz:es'.length <= 1000)
  (h:∀ h',Fr h₀ L h' m -> News h₀ L h' news' -> Q () { s with heap:=h',toks:=s.toks+2 }) :
  wpAny (model prog w) A (setAttr (.ref x) name v) Q E s:=by
 obtain ⟨hh0,g0,d0,t0,o0⟩:=s
 dsimp only at *
 have X:=X₀.keeps F.keep
 have hd:=upd_get N U
 have I:InstAt hh0 x (subO C dx items n) C (some (dictOf es nd)):=⟨(N _ hx).1,rfl,rfl,hd⟩
 obtain ⟨pre,post,e0,e0',h1,h2⟩:=U.split
 subst e0 e0'
 obtain ⟨e1,e2⟩:=Prod.mk.inj e
 refine set_plain X I hs ?_
 refine setattr_open (s:=⟨hh0,g0,d0,t0+1,o0⟩) X I hp ht fun b=>?_
 obtain ⟨cd,hc,hd'⟩:=any_some hh
 have e':Obj.putName name (PyData.keyHash w.params name) (.str name (t0+1)) v (dictOf es nd)=dictOf es' nd':=by rw [putName_dict,e1,e2]
 obtain ⟨U1,U2⟩:=news_upd (f:=Obj.putName name (PyData.keyHash w.params name) (.str name (t0+1)) v) F N h1 h2 e' rfl
 have D':=(U2 (dx,dictOf es' nd') (by simp)).1
 refine wpAny_bind (wpAny_pure (wpAny_bind (wpAny_bind (wpAny_loadPart (N _ hx).1 (wpAny_bind ((looks_clsIn X hc).at ?_))))))
 rw [hd']
 refine wpAny_pure (a:=some dx) (wpAny_bind (wpAny_pure (wpAny_bind ?_)))
 unfold nsSet
 refine wpAny_bind (wpAny_bind (wpAny_askSetting (wpAny_pure (wpAny_bind (wpAny_mkText (wpAny_bind (wpAny_loadPart hd ?_)))))))
 have hl':(lookIn name (dictOf es nd)).isSome=true:=hl
 unfold lookIn at hl'
 dsimp only at hl' ⊢
 have c:(!(es.toArray).any (·.key.isStr name) && (es.toArray).any (·.refKey))=false:=by
  rw [<- Array.any_toList,<- Array.any_toList]
  split at hl'
  ·rename_i en he
   rw [List.any_eq_true.mpr ⟨en,List.mem_of_find?_eq_some he,List.find?_some he⟩];rfl
  ·split at hl'
   ·cases hl'
   ·rename_i z;rw [Bool.not_eq_true] at z;rw [z,Bool.and_false]
 rw [aRefKeyMayBeTheName_at,c]
 refine wpAny_updatePart hd ?_
 refine wpAny_bind (wpAny_lookBehind D' (pastItsLine_dict (by rw [List.size_toArray,sizeLine_eq];omega)) ?_)
 exact wpAny_pure (h _ U1 U2)
end
section
variable {prog:Program} {w:World} {A:Around} {E:Value -> Shared -> Prop} {K:Frag} {x y C d:Addr} {h₀ hh:Heap} {g:Array GenState} {dr:Drawn} {t:Nat} {os:OsState} {L:Addr} {m:Str -> Option Value} {news news':List (Addr×Obj)} {items new out:Array Value} {n n' ny:Nat} {vl vu vs:Value} {lo hi st:Option Int}
theorem sub_putSlice {Q:Unit -> Shared -> Prop} (F:Fr h₀ L hh m) (X:K.In h₀) (Y:SubList K C) (N:News h₀ L hh news) (_hxm:(x,subO C d items n)∈news) (hy:(y,({ cls:=.type "list",data:=.seq new ny }:Obj))∈news)
  (U:Upd x (subO C d items n) (subO C d out n') news news') (pl:IsPart vl lo) (pu:IsPart vu hi) (ho:slicePut items new lo hi=out) (hn:n'=if out.size == items.size then n else n+1)
  (hsz:items.size <= 1000) (hsn:new.size <= 1000) (hso:out.size <= sizeLine)
  (h:∀ h',Fr h₀ L h' m -> News h₀ L h' news' -> Q () ⟨h',g,dr,t,os⟩) :
  wpAny (model prog w) A (setItem (.ref x) (.ref hh.objs.size) (.ref y)) Q E ⟨hh.push { cls:=.type "slice",data:=.fields #[vl,vu,.none] },g,dr,t,os⟩:=by
 subst hn;have hx:=upd_get N U
 have hyy:=(N _ hy).1
 have hxy:x≠y:=by
  rintro rfl
  rw [hx] at hyy
  cases hyy
 refine sub_setSlice (s:=⟨hh.push { cls:=.type "slice",data:=.fields #[vl,vu,.none] },g,dr,t,os⟩) (sl:=hh.objs.size) (y:=y) (F.push _) X Y (N.push F _) (.tail (Nat.ne_of_gt (Heap.lt_size hx)) U) ⟨_,Heap.get?_push_of_some _ hyy,rfl,_,rfl⟩ hxy
  (Heap.IsSliceOf.new ..) pl pu ho (fun h' F' N'=>h h' F' (drop1 N')) hsz hsn hso
theorem sub_takeSlice {Q:Value -> Shared -> Prop} (F:Fr h₀ L hh m) (X:K.In h₀) (Y:SubList K C) (N:News h₀ L hh news) (hx:(x,subO C d items n)∈news)
  (pl:IsPart vl lo) (pu:IsPart vu hi) (ps:IsPart vs st) (h0:st≠some 0) (hsz:items.size <= sizeLine)
  (h:∀ q h',Fr h₀ L h' m -> News h₀ L h' ((q,({ cls:=.type "list",data:=.seq (slicePick items lo hi st) }:Obj))::news) -> (∀ p∈news,p.1 < q) -> Q (.ref q) ⟨h',g,dr,t,os⟩) :
  wpAny (model prog w) A (getItem (.ref x) (.ref hh.objs.size)) Q E ⟨hh.push { cls:=.type "slice",data:=.fields #[vl,vu,vs] },g,dr,t,os⟩:=by
 have F1:=F.push { cls:=.type "slice",data:=.fields #[vl,vu,vs] }
 have N1:=N.push F { cls:=.type "slice",data:=.fields #[vl,vu,vs] }
 refine sub_getSlice (s:=⟨hh.push { cls:=.type "slice",data:=.fields #[vl,vu,vs] },g,dr,t,os⟩) (X.keeps F1.keep) Y (N1 _ (.tail _ hx)).1 (Heap.IsSliceOf.new ..) pl pu ps h0 ?_ hsz
 refine h _ _ (F1.push _) (fun p hp=>(N1.push F1 _) p ?_) fun p hp=>?_
 ·rcases List.mem_cons.mp hp with rfl | hp
  ·exact .head _
  ·exact .tail _ (.tail _ hp)
 ·have:=Heap.lt_size (N p hp).1
  show p.1 < (hh.push _).objs.size
  rw [Heap.size_push]
  exact Nat.lt_succ_of_lt this
end
section
variable {prog:Program} {w:World} {A:Around} {E:Value -> Shared -> Prop} {s:Shared} {K:Frag} {x C d:Addr} {h₀:Heap} {L:Addr} {m:Str -> Option Value} {items:Array Value} {n:Nat}
theorem sub_tail {value slice:Expr} {i:Value} {ops:List Value} {Q:Value -> Shared -> Prop} (X:K.In s.heap) (Y:SubList K C) (hx:s.heap.get? x=some (subO C d items n))
  (hs:subscripted slice false (.ref x) i=operate ops (getItem (.ref x) i)) (h:wpAny (model prog w) A (getItem (.ref x) i) Q E s) :
  wpAny (model prog w) A (subscriptTail value slice (.ref x) i) Q E s:=by
 unfold subscriptTail getitemInPython specialOf
 have hty:Looks (model prog w) s.heap (typeOf (.ref x)) (.ref C):=(Looks.ld hx).andThen .now
 refine wpAny_bind (wpAny_bind (wpAny_bind (hty.here ((looks_findIn X Y.item).here ?_))))
 refine wpAny_pure (wpAny_bind ?_)
 rw [hs]
 exact wpAny_operating (wpAny_mono h (fun r s₃ h₃=>wpAny_bind (wpAny_letTemporaryGo (wpAny_pure h₃))) fun _ _ x=>x)
end
section
variable {prog:Program} {w:World} {A:Around} {E:Value -> Shared -> Prop} {s:Shared} {K:Frag} {x C f:Addr} {h₀:Heap} {L:Addr} {m:Str -> Option Value}
noncomputable def TruthBack (Q:Bool -> Shared -> Prop) (v:Value) (s':Shared):Prop:=match v with
 | .int n _=>(0 <= n /\ n < 2 ^ 63) /\ Q (n != 0) { s' with toks:=s'.toks+1 }
 | _=>False
theorem truthy_len {ox:Obj} {od:Option Obj} {Q:Bool -> Shared -> Prop} (F:Fr h₀ L s.heap m) (X₀:K.In h₀) (I:InstAt s.heap x ox C od) (hb:findIn K (.ref C) "__bool__"=some none) (hs:findIn K (.ref C) "__len__"=some (some (.ref f))) (hf:isFn K (.ref f)=true)
  (h:wpAny (model prog w) A.in1 (call (.ref f) [.ref x]) (TruthBack Q) E s):wpAny (model prog w) A (truthy (.ref x)) Q E s:=by
 have X:=X₀.keeps F.keep
 unfold truthy
 refine wpAny_bind (m:=callSpecial? (.ref x) (Str.ofString "__bool__")) (wpAny_bind (wpAny_bind (I.type.here ((looks_findIn X hb).here (wpAny_pure ?_)))))
 refine wpAny_bind (wpAny_bind (I.type.here ((looks_findIn X hs).here ?_)))
 refine wpAny_bind (wpAny_runValue (bcode PySem.plain_len PySem.entry_len ?_))
 unfold Builtin.«len»
 refine wpAny_bind (wpAny_pure ?_)
 refine wpAny_bind (m:=callSpecial? (.ref x) (Str.ofString "__len__")) (special_fn X I hs (beq_iff_eq.mp hf) (wpAny_mono h (fun r s' hr=>?_) fun _ _ y=>y))
 cases r<;>first | exact hr.elim | skip
 rename_i n u;obtain ⟨⟨h0,h1⟩,hq⟩:=hr
 refine wpAny_bind (wpAny_holding (wpAny_pure ?_))
 refine wpAny_bind (wpAny_letGo' ?_ _ _)
 show wpAny _ _ (if n < 0 then _ else _) _ _ _
 rw [if_neg (by omega)]
 show wpAny _ _ (if n ≥ 2 ^ 63 then _ else _) _ _ _
 rw [if_neg (by omega)]
 exact wpAny_bind (wpAny_mkInt (wpAny_pure ⟨_,rfl,wpAny_pure hq⟩))
end
noncomputable def subListB (K:Frag) (C:Addr):Bool:=mroIn K C (.type "list") == some true && mroIn K C (.type "collections.deque") == some false && findIn K (.ref C) "__getitem__" == some (some (.builtin "list.__getitem__")) && findIn K (.ref C) "__setitem__" == some (some (.builtin "list.__setitem__")) && findIn K (.ref C) "__iter__" == some (some (.builtin "list.__iter__"))
theorem subList_of {K:Frag} {C:Addr} (h:subListB K C=true):SubList K C:=by
 simp only [subListB,Bool.and_eq_true,beq_iff_eq] at h
 exact ⟨h.1.1.1.1,h.1.1.1.2,h.1.1.2,h.1.2,h.2⟩
theorem bounds_from (a n:Nat) (ha:a <= n):sliceBounds (some (a:Int)) none none n=((a:Int),(n:Int),1):=by
 rw [sliceBounds_plain]
 simp only [Option.elim]
 rw [clipAt_nat,Nat.min_eq_left ha]
theorem bounds_all (n:Nat):sliceBounds none none none n=((0:Int),(n:Int),1):=by
 rw [sliceBounds_plain];rfl
theorem take_put (cs:List Cell) (i:Nat) (hi:i <= cs.length):slicePut (itemsOf cs) #[] (some (i:Int)) none=itemsOf (cs.take i):=by
 unfold slicePut
 rw [bounds_from i _ (by rw [itemsOf_size];exact hi)]
 apply Array.ext'
 have hm:max (i:Int) ((itemsOf cs).size:Int)=((itemsOf cs).size:Int):=Int.max_eq_right (Int.ofNat_le.mpr (by rw [itemsOf_size];exact hi))
 rw [hm]
 simp [itemsOf,List.map_take]
theorem all_put (cs cs':List Cell):slicePut (itemsOf cs) (itemsOf cs') none none=itemsOf cs':=by
 unfold slicePut
 rw [bounds_all]
 apply Array.ext'
 simp [itemsOf]
theorem drop_pick (cs:List Cell) (i:Nat) (hi:i <= cs.length):slicePick (itemsOf cs) (some (i:Int)) none none=itemsOf (cs.drop i):=by
 rw [slicePick_from']
 simp [itemsOf,List.map_drop]
end
section
open PySem PySem.W PyProof.Rows PySem.Spec PySem.Calls
theorem mem_mid {α:Type} {pre post:List α} {x p:α}:p∈pre ++ x::post ↔ p=x \/ p∈pre ++ post:=List.perm_middle.mem_iff.trans List.mem_cons
theorem app_all {α:Type} {P:α -> Prop} {l r:List α} (h1:∀ q∈l,P q) (h2:∀ q∈r,P q) (q:α) (h:q∈l ++ r):P q:=(List.mem_append.mp h).elim (h1 q) (h2 q)
theorem updF_rest {a:Addr} {o:Obj} {led:List (Addr×Obj)} {g:Obj -> List (Addr×Obj)} (U:UpdF a o led g) :
  ∃ rest:List (Addr×Obj),(∀ p,p∈led ↔ p=(a,o) \/ p∈rest) /\ (∀ o' p,p∈g o' ↔ p=(a,o') \/ p∈rest) /\ (∀ q∈rest,q.1≠a):=by
 obtain ⟨pre,post,rfl,hg,h1,h2⟩:=U.split
 exact ⟨pre ++ post,fun p=>mem_mid,fun o' p=>by rw [hg];exact mem_mid,app_all h1 h2⟩
theorem allLt_all {t:Addr}:∀ {l:List (Addr×Obj)},AllLt t l -> ∀ q∈l,q.1 < t
 | [],_,_,h=>nomatch h
 | _::r,h,q,hq=>by
  rcases List.mem_cons.mp hq with rfl | hq
  ·exact h.1
  ·exact allLt_all h.2 q hq
theorem cells_rest {cs:List Cell} {led rest:List (Addr×Obj)} {a:Addr} {o:Obj} (h:∀ p,p∈led ↔ p=(a,o) \/ p∈rest) (ho:o.cls≠.type "tuple") (hc:CellsIn cs led):CellsIn cs rest:=fun c hcc=>by
 refine ⟨?_,(hc c hcc).2⟩
 rcases (h _).mp (hc c hcc).1 with e | e
 ·exact absurd (by rw [<- (Prod.mk.inj e).2]) ho
 ·exact e
theorem cells_up {cs:List Cell} {led led':List (Addr×Obj)} (hc:CellsIn cs led) (h:∀ p∈led,p∈led'):CellsIn cs led':=fun c hcc=>⟨h _ (hc c hcc).1,(hc c hcc).2⟩
theorem mem_rest {led rest:List (Addr×Obj)} {a b:Addr} {o o':Obj} (h:∀ p,p∈led ↔ p=(a,o) \/ p∈rest) (ho:o'.cls≠o.cls) (hm:(b,o')∈led):(b,o')∈rest:=by
 rcases (h _).mp hm with e | e
 ·exact absurd (by rw [(Prod.mk.inj e).2]) ho
 ·exact e
theorem two_mem {led led' R R':List (Addr×Obj)} {x:Addr×Obj} {b:Addr} {od od':Obj} (K1:∀ p,p∈led ↔ p=x \/ p∈R) (K2:∀ p,p∈led ↔ p=(b,od) \/ p∈R') (K3:∀ p,p∈led' ↔ p=(b,od') \/ p∈R')
  (hx:x.1≠b) (hR:∀ q∈R',q.1≠b) (p:Addr×Obj):p∈led' ↔ p=x \/ p=(b,od') \/ p∈R.filter fun q=>q.1 != b :=
 have back:p.1≠b -> p∈led -> p∈led':=fun n h=>(K3 p).mpr (((K2 p).mp h).elim (fun e=>absurd (congrArg Prod.fst e) n) .inr)
 ⟨fun h=>((K3 p).mp h).elim (fun e=>.inr (.inl e)) fun h'=>((K1 p).mp ((K2 p).mpr (.inr h'))).elim .inl fun hr=>.inr (.inr (List.mem_filter.mpr ⟨hr,bne_iff_ne.mpr (hR p h')⟩)),
  fun h=>h.elim (fun e=>back (e▸hx) ((K1 p).mpr (.inl e))) fun h=>h.elim (fun e=>(K3 p).mpr (.inl e)) fun h=>back (bne_iff_ne.mp (List.mem_filter.mp h).2) ((K1 p).mpr (.inr (List.mem_filter.mp h).1))⟩
theorem updF_two {a b:Addr} {o od:Obj} {led:List (Addr×Obj)} {g:Obj -> List (Addr×Obj)} {g2:Obj -> Obj -> List (Addr×Obj)} (U:UpdF a o led g) (U2:∀ o',UpdF b od (g o') (g2 o')) (hab:a≠b) :
  ∃ rest:List (Addr×Obj),(∀ p,p∈led ↔ p=(a,o) \/ p=(b,od) \/ p∈rest) /\ (∀ o' od' p,p∈g2 o' od' ↔ p=(a,o') \/ p=(b,od') \/ p∈rest) /\ (∀ q∈rest,q.1≠a) /\ (∀ q∈rest,q.1≠b):=by
 obtain ⟨R,k1,k2,k3⟩:=updF_rest U
 have kg:g o=led:=by
  obtain ⟨pre,post,e,hg,_⟩:=U.split
  rw [e,hg]
 refine ⟨R.filter fun q=>q.1 != b,?_,fun o' od'=>?_,fun q h=>k3 q (List.mem_filter.mp h).1,fun q h=>bne_iff_ne.mp (List.mem_filter.mp h).2⟩
 ·obtain ⟨R',j1,_,j3⟩:=updF_rest (U2 o)
  rw [kg] at j1
  exact two_mem k1 j1 j1 hab j3
 ·obtain ⟨R',j1,j2,j3⟩:=updF_rest (U2 o')
  exact two_mem (k2 o') j1 (j2 od') hab j3
section
variable {prog:Program} {w:World} {A:Around} {E:Value -> Shared -> Prop} {s:Shared} {h₀:Heap} {L:Addr} {news:List (Addr×Obj)} {a b:Addr} {p q r u:Str} {t1 t2 t3 t4:Tok} {Q:Value -> Shared -> Prop}
theorem eqv_pair (p q r u:Str):PyData.eqv (.tuple [.str p,.str q]) (.tuple [.str r,.str u])=(p == r && q == u):=by
 simp [PyData.eqv,PyData.eqvAll]
theorem shaped_pair (p q:Str) (hp:PyData.strOk p=true) (hq:PyData.strOk q=true):SeqAt.shaped (.tuple [.str p,.str q])=true:=by simp [hp,hq,SeqAt.shaped,PyData.canLay0,PyData.canLayAll0,PyData.depth,PyData.depthAll]
theorem reads_pair {h:Heap} (e:h.get? a=some (tupO (.str p t1) (.str q t2))):Reads h (.ref a) (.tuple [.str p,.str q]) [] :=
 reads_tuple_at e rfl rfl (ReadsAll.cons (Reads.str _ _) (ReadsAll.cons (Reads.str _ _) ReadsAll.nil))
theorem ne_pair_true (N:News h₀ L s.heap news) (ma:(a,tupO (.str p t1) (.str q t2))∈news) (mb:(b,tupO (.str r t3) (.str u t4))∈news) (hu:A.units+64 < cLine) (o1:PyData.strOk p=true) (o2:PyData.strOk q=true) (o3:PyData.strOk r=true) (o4:PyData.strOk u=true) (hne:¬ (p=r /\ q=u)) (h:Q (.bool true) s) :
  wpAny (model prog w) A (compareOp .NotEq (.ref a) (.ref b)) Q E s:=by
 refine ne_dataH (reads_pair (N _ ma).1) (reads_pair (N _ mb).1) (shaped_pair _ _ o1 o2) (shaped_pair _ _ o3 o4) hu ?_
 rw [eqv_pair]
 have e:(p == r && q == u)=false:=by
  cases z:(p == r && q == u) with
  | false=>rfl
  | true=>exact absurd (by simpa using z) hne
 rw [e]
 exact h
end
end
section
open PySem PySem.W PyProof.Rows PySem.Spec PySem.Calls
section
variable {M:Model} {A:Around} {E:Value -> Shared -> Prop} {s:Shared} {env:Env}
theorem starMethod {o e:Expr} {name:Str} {apos pos p:Pos} {Q:Value -> Shared -> Prop}
  (h:wpAny M A (eval o env) (fun ov s₁=>wpAny M A (getAttr ov name true) (fun f s₂=>wpAny M A (callWith pos f [] (backTo pos (starEach [.Starred e p] env)) []) Q E s₂) E s₁) E s)
  (he:eval (.Call (.Attribute o name apos) [.Starred e p] [] pos) env=(do
   let ov <- eval o env
   standAt apos.atName
   let (f,first) <- holding [ov] (do pure (← getAttr ov name true,[]))
   callWith pos f first (backTo pos (starEach [.Starred e p] env)) []):=by rfl) :
  wpAny M A (eval (.Call (.Attribute o name apos) [.Starred e p] [] pos) env) Q E s:=by
 rw [he]
 refine wpAny_bind (wpAny_mono h (fun ov s₁ h₁=>wpAny_bind (wpAny_standAt (wpAny_bind (wpAny_holding (wpAny_bind (wpAny_mono h₁ (fun f s₂ h₂=>wpAny_pure ?_) fun _ _ x=>x)))))) fun _ _ x=>x)
 exact h₂
end
section
variable {prog:Program} {w:World} {A:Around} {E:Value -> Shared -> Prop} {s:Shared} {K:Frag} {x C f:Addr} {ox:Obj} {od:Option Obj} {name:Str} {h₀:Heap} {L:Addr} {m:Str -> Option Value} {news:List (Addr×Obj)}
theorem acc_bound {expr:Bool} {es:List DictEntry} {n:Nat} {Q:Value -> Shared -> Prop} (F:Fr h₀ L s.heap m) (X₀:K.In h₀) (N:News h₀ L s.heap news) (I:InstAt s.heap x ox C (some (dictOf es n))) (hga:findIn K (.ref C) "__getattribute__"=some (some (.builtin "list.__getattribute__")))
  (hk:findIn K (.ref C) "__getattr__"=some none) (hl:mroIn K C (.type "list")=some true) (hh:hasDictIn K C=true) (ha:findIn K (.ref C) name=some (some (.ref f))) (hf:isFn K (.ref f)=true)
  (hgf:specialIn K (.ref f) "__get__"=some (some (.builtin "function.__get__"))) (ht:takesIn K (.ref f)=some false) (hc:copiedNames.contains name=false) (hlk:getL name es=some none)
  (h:∀ q h',Fr h₀ L h' m -> News h₀ L h' ((q,methodObj (.ref f) (.ref x))::news) -> (∀ p∈news,p.1 < q) -> Q (.ref q) { s with heap:=h',toks:=s.toks+1 }):wpAny (model prog w) A (getAttr (.ref x) name expr) Q E s:=by
 have X:=X₀.keeps F.keep
 have hfo:findObj K C (some (dictOf es n)) name=some (.bind (.builtin "function.__get__") (.ref f)):=findObj_fn hh ha hgf ht hc (by show lookIn name (dictOf es n)=_;rw [lookIn_dict,hlk])
 obtain ⟨hh',g,d,t,os⟩:=s
 have L0:=I.type (M:=model prog w)
 have L1:=looks_find (M:=model prog w) X I hfo
 refine wpAny_bind (wpAny_mkText (wpAny_holding (wpAny_bind (L0.at (wpAny_bind ((looks_findIn X hga).at ?_))))))
 dsimp only
 rw [show (onTheHeap (.ref C) && Value.builtin "list.__getattribute__" == Value.builtin "object.__getattribute__")=false from by rw [show (Value.builtin "list.__getattribute__" == Value.builtin "object.__getattribute__")=false from by decide +kernel,Bool.and_false],if_neg (by decide)]
 refine wpAny_bind ((looks_hook X (r:=none) (mc:=.ref C) (by simpa [onTheHeap] using hk)).at (wpAny_bind (wpAny_attempt (wpAny_holding ?_))))
 unfold callGetattribute
 rw [show (expr && onTheHeap (Value.builtin "list.__getattribute__"))=false from Bool.and_false _,if_neg (by decide)]
 unfold boundAndCalled
 rw [lga_bind]
 refine wpAny_bind (wpAny_pure ?_)
 show wpAny _ _ (call (.builtin "list.__getattribute__") [.ref x,.str name t]) _ _ _
 refine wpAny_call ?_;refine codeAny_call_builtin lga_plain lga_entry ?_
 refine @check_slot (model prog w) _ _ ⟨hh',g,d,t+1,os⟩ "list.__getattribute__" "list" "__getattribute__" (.ref x) [.str name t] [] _ lga_kind lga_split (L0.andThen (looks_mroIn X hl)) (lga_args (.ref x) (.str name t)) ?_
 unfold Builtin.«object.__getattribute__»
 refine wpAny_bind (wpAny_pure (wpAny_bind (wpAny_pure (wpAny_bind (L0.at (wpAny_bind (L1.at ?_)))))))
 have hcall:∀ (A':Around) (E':Value -> Shared -> Prop) (Q':Value -> Shared -> Prop),(∀ v s',wpAny (model prog w) A (handedOut v) Q E s' -> Q' v s') -> wpAny (model prog w) A' (call (.builtin "function.__get__") [.ref f,.ref x,.ref C]) Q' E' ⟨hh',g,d,t+1,os⟩:=fun A' E' Q' hq =>
  wpAny_call (fn_get (s:=⟨hh',g,d,t+1,os⟩) X (beq_iff_eq.mp hf) (hq _ _ (handed_on rfl (h hh'.objs.size _ (F.push _) (N.push F _) fun p hp=>Heap.lt_size (N p hp).1))))
 show wpAny _ _ (Builtin.ObjectAttr.bindTo (.builtin "function.__get__") (.ref f) (.ref x) (.ref C)) _ _ _
 unfold Builtin.ObjectAttr.bindTo
 dsimp only
 refine wpAny_bind (wpAny_holding (hcall _ _ _ fun v s' hv=>wpAny_pure ?_))
 exact hv
end
section
variable {prog:Program} {w:World} {A:Around} {E:Value -> Shared -> Prop} {s:Shared} {K:Frag} {env:Env} {pos p:Pos} {q g:Addr} {self:Value} {first:List Value} {Q:Value -> Shared -> Prop} {h₀:Heap} {L:Addr} {news:List (Addr×Obj)} {e:Expr}
theorem callWith_SM (_X:K.In h₀) (_N:News h₀ L s.heap news) (_q:(q,methodObj (.ref g) self)∈news) (hf:fnIn K g=true)
  (h:wpAny (model prog w) A (eval e env) (fun v s₁=>StarOf (model prog w) A E v (fun vs s₂=>MethP K q g self s₂.heap /\ wpAny (model prog w) A (call (.ref q) (first ++ vs)) Q E s₂) s₁) E s)
  (he:starEach [.Starred e p] env=[(true,eval e env)]:=by rfl) :
  wpAny (model prog w) A (callWith pos (.ref q) first (backTo pos (starEach [.Starred e p] env)) []) Q E s:=by
 rw [he]
 exact ks_call rfl (keeps_M hf) (ks_lone h)
end
theorem cells_snoc {cs:List Cell} {c c':Cell} {rest led:List (Addr×Obj)} (hc:CellsIn (cs ++ [c]) rest) (ha:c'.a=c.a) (hb:c'.b=c.b) (hm:(c'.T,c'.obj)∈led) (h:∀ p∈rest,p∈led):CellsIn (cs ++ [c']) led:=fun x hx=>by
 rcases List.mem_append.mp hx with hx | hx
 ·have z:=hc x (List.mem_append.mpr (.inl hx))
  exact ⟨h _ z.1,z.2⟩
 ·rw [List.mem_singleton] at hx
  subst hx;have z:=hc c (by simp)
  rw [ha,hb]
  exact ⟨hm,z.2⟩
theorem cells_one {c':Cell} {led:List (Addr×Obj)} (ha:c'.a=("":Str)) (hb:c'.b=("":Str)) (hm:(c'.T,c'.obj)∈led):CellsIn ([] ++ [c']) led:=fun x hx=>by
 simp only [List.nil_append,List.mem_singleton] at hx
 subst hx;rw [ha,hb]
 exact ⟨hm,by decide,by decide⟩
theorem lenSum_snoc (cs:List Cell) (c:Cell):lenSum (cs ++ [c])=lenSum cs+(c.a.length+c.b.length):=by rw [lenSum_append];simp [lenSum_n,lenSum_c]
theorem updF_upd {a:Addr} {o:Obj} {led:List (Addr×Obj)} {g:Obj -> List (Addr×Obj)} (h:UpdF a o led g) (o':Obj):Upd a o o' led (g o'):=by
 induction h with
 | head h=>exact .head h
 | tail h _ ih=>exact .tail h ih
theorem strValues_snoc (ls:List (Str×Tok)) (y:Str) (t:Tok):(strValues (ls ++ [(y,t)])).toArray=(strValues ls).toArray.push (.str y t):=by
 simp [strValues]
section
variable {prog:Program} {w:World} {A:Around} {E:Value -> Shared -> Prop} {s:Shared} {ln:Addr} {h₀:Heap} {L:Addr} {m:Str -> Option Value} {led:List (Addr×Obj)} {g:Obj -> List (Addr×Obj)} {n:Nat} {ls:List (Str×Tok)} {y:Str} {t:Tok}
theorem lst_append {Q:Value -> Shared -> Prop} (F:Fr h₀ L s.heap m) (N:News h₀ L s.heap led) (U:UpdF ln (W.listOf (strValues ls).toArray n) led g) (hsz:ls.length <= 1000)
  (h:∀ h',Fr h₀ L h' m -> News h₀ L h' (g (W.listOf (strValues (ls ++ [(y,t)])).toArray (n+1))) -> Q .none { s with heap:=h' }) :
  wpAny (model prog w) A (call (.builtin "list.append") [.ref ln,.str y t]) Q E s:=by
 have U':=updF_upd U (W.listOf (strValues (ls ++ [(y,t)])).toArray (n+1))
 have hx:=upd_get N U'
 have hT:s.TypeIs (.ref ln) "list":=⟨_,hx,rfl⟩
 refine wpAny_call_entry PySem.F.slot_list_append hT PySem.F.entry_list_append ?_ (PySem.F.args_list_append_2 _ _)
 show wpAny _ _ (updateSeq ln (·.push (.str y t)) >>= fun _=>ret .none) _ _ s
 refine wpAny_bind (wpAny_updateSeq hx rfl ?_ (by simp [strValues,sizeLine_eq];omega) (by simp [strValues,sizeLine_eq];omega))
 have e:Obj.mapSeq (fun xs=>xs.push (.str y t)) (W.listOf (strValues ls).toArray n)=W.listOf (strValues (ls ++ [(y,t)])).toArray (n+1):=by
  rw [strValues_snoc]
  simp [Obj.mapSeq,Array.size_push]
 obtain ⟨F',N'⟩:=upd_news F N U' (Heap.SameBut.update (f:=Obj.mapSeq fun xs=>xs.push (.str y t)) ..) (by rw [Heap.get?_update_self _ hx (by rw [e];rfl),e])
 exact wpAny_pure ⟨.none,rfl,h _ F' N'⟩
end
end
section
open PySem PySem.W PySem.Spec
noncomputable def KK:Params -> Frag:=fun P=>(nat_lit 2,h2)::(nat_lit 3,h3v8 P)::(nat_lit 15,h7)::(nat_lit 17,h17)::(nat_lit 18,h7)::(nat_lit 20,h20)::(nat_lit 21,h21)::(nat_lit 29,h7)::(nat_lit 31,h31)::(nat_lit 32,h7)::(nat_lit 34,h34)::(nat_lit 35,h35)::(nat_lit 36,h7)::(nat_lit 38,h38)::(nat_lit 39,h7)::(nat_lit 41,h41)::(nat_lit 42,h42)::(nat_lit 43,h7)::(nat_lit 45,h45)::(nat_lit 46,h7)::(nat_lit 48,h48)::(nat_lit 49,h49)::(nat_lit 50,h7)::(nat_lit 52,h52)::(nat_lit 53,h7)::(nat_lit 55,h55)::(nat_lit 56,h56)::(nat_lit 57,h7)::(nat_lit 59,h59)::(nat_lit 60,h7)::(nat_lit 62,h62)::(nat_lit 63,h63)::(nat_lit 64,h7)::(nat_lit 66,h66)::(nat_lit 67,h7)::(nat_lit 69,h69)::(nat_lit 70,h70)::(nat_lit 71,h7)::(nat_lit 73,h73)::(nat_lit 74,h7)::(nat_lit 76,h76)::(nat_lit 77,h77)::(nat_lit 78,h7)::(nat_lit 80,h80)::(nat_lit 81,h7)::(nat_lit 83,h83)::(nat_lit 84,h84)::(nat_lit 85,h7)::(nat_lit 87,h87)::(nat_lit 88,h7)::(nat_lit 90,h90)::(nat_lit 91,h91)::(nat_lit 92,h92)::(nat_lit 93,h93 P)::(nat_lit 94,h94)::(nat_lit 95,h95)::(nat_lit 96,h96)::(nat_lit 99,h99)::(nat_lit 102,h102)::(nat_lit 107,h107)::(nat_lit 108,h108)::(nat_lit 109,h109)::(nat_lit 111,h111)::(nat_lit 112,h7)::(nat_lit 114,h114)::(nat_lit 115,h115)::(nat_lit 116,h7)::(nat_lit 118,h118)::(nat_lit 119,h7)::(nat_lit 121,h121)::(nat_lit 122,h122)::(nat_lit 123,h123)::(nat_lit 124,h7)::(nat_lit 126,h126)::(nat_lit 127,h7)::(nat_lit 129,h129)::(nat_lit 130,h130)::(nat_lit 131,h108)::(nat_lit 132,h132)::(nat_lit 134,h134)::(nat_lit 135,h7)::(nat_lit 137,h137)::(nat_lit 138,h138)::(nat_lit 139,h7)::(nat_lit 141,h141)::(nat_lit 142,h7)::(nat_lit 144,h144)::(nat_lit 145,h145)::(nat_lit 146,h7)::(nat_lit 148,h148)::(nat_lit 149,h7)::(nat_lit 151,h151)::(nat_lit 152,h152)::(nat_lit 153,h153)::(nat_lit 154,h7)::(nat_lit 156,h156)::(nat_lit 157,h7)::(nat_lit 159,h159)::(nat_lit 160,h160)::(nat_lit 161,h7)::(nat_lit 163,h163)::(nat_lit 164,h7)::(nat_lit 166,h166)::(nat_lit 167,h167)::(nat_lit 168,h108)::(nat_lit 169,h169)::(nat_lit 171,h171)::(nat_lit 172,h7)::(nat_lit 174,h174)::(nat_lit 175,h175)::(nat_lit 176,h176)::(nat_lit 177,h177 P)::(nat_lit 178,h178)::(nat_lit 179,h179)::(nat_lit 180,h180)::(nat_lit 190,h190 P)::(nat_lit 194,h7)::(nat_lit 196,h196)::(nat_lit 197,h7)::(nat_lit 199,h199)::(nat_lit 200,h200)::(nat_lit 201,h201)::(nat_lit 240,h7)::(nat_lit 242,h242)::(nat_lit 243,h7)::(nat_lit 245,h245)::(nat_lit 246,h246)::(nat_lit 247,h7)::(nat_lit 249,h249)::(nat_lit 250,h7)::(nat_lit 252,h252)::(nat_lit 253,h253)::(nat_lit 264,h7)::(nat_lit 266,h266)::(nat_lit 267,h7)::(nat_lit 269,h269)::(nat_lit 270,h270)::(nat_lit 271,h7)::(nat_lit 273,h273)::(nat_lit 274,h7)::(nat_lit 276,h276)::(nat_lit 277,h277)::(nat_lit 278,h7)::(nat_lit 280,h280)::(nat_lit 281,h7)::(nat_lit 283,h283)::(nat_lit 284,h284)::(nat_lit 285,h7)::(nat_lit 287,h287)::(nat_lit 288,h7)::(nat_lit 290,h290)::(nat_lit 291,h291)::(nat_lit 292,h7)::(nat_lit 294,h294)::(nat_lit 295,h7)::(nat_lit 297,h297)::(nat_lit 298,h298)::(nat_lit 299,h7)::(nat_lit 301,h301)::(nat_lit 302,h7)::(nat_lit 304,h304)::(nat_lit 305,h305)::(nat_lit 306,h7)::(nat_lit 308,h308)::(nat_lit 309,h7)::(nat_lit 311,h311)::(nat_lit 312,h312)::(nat_lit 313,h313)::(nat_lit 314,h314 P)::(nat_lit 315,h315)::(nat_lit 316,h316)::(nat_lit 317,h317)::(nat_lit 320,h7)::(nat_lit 322,h322)::(nat_lit 323,h7)::(nat_lit 325,h325)::(nat_lit 326,h326)::(nat_lit 327,h7)::(nat_lit 330,h330)::(nat_lit 331,h331)::(nat_lit 332,h7)::(nat_lit 335,h335)::(nat_lit 336,h336)::(nat_lit 337,h7)::(nat_lit 339,h339)::(nat_lit 340,h7)::(nat_lit 342,h342)::(nat_lit 343,h343)::(nat_lit 344,h7)::(nat_lit 347,h347)::(nat_lit 348,h348)::(nat_lit 349,h7)::(nat_lit 351,h351)::(nat_lit 352,h7)::(nat_lit 354,h354)::(nat_lit 355,h355)::(nat_lit 356,h7)::(nat_lit 358,h358)::(nat_lit 359,h7)::(nat_lit 361,h361)::(nat_lit 362,h362)::(nat_lit 363,h7)::(nat_lit 366,h366)::(nat_lit 367,h367)::[]
noncomputable def keysT:List Addr:=[2,3,15,17,18,20,21,29,31,32,34,35,36,38,39,41,42,43,45,46,48,49,50,52,53,55,56,57,59,60,62,63,64,66,67,69,70,71,73,74,76,77,78,80,81,83,84,85,87,88,90,91,92,93,94,95,96,99,102,107,108,109,111,112,114,115,116,118,119,121,122,123,124,126,127,129,130,131,132,134,135,137,138,139,141,142,144,145,146,148,149,151,152,153,154,156,157,159,160,161,163,164,166,167,168,169,171,172,174,175,176,177,178,179,180,190,194,196,197,199,200,201,240,242,243,245,246,247,249,250,252,253,264,266,267,269,270,271,273,274,276,277,278,280,281,283,284,285,287,288,290,291,292,294,295,297,298,299,301,302,304,305,306,308,309,311,312,313,314,315,316,317,320,322,323,325,326,327,330,331,332,335,336,337,339,340,342,343,344,347,348,349,351,352,354,355,356,358,359,361,362,363,366,367]
end
section
open PySem PySem.W PyProof.Rows PySem.Calls
noncomputable def qT:Program:={ pT with main:={ pT.main with body:=[dAt 22] } }
noncomputable def looseT:List Str:=["_wall","NL","EMPTYSTRING","_ValueFormatter","_Accumulator","b1_set","in_table_b1","b3_exceptions","map_table_b3","in_table_c11","Whitespace","_law_pair","_law_drawn","_law_prepared","_law_laid","_law_cut","_law_place","_law_back"]
noncomputable def rowT:RowW:=rw_rw0127_01.row.toRowW
theorem keysT_eq (P:Params):keysT=(KK P).map (·.1):=by kernel_rfl
noncomputable def xtT (s:Shared):Bool:=xlAt qT [] s && recOk (RowW.records rowT) s
noncomputable def stF (w:World) (os:OsState):Shared:=⟨absHeap (tree22 w.params) 368 {},Array.mk [],{},2620,os⟩
theorem open0:∀ w:World,(fencedOpening treeTable pT w 30000).map (fun s=>(s.heap,s.gens,s.drawn,s.toks))=some (boot_heap w.params,Array.mk [],boot_drawn,boot_toks) :=
 boot_open (by kernel_rfl) (by kernel_rfl) (fun s=>by kernel_rfl)
theorem size0 (w:World):((boot_heap w.params).isNs mainGlobals && (Array.mk ([]:List GenState)).size == 0,(boot_heap w.params).objs.size,(boot_heap w.params).nsMap mainGlobals "__annotations__")=(true,11,annT):=by
 rw [PySem.W.Fast.te8920871248978507458]
 kernel_rfl
theorem look1 (w:World) (os:OsState):(staticsOk (importedModules pT.main.body) (boot_heap w.params) (absHeap (tree22 w.params) 368 {}) && namesBound pT (absHeap (tree22 w.params) 368 {}) && gensDone (stF w os) && laidKept (boot_heap w.params) (absHeap (tree22 w.params) 368 {}))=true:=by
 unfold staticsOk namesBound laidKept
 rw [PySem.W.Fast.te8920871248978507458,PySem.W.Fast.te5923862056798008813]
 kernel_rfl
theorem look3 (w:World) (os:OsState):keysT.map (stF w os).heap.get?=(KK w.params).map fun p=>some p.2:=by kernel_rfl
theorem look2 (w:World) (os:OsState):openSeen qT looseT (importedModules pT.main.body) xtT true (stF w os)=openGood qT looseT:=by
 rw [PySem.W.Fast.te4187177175401517315,PySem.W.Fast.te5923862056798008813]
 kernel_rfl
end
section
open PySem PySem.W PyProof.Rows PySem.Spec PySem.Calls
section
variable {p:Program} {loose:List Str} {mean:ExcName -> Option Value} {mg mb:Str -> Option Value} {h h':Heap}
theorem ns_cut {a:Addr} {m:Str -> Option Value} (hk:∀ b o,h.get? b=some o -> b≠140 -> b≠147 -> h'.get? b=some o) (x:h.Ns a m) (h1:a≠140) (h2:a≠147):h'.Ns a m:=x.at' fun o e=>hk _ o e h1 h2
theorem off_tab {a:Addr} {o:Obj} (t1:h.get? 140=some (tblO #[])) (t2:h.get? 147=some (tblO #[])) (e:h.get? a=some o) (hd:o≠tblO #[]):a≠140 /\ a≠147:=by
 constructor
 ·rintro rfl;rw [t1] at e;exact hd (Option.some.inj e).symm
 ·rintro rfl;rw [t2] at e;exact hd (Option.some.inj e).symm
theorem top_cut (T:Top p loose mean mg mb h) (hk:∀ b o,h.get? b=some o -> b≠140 -> b≠147 -> h'.get? b=some o) (t1:h.get? 140=some (tblO #[])) (t2:h.get? 147=some (tblO #[])) (hown:ownsOf p=[])
  (htab:∀ d∈recsOf p,∃ a o fd c P,mg d.name=some (.ref a) /\ h'.get? a=some o /\ o.data=.func fd /\ fd.code=.ref c /\ h'.IsCode c P #[] /\ h'.TableAt c P #[]):Top p loose mean mg mb h' where
 g:=ns_cut hk T.g (by decide) (by decide)
 b:=ns_cut hk T.b (by decide) (by decide)
 nolimit:=let ⟨mc,h1,h2⟩:=T.nolimit;⟨mc,ns_cut hk h1 (by decide) (by decide),h2⟩
 nodigits:=let ⟨mc,h1,h2⟩:=T.nodigits;⟨mc,ns_cut hk h1 (by decide) (by decide),h2⟩
 fn:=fun d hd=>by
  refine via ?_
  intro gV yV;obtain ⟨a,o,pm,code,doc,h1,h2,h3,h4⟩:=T.fn d hd
  refine yV ?_
  clear yV gV;obtain ⟨n1,n2⟩:=off_tab t1 t2 h2 (fun e=>by rw [e] at h3;cases h3)
  refine via ?_
  intro gV yV;obtain ⟨c,oc,vs,t,e1,e2,e3,e4⟩:=h4
  refine yV ?_
  clear yV gV;obtain ⟨n3,n4⟩:=off_tab t1 t2 e2 (fun e=>by
   rw [e] at e3
   have e5:(#[]:Array Value)=vs:=by injection e3
   rw [<- e5] at e4;simp at e4)
  exact ⟨a,o,pm,code,doc,h1,hk _ _ h2 n1 n2,h3,c,oc,vs,t,e1,hk _ _ e2 n3 n4,e3,e4⟩
 own:=fun o ho=>by rw [hown] at ho;cases ho
 const:=T.const
 free:=T.free
 builtins:=T.builtins
 tab:=htab
 bmain:=by
  refine via ?_
  intro gV yV;obtain ⟨bm,ob,h1,h2,h3,h4,h5,h6⟩:=T.bmain
  refine yV ?_
  clear yV gV;obtain ⟨n1,n2⟩:=off_tab t1 t2 h3 (fun e=>by rw [e] at h6;cases h6)
  exact ⟨bm,ob,h1,h2,hk _ _ h3 n1 n2,h4,h5,h6⟩
 seer:=fun hi=>by
  refine via ?_
  intro gV yV;obtain ⟨⟨mc,s1,s2⟩,⟨mm,s3,s4⟩,⟨mb',s5,s6⟩,⟨mg',bm,ob,s7,s8,s9,s10,s11⟩⟩:=T.seer hi
  refine yV ?_
  clear yV gV;obtain ⟨n1,n2⟩:=off_tab t1 t2 s9 (fun e=>by rw [e] at s10;cases s10)
  exact ⟨⟨mc,ns_cut hk s1 (by decide) (by decide),s2⟩,⟨mm,ns_cut hk s3 (by decide) (by decide),s4⟩,⟨mb',ns_cut hk s5 (by decide) (by decide),s6⟩,⟨mg',bm,ob,ns_cut hk s7 (by decide) (by decide),s8,hk _ _ s9 n1 n2,s10,s11⟩⟩
end
noncomputable def freeO:Obj:={ cls:=.none,data:=.freed }
noncomputable def cutH (h:Heap):Heap:=(h.update 140 fun _=>freeO).update 147 fun _=>freeO
theorem cut_other {h:Heap} {b:Addr} (h1:b≠140) (h2:b≠147):(cutH h).get? b=h.get? b:=by
 unfold cutH
 rw [Heap.get?_update_other _ _ (Ne.symm h2),Heap.get?_update_other _ _ (Ne.symm h1)]
theorem cut_none {h:Heap}:(cutH h).get? 140=none /\ (cutH h).get? 147=none:=by
 have key:∀ (g:Heap) (a:Addr),(g.update a fun _=>freeO).get? a=none:=by
  intro g a;obtain ⟨objs,l⟩:=g
  show (match (objs.modify a fun _=>freeO)[a]? with | some ⟨_,_,.freed,_⟩=>none | o=>o)=none
  rw [Array.getElem?_modify]
  cases e:objs[a]? with
  | none=>simp
  | some o=>simp [freeO]
 refine ⟨?_,key _ _⟩
 unfold cutH
 rw [Heap.get?_update_other _ _ (by decide)]
 exact key _ _
theorem cut_size {h:Heap}:(cutH h).objs.size=h.objs.size:=by
 obtain ⟨objs,l⟩:=h
 show ((objs.modify 140 _).modify 147 _).size=_
 simp
theorem cut_keep {h:Heap}:∀ b o,(cutH h).get? b=some o -> h.get? b=some o:=fun b o e=>by
 have h1:b≠140:=by rintro rfl;rw [cut_none.1] at e;cases e
 have h2:b≠147:=by rintro rfl;rw [cut_none.2] at e;cases e
 rwa [cut_other h1 h2] at e
theorem cut_up {h:Heap}:∀ b o,h.get? b=some o -> b≠140 -> b≠147 -> (cutH h).get? b=some o:=fun b o e h1 h2=>by rw [cut_other h1 h2];exact e
theorem fr_cut {h h':Heap} {L:Addr} {m:Str -> Option Value} (F:Fr h L h' m):Fr (cutH h) L h' m:=⟨F.ns,fun b o e=>F.keep b o (cut_keep b o e),by rw [cut_size];exact F.above⟩
theorem news_cut {h h':Heap} {L:Addr} {news:List (Addr×Obj)} (F:Fr h L h' m) (N:News h L h' news) (t1:h.get? 140=some (tblO #[])) (t2:h.get? 147=some (tblO #[])) (hL1:140≠L) (hL2:147≠L):News (cutH h) L h' ((140,tblO #[])::(147,tblO #[])::news):=fun p hp=>by
 simp only [List.mem_cons] at hp
 rcases hp with e | e | e
 ·rw [e];exact ⟨F.keep _ _ t1,hL1,cut_none.1⟩
 ·rw [e];exact ⟨F.keep _ _ t2,hL2,cut_none.2⟩
 ·refine ⟨(N p e).1,(N p e).2.1,?_⟩
  cases q:(cutH h).get? p.1 with
  | none=>rfl
  | some o=>exact absurd (N p e).2.2 (by rw [cut_keep _ _ q];simp)
theorem below_cut {h:Heap}:Below callerA (cutH h) [] (cutH h):=below_caller _
end
section
open PySem PySem.W PyProof.Rows PySem.Calls
noncomputable def KKp:Params -> Frag:=fun P=>(140,tblO #[])::(147,tblO #[])::KK P
noncomputable def keysP:List Addr:=140::147::keysT
theorem keysP_eq (P:Params):keysP=(KKp P).map (·.1):=by
 show 140::147::keysT=140::147::(KK P).map (·.1)
 rw [keysT_eq P]
theorem look3p (w:World) (os:OsState):keysP.map (stF w os).heap.get?=(KKp w.params).map fun p=>some p.2:=by
 show (stF w os).heap.get? 140::(stF w os).heap.get? 147::keysT.map (stF w os).heap.get?=some (tblO #[])::some (tblO #[])::(KK w.params).map fun p=>some p.2
 rw [look3 w os]
 have e1:(stF w os).heap.get? 140=some (tblO #[]):=by kernel_rfl
 have e2:(stF w os).heap.get? 147=some (tblO #[]):=by kernel_rfl
 rw [e1,e2]
theorem KK_off (P:Params):(KK P).lookup 140=none /\ (KK P).lookup 147=none:=⟨by kernel_rfl,by kernel_rfl⟩
theorem KKp_in {P:Params} {h:Heap} (X:(KKp P).In h):h.get? 140=some (tblO #[]) /\ h.get? 147=some (tblO #[]) /\ (KK P).In (cutH h):=by
 refine ⟨X 140 _ rfl,X 147 _ rfl,fun a o e=>?_⟩
 have h1:a≠140:=by rintro rfl;rw [(KK_off P).1] at e;cases e
 have h2:a≠147:=by rintro rfl;rw [(KK_off P).2] at e;cases e
 refine cut_up a o (X a o ?_) h1 h2
 show List.lookup a ((140,tblO #[])::(147,tblO #[])::KK P)=some o
 rw [List.lookup_cons,List.lookup_cons]
 have b1:(a == 140)=false:=by simpa using h1
 have b2:(a == 147)=false:=by simpa using h2
 rw [b1,b2]
 exact e
theorem owns_none:ownsOf qT=[]:=by kernel_rfl
end
section
open PySem PySem.W PyProof.Rows PySem.Calls
theorem recs_law:(recsOf qT).map (·.name)=[("law":Str)]:=by kernel_rfl
theorem ns_law (P:Params):nsIn (KK P) mainGlobals "law"=some (some (.ref 367)):=by kernel_rfl
theorem in_law (P:Params):(KK P).lookup 367=some h367 /\ (KK P).lookup 366=some h366:=⟨by kernel_rfl,by kernel_rfl⟩
noncomputable def codeOf:Obj -> Option Value
 | ⟨_,_,.func fd,_⟩=>some fd.code
 | _=>none
theorem code_law (P:Params):codeOf h367=some (.ref 366):=by kernel_rfl
noncomputable def field11:Obj -> Option Value
 | ⟨_,_,.fields vs,_⟩=>vs[11]?
 | _=>none
theorem field_law (P:Params):field11 h366=some (.ref 364):=by kernel_rfl
theorem top_law {P:Params} {h:Heap} {loose:List Str} {mean:ExcName -> Option Value} {mg mb:Str -> Option Value} (T:Top qT loose mean mg mb h) (X:(KKp P).In h):Top qT loose mean mg mb (cutH h):=by
 refine via ?_
 intro gV yV;obtain ⟨t1,t2,X'⟩:=KKp_in X
 refine yV ?_
 clear yV gV;refine top_cut T cut_up t1 t2 owns_none fun d hd=>?_
 have hn:d.name=("law":Str):=by
  have this:d.name∈(recsOf qT).map (·.name):=List.mem_map.mpr ⟨d,hd,rfl⟩
  rw [recs_law] at this
  exact List.mem_singleton.mp this
 refine via ?_
 intro gV yV;obtain ⟨a,o,fd,c,P',e1,e2,e3,e4,e5,e6⟩:=T.tab d hd
 refine yV ?_
 clear yV gV;have XK:(KK P).In h:=fun a o e=>cut_keep a o (X' a o e)
 have em:=mg_of XK T.g (ns_law P)
 rw [hn,em] at e1
 have ea:a=367:=by injection e1 with e1;injection e1 with e1;exact e1.symm
 subst ea;have eo:o=h367:=by
  have:=XK 367 _ (in_law P).1
  rw [e2] at this;exact Option.some.inj this
 have ec:c=366:=by
  have q:=code_law P
  rw [<- eo] at q
  refine via ?_
  intro gV yV;obtain ⟨x1,x2,x3,x4⟩:=o
  refine yV ?_
  clear yV gV;dsimp only at e3
  subst e3;have q':some fd.code=some (.ref 366):=q
  rw [e4] at q'
  injection q' with q';injection q'
 subst ec;have k366:=XK 366 _ (in_law P).2
 refine via ?_
 intro gV yV;obtain ⟨⟨oc,vs,f1,f2,f3,f4⟩,f5⟩:=e6
 refine yV ?_
 clear yV gV;have eP:P'=364:=by
  have q:=field_law P
  rw [f1] at k366
  rw [<- Option.some.inj k366] at q
  refine via ?_
  intro gV yV;obtain ⟨x1,x2,x3,x4⟩:=oc
  refine yV ?_
  clear yV gV;dsimp only at f3
  subst f3;have q':vs[11]?=some (.ref 364):=q
  rw [f4] at q'
  injection q' with q';injection q'
 subst eP;refine via ?_
 intro gV yV;obtain ⟨oo,ws,file,tf,flags,tg,inF,text,tt,op,g1,g2,g3,g4,g5,g6,g7,g8,g9,g10,g11⟩:=e5
 refine yV ?_
 clear yV gV;refine ⟨367,o,fd,366,364,by rw [hn];exact em,cut_up _ _ e2 (by decide) (by decide),e3,e4,⟨oo,ws,file,tf,flags,tg,inF,text,tt,op,cut_up _ _ g1 (by decide) (by decide),g2,g3,g4,g5,g6,g7,cut_up _ _ g8 (by decide) (by decide),g9,g10,g11⟩,⟨⟨oc,vs,cut_up _ _ f1 (by decide) (by decide),f2,f3,f4⟩,cut_up _ _ f5 (by decide) (by decide)⟩⟩
end
section
open PySem PySem.W PyProof.Rows PySem.Spec PySem.Calls
inductive NextG (h₀:Heap) (L:Addr) (wr:List Addr) (own:List (Addr×Obj)) (Jn:(Str -> Option Value) -> List (Addr×Obj) -> Array GenState -> Prop) (s₁ s₂:Shared):Prop
 | mk (h':Heap) (tk:Tok) (g':Array GenState) (m₂:Str -> Option Value) (news₂:List (Addr×Obj)) (a1:s₂={ s₁ with heap:=h',toks:=tk,gens:=g' }) (a2:Fr h₀ L h' m₂) (a3:News h₀ L h' (own ++ news₂)) (a4:∀ p∈news₂,p.1∉wr) (a5:Jn m₂ news₂ g')
noncomputable def StepG (h₀:Heap) (L:Addr) (wr:List Addr) (own:List (Addr×Obj)) (Jn:(Str -> Option Value) -> List (Addr×Obj) -> Array GenState -> Prop) (s₁:Shared) (Qr:Value -> Shared -> Prop) (Qb:Shared -> Prop) (f:Flow) (s₂:Shared):Prop :=
 match f with
 | .ret v=>Qr v s₂
 | .brk=>Qb s₂
 | _=>NextG h₀ L wr own Jn s₁ s₂
inductive GLJ (h₀:Heap) (L:Addr) (s:Shared) (wr:List Addr) (n:Nat) (St:Nat -> Heap -> Prop) (J:Nat -> (Str -> Option Value) -> List (Addr×Obj) -> Array GenState -> Prop) (k:Nat) (s':Shared):Prop
 | mk (h':Heap) (tk:Tok) (g':Array GenState) (m':Str -> Option Value) (news':List (Addr×Obj)) (i:Nat) (a1:s'={ s with heap:=h',toks:=tk,gens:=g' }) (a2:St i h') (a3:Fr h₀ L h' m') (a4:News h₀ L h' news') (a5:∀ p∈news',p.1∉wr) (a6:J i m' news' g') (a7:i <= n) (a8:k=n+1 - i)
section
variable {prog:Program} {w:World} {A:Around} {s:Shared} {env:Env} {h₀:Heap}
theorem forLoopG {R:Result -> Shared -> Prop} {x:Str} {px:Pos} {body orelse:List Stmt} {I:Addr} {fp wr:List Addr} {n:Nat} {P:Nat -> Value -> Prop} {St:Nat -> Heap -> Prop} {m:Str -> Option Value}
  {news:List (Addr×Obj)} (W:Walks prog w A I fp wr n P St) (hx:env.kindOf x=some .local)
  (hp:(env.scope.kind == .class || (env.scope.kind == .module && env.locals != env.globals))=false)
  (hLf:env.locals∉fp) (hwr:∀ b∈wr,h₀.get? b=none) (hnw:∀ p∈news,p.1∉wr)
  (hst:St 0 s.heap) (F:Fr h₀ env.locals s.heap m) (N:News h₀ env.locals s.heap news)
  (J:Nat -> (Str -> Option Value) -> List (Addr×Obj) -> Array GenState -> Prop) (h0:J 0 m news s.gens)
  (step:∀ i v m₁ news₁ s₁ own,(∃ h tk g,s₁={ s with heap:=h,toks:=tk,gens:=g }) -> i < n -> P i v -> J i m₁ news₁ s₁.gens -> (∀ p∈news₁,p.1∉wr) -> (∀ p∈own,p.1∈fp) -> (∀ b∈fp,h₀.get? b=none -> ∀ o,s₁.heap.get? b=some o -> (b,o)∈own) -> St (i+1) s₁.heap →
   Fr h₀ env.locals s₁.heap (fun y=>if y=x then some v else m₁ y) -> News h₀ env.locals s₁.heap (own ++ news₁) →
   wpAny (model prog w) A (execs body env) (StepG h₀ env.locals wr own (J (i+1)) s₁ (fun v s'=>R (.ok (.ret v)) s') fun s'=>R (.ok .next) s') (notedBy (model prog w) A env fun e s'=>R (.error e) s') s₁)
  (hR:∀ h' tk g' m' news',Fr h₀ env.locals h' m' -> News h₀ env.locals h' news' -> (∀ p∈news',p.1∉wr) -> J n m' news' g' →
   wpAny (model prog w) A (execs orelse env) (fun f s₃=>R (.ok f) s₃) (notedBy (model prog w) A env fun e s'=>R (.error e) s') { s with heap:=h',toks:=tk,gens:=g' }) :
  codeAny (model prog w) A (.forLoop (.Name x px) (.ref I) body orelse env) R s:=by
 have hLw:env.locals∉wr:=fun h=>hLf (W.sub _ h)
 have old:∀ b o,h₀.get? b=some o -> b∉wr:=fun b o e hb=>by rw [hwr b hb] at e;cases e
 refine codeAny_forLoop
  (GLJ h₀ env.locals s wr n St J) ?_ (n+1)
  ⟨s.heap,s.toks,s.gens,m,news,0,rfl,hst,F,N,hnw,h0,Nat.zero_le _,rfl⟩
 rintro k s' ⟨h',tk,g',m',news',i,rfl,hst',F',N',hnw',hJ,hi,rfl⟩
 have next:∀ h₁:Heap,(∀ b o,b∉wr -> h'.get? b=some o -> h₁.get? b=some o) -> Fr h₀ env.locals h₁ m' /\ News h₀ env.locals h₁ news':=fun h₁ hk₁ =>
  ⟨⟨F'.ns.at' fun o e=>hk₁ _ o hLw e,fun b o e=>hk₁ b o (old b o e) (F'.keep b o e),F'.above⟩,fun p hp=>⟨hk₁ _ _ (hnw' p hp) (N' p hp).1,(N' p hp).2⟩⟩
 by_cases hlt:i < n
 ·refine W.item i _ _ _ hlt hst' fun v h₁ tk₁ hP hst₁ hk₁=>?_
  obtain ⟨F₁,N₁⟩:=next h₁ hk₁
  refine wpAny_assign_Name (wpAny_storeName_local hx F₁.ns (fun h₂ hn₂ hs₂=>?_) hp)
  have F₂:=F₁.set hn₂ hs₂
  have Nown:News h₀ env.locals h₂ (ownOf h₀ fp h₂):=news_ownOf hLf
  have hst₂:St (i+1) h₂:=W.frame _ _ _ hst₁ fun b hb o e=>(hs₂.2 b fun q=>hLf (q▸hb)).trans e
  refine wpAny_mono (step i v m' news' _ (ownOf h₀ fp h₂) ⟨_,_,_,rfl⟩ hlt hP hJ hnw' ownOf_sub (fun b hb hn o e=>mem_ownOf hb hn e) hst₂ F₂ (Nown.append (N₁.set hs₂))) (fun f s₃ h₃=>?_) fun _ _ e=>e
  have fin:NextG h₀ env.locals wr (ownOf h₀ fp h₂) (J (i+1)) ({ s with heap:=h₂,toks:=tk₁+1,gens:=g' }:Shared) s₃ →
    ∃ m,m < n+1 - i /\ GLJ h₀ env.locals s wr n St J m s₃:=by
   rintro ⟨h₃',tk₃,g₃,m₂,news₂,rfl,F₃,N₃,ha₃,hJ₃⟩
   refine ⟨n+1 - (i+1),by omega,h₃',tk₃,g₃,m₂,news₂,i+1,rfl,?_,F₃,N₃.right,ha₃,hJ₃,hlt,rfl⟩
   refine W.frame _ _ _ hst₁ fun b hb o e=>?_
   have e₂:h₂.get? b=some o:=(hs₂.2 b fun q=>hLf (q▸hb)).trans e
   cases hn:h₀.get? b with
   | some o₀ =>
    have:o₀=o:=by have:=F₂.keep b o₀ hn;rw [e₂] at this;exact (Option.some.inj this).symm
    exact this▸F₃.keep b o₀ hn
   | none=>exact (N₃ _ (List.mem_append_left _ (mem_ownOf hb hn e₂))).1
  cases f with
  | ret v=>exact h₃
  | brk=>exact h₃
  | cont=>exact fin h₃
  | next=>exact fin h₃
 ·have hin:i=n:=by omega
  subst hin;refine W.done _ _ _ hst' fun h₁ tk₁ hk₁=>?_
  obtain ⟨F₁,N₁⟩:=next h₁ hk₁
  exact hR h₁ tk₁ g' m' news' F₁ N₁ hnw' hJ

inductive LoopAtG (prog:Program) (w:World) (A:Around) (h₀:Heap) (env:Env) (x:Str) (body orelse:List Stmt) (Q:Flow -> Shared -> Prop) (E:Value -> Shared -> Prop) (it:Value) (s₂:Shared):Prop
 | mk (I:Addr) (fp wr:List Addr) (n:Nat) (P:Nat -> Value -> Prop) (St:Nat -> Heap -> Prop) (m:Str -> Option Value) (news:List (Addr×Obj)) (J:Nat -> (Str -> Option Value) -> List (Addr×Obj) -> Array GenState -> Prop)
  (k0:it=.ref I)
  (k1:Walks prog w A I fp wr n P St)
  (k2:env.locals∉fp)
  (k3:(∀ b∈wr,h₀.get? b=none))
  (k4:(∀ p∈news,p.1∉wr))
  (k5:St 0 s₂.heap)
  (k6:Fr h₀ env.locals s₂.heap m)
  (k7:News h₀ env.locals s₂.heap news)
  (k8:J 0 m news s₂.gens)
  (k9:(∀ i v m₁ news₁ s₁ own,(∃ h tk g,s₁={ s₂ with heap:=h,toks:=tk,gens:=g }) -> i < n -> P i v -> J i m₁ news₁ s₁.gens -> (∀ p∈news₁,p.1∉wr) -> (∀ p∈own,p.1∈fp) -> (∀ b∈fp,h₀.get? b=none -> ∀ o,s₁.heap.get? b=some o -> (b,o)∈own) -> St (i+1) s₁.heap →
   Fr h₀ env.locals s₁.heap (fun y=>if y=x then some v else m₁ y) -> News h₀ env.locals s₁.heap (own ++ news₁) →
   wpAny (model prog w) A (execs body env) (StepG h₀ env.locals wr own (J (i+1)) s₁ (fun v s'=>Q (.ret v) s') fun s'=>Q .next s') E s₁))
  (k10:∀ h' tk g' m' news',Fr h₀ env.locals h' m' -> News h₀ env.locals h' news' -> (∀ p∈news',p.1∉wr) -> J n m' news' g' -> wpAny (model prog w) A (execs orelse env) Q E { s₂ with heap:=h',toks:=tk,gens:=g' })


theorem For_G {E:Value -> Shared -> Prop} {Q:Flow -> Shared -> Prop} {x:Str} {px pos:Pos} {iter:Expr} {body orelse:List Stmt} (h₀:Heap) (hx:env.kindOf x=some .local)
  (hp:(env.scope.kind == .class || (env.scope.kind == .module && env.locals != env.globals))=false)
  (h:wpAny (model prog w) A (eval iter env) (fun xv s₁=>wpAny (model prog w) A (pyIter xv) (fun it s₂=>LoopAtG prog w A h₀ env x body orelse Q E it s₂) E s₁) E s)
  (hs:∀ x,foldedSetIterable iter env x=pure x:=by intro _;rfl)
  (hE:PassesOwn (model prog w) A env E:=by passes_own) :
  wpAny (model prog w) A (exec (.For (.Name x px) iter body orelse pos) env) Q E s:=by
 refine wpAny_For (wpAny_mono h (fun xv s₁ h₁=>wpAny_mono h₁ (fun it s₂ h₂=>?_) fun _ _ e=>e) fun _ _ e=>e) hs
 obtain ⟨I,fp,wr,n,P,St,m,news,J,rfl,W,hLf,hwr,hnw,hst,F,N,h0,step,hQ⟩:=h₂
 exact forLoopG (R:=fun r s'=>match r with | .ok f=>Q f s' | .error e=>cameBackBy (model prog w) A env E e s') W hx hp hLf hwr hnw hst F N J h0 (by intros;exact wpAny_passesOwn hE (by apply step<;>assumption))
  (by intros;exact wpAny_passesOwn hE (by apply hQ<;>assumption))
theorem new_off {h:Heap} {L:Addr} {m:Str -> Option Value} (F:Fr h₀ L h m):L∉[h.objs.size] /\ ∀ b∈[h.objs.size],h₀.get? b=none:=by
 constructor
 ·intro hm
  exact absurd F.ns.lt ((List.mem_singleton.mp hm)▸Nat.lt_irrefl _)
 ·intro b hb
  rw [List.mem_singleton.mp hb]
  exact next_is_new F
theorem news_off {h:Heap} {L:Addr} {news:List (Addr×Obj)} (N:News h₀ L h news):∀ p∈news,p.1∉[h.objs.size]:=fun p hp hI =>
 absurd (Heap.lt_size (N p hp).1) ((List.mem_singleton.mp hI)▸Nat.lt_irrefl _)
theorem strG {Q:Flow -> Shared -> Prop} {E:Value -> Shared -> Prop} {x:Str} {body orelse:List Stmt} {y:Str} {t:Tok} {m:Str -> Option Value} {news:List (Addr×Obj)}
  (hh:A.handled=none) (F:Fr h₀ env.locals s.heap m) (N:News h₀ env.locals s.heap news)
  (J:Nat -> (Str -> Option Value) -> List (Addr×Obj) -> Array GenState -> Prop) (h0:J 0 m news s.gens)
  (step:∀ i c u m₁ news₁ h tk g own it,y.cps[i]?=some c -> J i m₁ news₁ g -> (∀ p∈news₁,p.1≠it) -> (∀ p∈own,p.1=it) -> (∃ o,(it,o)∈own /\ o.cls≠.type "tuple") →
   Fr h₀ env.locals h (fun z=>if z=x then some (.str ⟨#[c]⟩ u) else m₁ z) -> News h₀ env.locals h (own ++ news₁) →
   wpAny (model prog w) A (execs body env) (StepG h₀ env.locals [it] own (J (i+1)) { s with heap:=h,toks:=tk,gens:=g } (fun v s'=>Q (.ret v) s') fun s'=>Q .next s') E { s with heap:=h,toks:=tk,gens:=g })
  (done:∀ h' tk g' m' news',Fr h₀ env.locals h' m' -> News h₀ env.locals h' news' -> J y.cps.size m' news' g' -> wpAny (model prog w) A (execs orelse env) Q E { s with heap:=h',toks:=tk,gens:=g' }) :
  wpAny (model prog w) A (pyIter (.str y t)) (fun it s₂=>LoopAtG prog w A h₀ env x body orelse Q E it s₂) E s:=by
 have key:∀ (I:Addr) (St:Nat -> Heap -> Prop) (o₀:Obj),I=s.heap.objs.size -> (∀ A':Around,A'.handled=none -> Walks prog w A' I [I] [I] y.cps.size (SignAt y) St) -> (∀ i h,St i h -> ∃ o,h.get? I=some o /\ o.cls≠.type "tuple") -> St 0 (s.heap.push o₀) →
   LoopAtG prog w A h₀ env x body orelse Q E (.ref I) { s with heap:=s.heap.push o₀ }:=by
  intro I St o₀ hI hW hal hst;subst hI;refine ⟨_,_,_,_,_,_,m,news,J,rfl,hW A hh,(new_off F).1,(new_off F).2,news_off N,hst,F.push _,fun p hp=>⟨Heap.get?_push_of_some _ (N p hp).1,(N p hp).2⟩,h0,?_,?_⟩
  ·rintro i v m₁ news₁ s₁ own ⟨h,tk,g,rfl⟩ hi ⟨c,u,hc,rfl⟩ hJ hoff hown hmem hst₁ F₁ N₁
   obtain ⟨o,ho,hcl⟩:=hal _ _ hst₁
   exact step i c u m₁ news₁ h tk g own _ hc hJ (fun p hp e=>hoff p hp (by rw [e];exact List.mem_singleton.mpr rfl)) (fun p hp=>List.mem_singleton.mp (hown p hp))
    ⟨o,hmem _ (List.mem_singleton.mpr rfl) ((new_off F).2 _ (List.mem_singleton.mpr rfl)) o ho,hcl⟩ F₁ N₁
  ·intro h' tk g' m' news' F' N' _ hJ
   exact done h' tk g' m' news' F' N' hJ
 cases ha:y.cps.all (· < 128)
 ·exact wpAny_pyIter_wide ha (key _ _ _ rfl (fun A' hA=>Walks.strWide hA _ y t) (fun i h ⟨o,h1,h2,_⟩=>⟨o,h1,by rw [h2];decide⟩) ⟨_,Heap.get?_push_size _ rfl,rfl,rfl⟩)
 ·exact wpAny_pyIter_ascii ha (key _ _ _ rfl (fun A' hA=>Walks.strAscii hA _ y t) (fun i h ⟨o,h1,h2,_⟩=>⟨o,h1,by rw [h2];decide⟩) ⟨_,Heap.get?_push_size _ rfl,rfl,rfl⟩)
theorem rangeG {Q:Flow -> Shared -> Prop} {E:Value -> Shared -> Prop} {x:Str} {body orelse:List Stmt} {r:Addr} {a₀ b₀ c₀:Int} {t₀ u₀ v₀:Tok} {n:Nat} {m:Str -> Option Value} {news:List (Addr×Obj)}
  (hh:A.handled=none) (hr:IsRange s.heap r a₀ b₀ c₀ t₀ u₀ v₀) (hsmall:Builtin.Range.small a₀ b₀ c₀=true) (hn:Builtin.Range.rangeSize a₀ b₀ c₀=(n:Int)) (F:Fr h₀ env.locals s.heap m) (N:News h₀ env.locals s.heap news)
  (J:Nat -> (Str -> Option Value) -> List (Addr×Obj) -> Array GenState -> Prop) (h0:J 0 m news s.gens)
  (step:∀ (i:Nat) u m₁ news₁ h tk g own it,i < n -> J i m₁ news₁ g -> (∀ p∈news₁,p.1≠it) -> (∀ p∈own,p.1=it) →
   Fr h₀ env.locals h (fun z=>if z=x then some (.int (a₀+i * c₀) u) else m₁ z) -> News h₀ env.locals h (own ++ news₁) →
   wpAny (model prog w) A (execs body env) (StepG h₀ env.locals [it] own (J (i+1)) { s with heap:=h,toks:=tk,gens:=g } (fun v s'=>Q (.ret v) s') fun s'=>Q .next s') E { s with heap:=h,toks:=tk,gens:=g })
  (done:∀ h' tk g' m' news',Fr h₀ env.locals h' m' -> News h₀ env.locals h' news' -> J n m' news' g' -> wpAny (model prog w) A (execs orelse env) Q E { s with heap:=h',toks:=tk,gens:=g' }) :
  wpAny (model prog w) A (pyIter (.ref r)) (fun it s₂=>LoopAtG prog w A h₀ env x body orelse Q E it s₂) E s:=by
 refine wpAny_pyIter_range hr hsmall ?_
 have W:Walks prog w A s.heap.objs.size [s.heap.objs.size] [s.heap.objs.size] n (fun i v=>i < n /\ ∃ t,v=.int (a₀+i * c₀) t)
   (fun i h=>IsRangeIter h s.heap.objs.size (a₀+(i:Nat) * c₀) ((n:Int) - (i:Nat)) c₀):=(Walks.range hh _ a₀ c₀ n).bound
 refine ⟨_,_,_,_,_,_,m,news,J,rfl,W,(new_off F).1,(new_off F).2,news_off N,(by show IsRangeIter _ _ _ _ _;rw [hn];simpa using Heap.get?_push_size _ rfl),F.push _,fun p hp=>⟨Heap.get?_push_of_some _ (N p hp).1,(N p hp).2⟩,h0,?_,?_⟩
 ·rintro i v m₁ news₁ s₁ own ⟨h,tk,g,rfl⟩ hi ⟨_,u,rfl⟩ hJ hoff hown hmem hst₁ F₁ N₁
  exact step i u m₁ news₁ h tk g own _ hi hJ (fun p hp e=>hoff p hp (by rw [e];exact List.mem_singleton.mpr rfl)) (fun p hp=>List.mem_singleton.mp (hown p hp)) F₁ N₁
 ·intro h' tk g' m' news' F' N' _ hJ
  exact done h' tk g' m' news' F' N' hJ
end
end
section
open PySem PySem.W PyProof.Rows PySem.Spec PySem.Calls
section
variable {prog:Program} {w:World} {A:Around} {s:Shared} {env:Env} {h₀:Heap} {Q:Flow -> Shared -> Prop} {E:Value -> Shared -> Prop} {x:Str} {body orelse:List Stmt} {m:Str -> Option Value} {news:List (Addr×Obj)}
theorem strOne {y:Str} {c:Nat} {t:Tok} (K:(Str -> Option Value) -> List (Addr×Obj) -> Array GenState -> Prop) (hy:y=⟨#[c]⟩)
  (hh:A.handled=none) (F:Fr h₀ env.locals s.heap m) (N:News h₀ env.locals s.heap news)
  (step:∀ u h tk own it,(∀ p∈news,p.1≠it) -> (∀ p∈own,p.1=it) →
   Fr h₀ env.locals h (fun z=>if z=x then some (.str y u) else m z) -> News h₀ env.locals h (own ++ news) →
   wpAny (model prog w) A (execs body env) (StepG h₀ env.locals [it] own K { s with heap:=h,toks:=tk } (fun v s'=>Q (.ret v) s') fun s'=>Q .next s') E { s with heap:=h,toks:=tk })
  (done:∀ h' tk g' m' news',Fr h₀ env.locals h' m' -> News h₀ env.locals h' news' -> K m' news' g' -> wpAny (model prog w) A (execs orelse env) Q E { s with heap:=h',toks:=tk,gens:=g' }) :
  wpAny (model prog w) A (pyIter (.str y t)) (fun it s₂=>LoopAtG prog w A h₀ env x body orelse Q E it s₂) E s:=by
 subst hy;refine strG hh F N (fun i m₁ nw g₁=>match i with | 0=>m₁=m /\ nw=news /\ g₁=s.gens | _=>K m₁ nw g₁) ⟨rfl,rfl,rfl⟩ ?_ ?_
 ·intro i c' u m₁ news₁ h tk g own it hc hJ hoff hown _ F₁ N₁
  match i,hc,hJ with
  | 0,hc,hJ =>
   obtain ⟨rfl,rfl,hg⟩:=hJ
   subst hg;obtain rfl:c=c':=by simpa using hc
   exact step u h tk own it hoff hown F₁ N₁
  | i+1,hc,_=>simp at hc
 ·intro h' tk g' m' news' F' N' hJ
  exact done h' tk g' m' news' F' N' hJ
theorem rangeFirst {r:Addr} {a₀ b₀ c₀:Int} {t₀ u₀ v₀:Tok} {n:Nat}
  (hh:A.handled=none) (hr:IsRange s.heap r a₀ b₀ c₀ t₀ u₀ v₀) (hsmall:Builtin.Range.small a₀ b₀ c₀=true) (hn:Builtin.Range.rangeSize a₀ b₀ c₀=(n:Int)) (hpos:0 < n) (F:Fr h₀ env.locals s.heap m) (N:News h₀ env.locals s.heap news)
  (step:∀ u h tk own it,(∀ p∈news,p.1≠it) -> (∀ p∈own,p.1=it) →
   Fr h₀ env.locals h (fun z=>if z=x then some (.int a₀ u) else m z) -> News h₀ env.locals h (own ++ news) →
   wpAny (model prog w) A (execs body env) (StepG h₀ env.locals [it] own (fun _ _ _=>False) { s with heap:=h,toks:=tk } (fun v s'=>Q (.ret v) s') fun s'=>Q .next s') E { s with heap:=h,toks:=tk }) :
  wpAny (model prog w) A (pyIter (.ref r)) (fun it s₂=>LoopAtG prog w A h₀ env x body orelse Q E it s₂) E s:=by
 refine rangeG hh hr hsmall hn F N (fun i m₁ nw g₁=>match i with | 0=>m₁=m /\ nw=news /\ g₁=s.gens | _=>False) ⟨rfl,rfl,rfl⟩ ?_ ?_
 ·intro i u m₁ news₁ h tk g own it hi hJ hoff hown F₁ N₁
  match i,hJ with
  | 0,hJ =>
   obtain ⟨rfl,rfl,hg⟩:=hJ
   subst hg;have e:a₀+((0:Nat):Int) * c₀=a₀:=by simp
   rw [e] at F₁
   exact step u h tk own it hoff hown F₁ N₁
  | i+1,hJ=>exact hJ.elim
 ·intro h' tk g' m' news' F' N' hJ
  match n,hJ,hpos with
  | n+1,hJ,_=>exact hJ.elim
theorem rangeNone {r:Addr} {a₀ b₀ c₀:Int} {t₀ u₀ v₀:Tok}
  (hh:A.handled=none) (hr:IsRange s.heap r a₀ b₀ c₀ t₀ u₀ v₀) (hsmall:Builtin.Range.small a₀ b₀ c₀=true) (hn:Builtin.Range.rangeSize a₀ b₀ c₀=0) (F:Fr h₀ env.locals s.heap m) (N:News h₀ env.locals s.heap news)
  (done:∀ h' tk,Fr h₀ env.locals h' m -> News h₀ env.locals h' news -> wpAny (model prog w) A (execs orelse env) Q E { s with heap:=h',toks:=tk }) :
  wpAny (model prog w) A (pyIter (.ref r)) (fun it s₂=>LoopAtG prog w A h₀ env x body orelse Q E it s₂) E s:=by
 refine rangeG (n:=0) hh hr hsmall hn F N (fun i m₁ nw g₁=>m₁=m /\ nw=news /\ g₁=s.gens) ⟨rfl,rfl,rfl⟩ ?_ ?_
 ·intro i u m₁ news₁ h tk g own it hi
  exact absurd hi (Nat.not_lt_zero _)
 ·intro h' tk g' m' news' F' N' hJ
  obtain ⟨rfl,rfl,hg⟩:=hJ
  subst hg;exact done h' tk F' N'
theorem strOneC {y:Str} {c:Nat} {t:Tok} (hy:y=⟨#[c]⟩)
  (hh:A.handled=none) (F:Fr h₀ env.locals s.heap m) (N:News h₀ env.locals s.heap news)
  (step:∀ u h tk own it,(∀ p∈news,p.1≠it) -> (∀ p∈own,p.1=it) →
   Fr h₀ env.locals h (fun z=>if z=x then some (.str y u) else m z) -> News h₀ env.locals h (news ++ own) →
   wpAny (model prog w) A (execs body env) (fun f s₂=>match f with
    | .ret v=>Q (.ret v) s₂
    | .brk=>Q .next s₂
    | _=>∃ h' tk',s₂={ s with heap:=h',toks:=tk' } /\ Fr h₀ env.locals h' (fun z=>if z=x then some (.str y u) else m z) /\ News h₀ env.locals h' (news ++ own)) E { s with heap:=h,toks:=tk })
  (done:∀ u h' tk,Fr h₀ env.locals h' (fun z=>if z=x then some (.str y u) else m z) -> News h₀ env.locals h' news -> wpAny (model prog w) A (execs orelse env) Q E { s with heap:=h',toks:=tk }) :
  wpAny (model prog w) A (pyIter (.str y t)) (fun it s₂=>LoopAtG prog w A h₀ env x body orelse Q E it s₂) E s:=by
 refine strOne (fun m₂ nw g₂=>(∃ u,m₂=fun z=>if z=x then some (.str y u) else m z) /\ nw=news /\ g₂=s.gens) hy hh F N ?_ ?_
 ·intro u h tk own it hoff hown F₁ N₁
  have N₂:News h₀ env.locals h (news ++ own):=fun p hp=>N₁ p ((List.mem_append.mp hp).elim (fun h=>List.mem_append.mpr (.inr h)) fun h=>List.mem_append.mpr (.inl h))
  refine wpAny_mono (step u h tk own it hoff hown F₁ N₂) (fun f s₂ h₂=>?_) fun _ _ e=>e
  have fin:(∃ h' tk',s₂={ s with heap:=h',toks:=tk' } /\ Fr h₀ env.locals h' (fun z=>if z=x then some (.str y u) else m z) /\ News h₀ env.locals h' (news ++ own)) →
    NextG h₀ env.locals [it] own (fun m₂ nw g₂=>(∃ u,m₂=fun z=>if z=x then some (.str y u) else m z) /\ nw=news /\ g₂=s.gens) { s with heap:=h,toks:=tk } s₂:=by
   rintro ⟨h',tk',rfl,F₃,N₃⟩
   exact ⟨h',tk',s.gens,_,news,rfl,F₃,fun p hp=>N₃ p ((List.mem_append.mp hp).elim (fun h=>List.mem_append.mpr (.inr h)) fun h=>List.mem_append.mpr (.inl h)),fun p hp hq=>hoff p hp (List.mem_singleton.mp hq),⟨u,rfl⟩,rfl,rfl⟩
  cases f with
  | ret v=>exact h₂
  | brk=>exact h₂
  | next=>exact fin h₂
  | cont=>exact fin h₂
 ·intro h' tk g' m' news' F' N' hK
  obtain ⟨⟨u,rfl⟩,rfl,hg⟩:=hK
  subst hg;exact done u h' tk F' N'
end
end
open PySem PySem.W PyProof.Rows PySem.Spec PySem.Calls
variable {w:World} {mean:ExcName -> Option Value} {mg mb:Str -> Option Value} {p:Program} {loose:List Str}
 {dp un:Nat} {gd:Option (List Code)} {cn:Str} {cs₀:Scope} {a:Addr} {ccd:Value} {cl:List (Str×Addr)} {outer:List Env} {A₀:Around} {base h₀:Heap} {L:Addr} {m:Str -> Option Value} {s:Shared} {Q:Value -> Shared -> Prop} {E:Value -> Shared -> Prop}
local macro_rules | `(tactic| k_all)=>`(tactic| assumption)
local macro_rules | `(tactic| k_mem)=>`(tactic| assumption)
local macro_rules | `(tactic| k_inst)=>`(tactic| k_extra "k_inst2")
theorem reg2:True:=by
 w_top off
 k_with "a"=>fail_if_success k_extra "A"
 k_with "getMethod ref"=>(k_extra "a";k_here;k_dflt (refine' acc_method (C:=178) ?X ?I ?g0 ?g1 ?g2 ?g3 ?g4 ?g5 ?g6 ?_;(case X=>exact Frag.In.keeps (by k_asm) (Fr.keep (by k_asm)));(case I=>refine' InstAt.of_newsSeq ?N ?h1 ?h2;(case N=>k_asm);(case h1=>k_mem);(case h2=>k_mem));(case g0=>k_is);(case g1=>decide +kernel);(case g2=>k_is);(case g3=>k_is);(case g4=>k_is);(case g5=>decide +kernel);(case g6=>exact rfl)))
 k_with "getMethod ref"=>(k_extra "a";k_here;k_dflt (refine' sup_method (C:=178) (D:=178) ?F ?X ?N ?hso ?hx ?ho ?hm ?hl ?hn ?hs ?_;(case F=>k_asm);(case X=>k_asm);(case N=>k_asm);(case hso=>k_mem);(case hx=>k_mem);(case ho=>k_is);(case hm=>ks_is);(case hl=>k_is);(case hn=>decide);(case hs=>constructor);intro q'z h'z F'z N'z l1z;(try k_lt l1z)))
 k_with "call ref"=>(k_extra "a";k_here;k_dflt (refine' call_b_init ?F ?N ?hb ?U ?_;(case F=>k_asm);(case N=>k_asm);(case hb=>k_mem);(case U=>k_upd);k_whole;intro h'z F'z N'z;(try k_sweep);(try dsimp only)))
 k_with "call ref"=>(k_extra "a";k_here;k_dflt (refine' call_b_len ?N ?hb ?hx ?_;(case N=>k_asm);(case hb=>k_mem);(case hx=>k_mem)))
 k_with "call ref"=>(k_extra "a";k_here;k_dflt (refine' call_b_pop (C:=178) ?F ?X ?N ?hb ?hC ?hd ?ht ?hq ?hm ?U ?hs ?_;(case F=>k_asm);(case X=>k_asm);(case N=>k_asm);(case hb=>k_mem);(case hC=>k_is);(case hd=>exact rfl);(case ht=>exact rfl);(case hq=>exact rfl);(case hm=>k_is);(case U=>k_upd);(case hs=>assumption);k_whole;intro h'z F'z N'z;(try k_sweep);(try dsimp only)))
 k_with "call builtin:list.append"=>(k_extra "a";k_here;k_dflt (refine' acc_append (C:=178) ?F ?X ?N ?hl ?U ?_ ?hs;(case F=>k_asm);(case X=>k_asm);(case N=>k_asm);(case hl=>k_is);(case U=>k_upd);(case hs=>assumption);k_whole;intro h'z F'z N'z;(try k_sweep);(try dsimp only)))
 k_with "callWith ref"=>(k_extra "a";k_here;k_dflt (refine' callWith_B0 ?N ?hb ?hc ?_;(case N=>k_asm);(case hb=>k_mem);(case hc=>exact rfl);k_whole;try dsimp only [List.nil_append,List.append_nil]))
 k_with "getAttr ref"=>(k_extra "a";k_here;k_dflt (refine' acc_get (C:=178) ?X ?I ?g0 ?g1 ?g2 ?g3 ?g4 ?_;(case X=>exact Frag.In.keeps (by k_asm) (Fr.keep (by k_asm)));(case I=>refine' InstAt.of_newsSeq ?N ?h1 ?h2;(case N=>k_asm);(case h1=>k_mem);(case h2=>k_mem));(case g0=>k_is);(case g1=>k_is);(case g2=>k_is);(case g3=>refine' findObj_own ?b1 ?b2 ?b3 ?b4;(case b1=>k_is);(case b2=>k_is);(case b3=>k_is);(case b4=>exact rfl));(case g4=>exact rfl)))
 k_with "setAttr ref"=>(k_extra "a";k_here;k_dflt (refine' sub_setAttr (C:=178) ?F ?X ?N ?hx ?hdd ?hs ?hp ?ht ?hh ?hl ?e ?U ?hz ?_;(case F=>k_asm);(case X=>k_asm);(case N=>k_asm);(case hx=>k_mem);(case hdd=>k_mem);(case hs=>k_is);(case hp=>kernel_rfl);(case ht=>k_is);(case hh=>k_is);(case hl=>k_get);(case e=>k_put);(case U=>k_upd);(case hz=>exact Nat.le_of_ble_eq_true rfl);k_whole);intro h'z F'z N'z;(try k_sweep);(try dsimp only))
 k_with "wpAt"=>(k_extra "a";ks_step "exec Expr";k_dflt (refine ks_wpAt_Expr_any ?_))
 k_with "wpAt"=>(k_extra "a";ks_step "eval Call";k_dflt (refine ks_wpAt_MethodCall ?_))
 k_with "wpAt"=>(k_extra "a";dsimp only;ks_step "execs cons";k_dflt (refine ks_wpAt_execs_cons ?_))
 k_with "setItem ref ref"=>(k_extra "a";k_here;k_dflt (refine' sub_putSlice (K:=KK _) (C:=178) ?F ?X ?Y ?N ?hxm ?hy ?U ?pl ?pu ?ho ?hn ?hz1 ?hz2 ?hz3 ?_;(case F=>k_asm);(case X=>k_asm);(case Y=>exact subList_of (by kernel_rfl));(case N=>k_asm);(case pl=>constructor);(case pu=>constructor);(case hxm=>k_mem);(case hy=>k_mem);(case ho=>first | with_reducible exact take_put _ _ (by assumption) | with_reducible exact all_put _ _ | exact all_put _ [] | exact take_put _ _ (by assumption));(case hn=>exact rfl);(case U=>k_upd);(case hz1=>rw [itemsOf_size];assumption);(case hz2=>first | assumption | exact Nat.zero_le _ | (rw [itemsOf_size];assumption));(case hz3=>rw [itemsOf_size];assumption);k_whole);intro h'z F'z N'z;(try k_sweep);(try dsimp only))
 k_with "getItem ref ref"=>(k_extra "a";k_here;k_dflt (refine' sub_takeSlice (K:=KK _) (C:=178) ?F ?X ?Y ?N ?hx ?pl ?pu ?ps ?h0 ?hz ?_;(case F=>k_asm);(case X=>k_asm);(case Y=>exact subList_of (by kernel_rfl));(case N=>k_asm);(case hx=>k_mem);(case pl=>constructor);(case pu=>constructor);(case ps=>constructor);(case h0=>decide);(case hz=>rw [itemsOf_size];assumption);k_whole);intro q'z h'z F'z N'z l1z;(try k_lt l1z);(try k_sweep);(try dsimp only))
 k_with "subscriptTail"=>(k_extra "a";k_here;k_dflt (refine' sub_tail (K:=KK _) (C:=178) ?X ?Y ?hx ?hs ?_;(case X=>exact Frag.In.keeps (by k_asm) (fun b o e=>by first | exact Heap.get?_push_of_some _ (Fr.keep (by k_asm) b o e) | exact Fr.keep (by k_asm) b o e));(case Y=>exact subList_of (by kernel_rfl));(case hx=>first | exact (News.get (by k_asm) (by k_mem)) | exact Heap.get?_push_of_some _ (News.get (by k_asm) (by k_mem)));(case hs=>exact rfl));(try dsimp only))
 trivial
section
section
variable
 {news:List (Addr×Obj)} {x d:Addr} {k:Int} {tk tv:Tok} {items:Array Value} {n:Nat} {tf ts:Tok} {fs str:Str}
variable (B:Below A₀ base outer h₀) (F:Fr h₀ L s.heap m) (X:(KK w.params).In h₀) (T:Top p loose mean mg mb h₀) (hk:cs₀.kind=.function) (hd:dp+2 < recursionLimit) (hu:un+12 < cLine)
 (N:News h₀ L s.heap ((x,subO 178 d items n)::news)) (hdd:(d,dictOf [sizeEnt w.params k tk tv] 1)∈news) (hapx:∀ q∈news,q.1≠x)
include B F X T hk hd hu N hdd hapx
theorem acc_pushC {R:Result -> Shared -> Prop} (hsz:items.size <= sizeLine)
  (hret:∀ (t:Addr) (h':Heap) (tk':Nat),Fr h₀ L h' m -> News h₀ L h' ((t,tupO (.str fs tf) (.str str ts))::(x,subO 178 d (items.push (.ref t)) (n+1))::news) →
   (x < t /\ AllLt t news) -> R (.ok (.ret .none)) { s with heap:=h',toks:=tk' }) :
  codeAny (model rw_rw0127_01.row.prog w) (ktrTop dp un gd cn cs₀ L a ccd cl outer) (.call (.ref 122) ⟨[.ref x,.str fs tf,.str str ts],[]⟩) R s:=by
 revert X;k_fill;intro X;k_dflt cell_enter
 k_steps;exact hret _ _ _ (by assumption) (by assumption) (by assumption)
end
section
variable
 {news:List (Addr×Obj)} {x d:Addr} {items:Array Value} {n:Nat}
theorem acc_part_count (B:Below A₀ base outer h₀) (F:Fr h₀ L s.heap m) (X:(KK w.params).In h₀) (T:Top p loose mean mg mb h₀) (hk:cs₀.kind=.function) (hd:dp+2 < recursionLimit) (hu:un+12 < cLine)
 (N:News h₀ L s.heap news) (hx:(x,subO 178 d items n)∈news) {od:Obj} (hdd:(d,od)∈news)
  (hret:∀ (t:Tok) (h':Heap) (tk':Nat),Fr h₀ L h' m -> News h₀ L h' news -> Q (.int items.size t) { s with heap:=h',toks:=tk' }) :
  wpAny (model rw_rw0127_01.row.prog w) (ktrTop dp un gd cn cs₀ L a ccd cl outer) (call (.ref 175) [.ref x]) Q E s:=by
 revert X;k_fill;intro X;refine wpAny_call ?_;(k_extra "kS";intro g' L' h' FG' F' N' B' X' T' l1;(try k_lt l1);k_extra "tl")
 k_steps;exact hret _ _ _ (by assumption) (drop2 (by assumption))
end
end
theorem reg3:True:=by
 w_top off
 trivial
section
section
variable
 {news:List (Addr×Obj)} {x d:Addr} {cs:List Cell} {n:Nat} {k:Int} {tk tv:Tok} {ps:Array Value}
theorem acc_make (B:Below A₀ base outer h₀) (F:Fr h₀ L s.heap m) (X:(KK w.params).In h₀) (T:Top p loose mean mg mb h₀) (hk:cs₀.kind=.function) (hd:dp+4 < recursionLimit) (hu:un+24 < cLine)
 (N:News h₀ L s.heap news)
 (hret:∀ (x d:Addr) (t:Tok) (h':Heap) (tk':Nat),Fr h₀ L h' m -> News h₀ L h' ((x,subO 178 d #[] 0)::(d,dictOf [sizeEnt w.params k t tv] 1)::news) -> @LT.lt Nat _ d x -> (∀ p∈news,p.1 < d) -> Q (.ref x) { s with heap:=h',toks:=tk' }) :
  wpAny (model rw_rw0127_01.row.prog w) (ktrTop dp un gd cn cs₀ L a ccd cl outer) (call (.ref 178) [.int k tv]) Q E s:=by
 revert X;k_fill;intro X;refine wpAny_call ?_;refine make_sub (K:=KK w.params) (fI:=115) F N (X.keeps F.keep) ?h1 ?h2 ?h3 fun x d h1 F1 N1 hl1 hl2=>?_
 case h1=>kernel_rfl
 case h2=>k_is
 case h3=>k_is
 have hl2':@LT.lt Nat _ d x:=hl2
 have hl1':=allLt_of hl1
 replace N1:News h₀ L h1 ((x,subO 178 d #[] 0)::(d,dictOf [] 0)::news):=N1
 have hap1:∀ q∈news,q.1≠d:=fun q hq=>Nat.ne_of_lt (hl1 q hq)
 have hap2:∀ q∈news,q.1≠x:=fun q hq=>Nat.ne_of_lt (Nat.lt_trans (hl1 q hq) hl2)
 (k_extra "kS";intro g' L' h' FG' F' N' B' X' T' l1;(try k_lt l1);k_extra "tl")
 k_steps;exact hret _ _ _ _ _ (by assumption) (drop2 (by assumption)) hl2' hl1
end
end
theorem reg4:True:=by
 w_top off
 k_with "eval Name"=>(k_extra "a";k_here;k_dflt ((with_reducible refine PyProof.Rows.inGen ?_);refine' gen_local ?F ?hv ?_;(case F=>with_reducible assumption);(case hv=>with_reducible assumption)))
 k_with "eval Name"=>(k_extra "a";k_here;k_dflt ((with_reducible refine PyProof.Rows.inGen ?_);refine' gen_builtin ?F ?X ?T ?hn ?hb ?hne ?_;(case F=>with_reducible assumption);(case X=>with_reducible assumption);(case T=>with_reducible assumption);(case hn=>k_is);(case hb=>boot_by_name);(case hne=>decide)))
 k_with "eval Name"=>(k_extra "a";k_here;k_dflt ((with_reducible refine PyProof.Rows.inGen ?_);refine' gen_global ?F ?X ?T ?hn ?_;(case F=>with_reducible assumption);(case X=>with_reducible assumption);(case T=>with_reducible assumption);(case hn=>k_is)))
 trivial
section
section
variable
 {news:List (Addr×Obj)} {x d:Addr} {cs:List Cell} {n:Nat} {k:Int} {tk tv:Tok} {ps:Array Value}
noncomputable def S_acc_len :Prop:=∀ (B:Below A₀ base outer h₀) (F:Fr h₀ L s.heap m) (X:(KK w.params).In h₀) (T:Top p loose mean mg mb h₀) (hk:cs₀.kind=.function) (hd:dp+4 < recursionLimit) (hu:un+24 < cLine) (N:News h₀ L s.heap ((140,tblO ps)::news)) (ht:TabIs ⟨93,19,93,63⟩ ps) (hap:∀ q∈news,q.1≠140) (hg:AllBare s.gens) (hx:(x,subO 178 d (itemsOf cs) n)∈news) (hdd:(d,dictOf [sizeEnt w.params k tk tv] 1)∈news) (hcs:CellsIn cs news) (hret:∀ (t:Tok) (h':Heap) (tk':Nat) (g':Array GenState) (ps':Array Value),Fr h₀ L h' m -> News h₀ L h' ((140,tblO ps')::news) -> TabIs ⟨93,19,93,63⟩ ps' -> AllBare g' -> Q (.int (k+lenSum cs) t) { s with heap:=h',toks:=tk',gens:=g' }),wpAny (model rw_rw0127_01.row.prog w) (ktrTop dp un gd cn cs₀ L a ccd cl outer) (call (.ref 145) [.ref x]) Q E s
namespace e_acc_len
noncomputable abbrev Sd:=fun z:(((((_×_)×_×_)×(_×_)×_×_)×((_×_)×_×_)×(_×_)×_×_)×(((_×_)×_×_)×(_×_)×_×_)×((_×_)×_×_)×(_×_)×_×_)=>@S_acc_len z.1.1.1.1.1 z.1.1.1.1.2 z.1.1.1.2.1 z.1.1.1.2.2 z.1.1.2.1.1 z.1.1.2.1.2 z.1.1.2.2.1 z.1.1.2.2.2 z.1.2.1.1.1 z.1.2.1.1.2 z.1.2.1.2.1 z.1.2.1.2.2 z.1.2.2.1.1 z.1.2.2.1.2 z.1.2.2.2.1 z.1.2.2.2.2 z.2.1.1.1.1 z.2.1.1.1.2 z.2.1.1.2.1 z.2.1.1.2.2 z.2.1.2.1.1 z.2.1.2.1.2 z.2.1.2.2.1 z.2.1.2.2.2 z.2.2.1.1.1 z.2.2.1.1.2 z.2.2.1.2.1 z.2.2.1.2.2 z.2.2.2.1.1 z.2.2.2.1.2 z.2.2.2.2.1 z.2.2.2.2.2
@[irreducible] def κ:=pick (by k_extra "ne") Sd
def cs_:=κ.2.2.1.2.1
noncomputable abbrev Sc:=@S_acc_len κ.1.1.1.1.1 κ.1.1.1.1.2 κ.1.1.1.2.1 κ.1.1.1.2.2 κ.1.1.2.1.1 κ.1.1.2.1.2 κ.1.1.2.2.1 κ.1.1.2.2.2 κ.1.2.1.1.1 κ.1.2.1.1.2 κ.1.2.1.2.1 κ.1.2.1.2.2 κ.1.2.2.1.1 κ.1.2.2.1.2 κ.1.2.2.2.1 κ.1.2.2.2.2 κ.2.1.1.1.1 κ.2.1.1.1.2 κ.2.1.1.2.1 κ.2.1.1.2.2 κ.2.1.2.1.1 κ.2.1.2.1.2 κ.2.1.2.2.1 κ.2.1.2.2.2 κ.2.2.1.1.1 κ.2.2.1.1.2 cs_ κ.2.2.1.2.2 κ.2.2.2.1.1 κ.2.2.2.1.2 κ.2.2.2.2.1 κ.2.2.2.2.2
theorem core:Sc:=by
 unfold Sc S_acc_len
 intro B F X T hk hd hu N ht hap hg hx hdd hcs hret;revert X;k_fill;intro X;refine wpAny_call ?_;k_dflt cell_enter
 k_steps;rename_i gh Lh h1 FG1 F1 N1 B1 X1 T1;obtain ⟨bm,ob,M1⟩:=bmod_of_top T1
 refine' gen_pairs (P:=140) (oc:=h144) (C:=178) (c:=144) (ps:=κ.2.2.2.2.2) (Ts:=fun j=>(cs_[j]?.getD default).T) (va:=fun j=>.str (cs_[j]?.getD default).a (cs_[j]?.getD default).ta) (vb:=fun j=>.str (cs_[j]?.getD default).b (cs_[j]?.getD default).tb)
  (Fv:=fun j v=>∃ t,v=.int (((cs_[j]?.getD default).a.length+(cs_[j]?.getD default).b.length:Nat):Int) t) rfl rfl rfl (by decide) rfl rfl rfl (by decide) rfl ?room (fun _=>rfl) F1 X1 N1 hap M1 T1.nolimit hg rfl ?hc ?sh ht ?iter hx ?f ?l (itemsOf_get cs_) (hcs.at) ?elt ?h
 case room=>ktr_room
 case hc=>k_is
 case sh=>exact ⟨_,_,_,_,_,_,_,_,rfl,rfl,rfl,rfl,rfl,rfl,rfl,rfl⟩
 case iter=>exact fun Q' hq=>ld F1 rfl hq
 case f=>k_is
 case l=>k_is
 case elt =>
  intro A' E' j s₂ m₂ c' Cn e1 e2 e3 hj F2 hva hvb;obtain ⟨f1,f2⟩:=hcs.fit j hj
  k_steps;exact ⟨_,_,rfl,fun _ _ e=>e⟩
 case h =>
  intro ga fp wr St s' G ho hdr;obtain ⟨F5,ps5,ht5,N5⟩:=G.back s' (fun _ _ _ e=>e)
  k_steps;have W1:=G.walks.in4_1
  have st1:=G.walks.frame 0 s' s'.heap (s'.toks+1) G.st (Nat.le_succ _) (fun _ _ _ e=>e)
  refine sum2 (W1.self 0 _ _ _ st1 ⟨ga,fp,wr,_,_,_,St,fun j=>(((cs_[j]?.getD default).a.length+(cs_[j]?.getD default).b.length:Nat):Int),rfl,W1,st1,G.low,fun _ _ hv=>hv,fun s3 t3 hm=>?_⟩)
  obtain ⟨F6,ps6,ht6,N6⟩:=G.back s3 hm.heap
  have hb6:AllBare s3.gens:=AllBare.moved G.bare hm.gens
  obtain ⟨h3,g3,d3,k3,o3⟩:=s3
  have e1:d3=κ.2.1.2.1.1.drawn:=hm.drawn.trans hdr
  have e2:o3=κ.2.1.2.1.1.os:=hm.os.trans ho
  subst e1 e2
  rw [itemsOf_size,preSum_cells]
  k_steps;exact hret _ _ _ _ _ (by assumption) (by assumption) (by assumption) (by assumption)
end e_acc_len
theorem acc_len :@S_acc_len w mean mg mb p loose dp un gd cn cs₀ a ccd cl outer A₀ base h₀ L m s Q E news x d cs n k tk tv ps:=@pick_all _ _ e_acc_len.Sd (by with_unfolding_all exact e_acc_len.core) (((((_,_),_,_),(_,_),_,_),((_,_),_,_),(_,_),_,_),(((_,_),_,_),(_,_),_,_),((_,_),_,_),(_,_),_,_)
end
end
theorem reg5:True:=by
 w_top off
 k_with "newTuple"=>(k_extra "a";k_here;(with_reducible rename LGe.Inner=>lgeI'z);k_dflt (refine' newTuple_kept ?F ?N ?_ ?z;(case F=>k_asm);(case N=>k_asm);(case z=>kmk_size));intro D'z h'z F'z N'z kpz)
 trivial
section
section
variable
 {news:List (Addr×Obj)} {x d:Addr} {cs:List Cell} {n:Nat} {k:Int} {tk tv:Tok} {ps:Array Value}
noncomputable def S_acc_str :Prop:=∀ (B:Below A₀ base outer h₀) (F:Fr h₀ L s.heap m) (X:(KK w.params).In h₀) (T:Top p loose mean mg mb h₀) (hk:cs₀.kind=.function) (hd:dp+4 < recursionLimit) (hu:un+24 < cLine) (N:News h₀ L s.heap ((147,tblO ps)::news)) (ht:TabIs ⟨96,32,96,85⟩ ps) (hap:∀ q∈news,q.1≠147) (hg:AllBare s.gens) (hx:(x,subO 178 d (itemsOf cs) n)∈news) (hdd:(d,dictOf [sizeEnt w.params k tk tv] 1)∈news) (hcs:CellsIn cs news) (hfit:cs.length <= sizeLine) (hjoin:JoinOk ("":Str) (cs.map fun c=>c.a ++ c.b)=true) (hret:∀ (t:Tok) (h':Heap) (tk':Nat) (g':Array GenState) (ps':Array Value),Fr h₀ L h' m -> News h₀ L h' ((147,tblO ps')::news) -> TabIs ⟨96,32,96,85⟩ ps' -> AllBare g' -> Q (.str (Txt.join ("":Str) (cs.map fun c=>c.a ++ c.b)) t) { s with heap:=h',toks:=tk',gens:=g' }),wpAny (model rw_rw0127_01.row.prog w) (ktrTop dp un gd cn cs₀ L a ccd cl outer) (call (.ref 152) [.ref x]) Q E s
namespace e_acc_str
noncomputable abbrev Sd:=fun z:(((((_×_)×_×_)×(_×_)×_×_)×((_×_)×_×_)×(_×_)×_×_)×(((_×_)×_×_)×(_×_)×_×_)×((_×_)×_×_)×(_×_)×_×_)=>@S_acc_str z.1.1.1.1.1 z.1.1.1.1.2 z.1.1.1.2.1 z.1.1.1.2.2 z.1.1.2.1.1 z.1.1.2.1.2 z.1.1.2.2.1 z.1.1.2.2.2 z.1.2.1.1.1 z.1.2.1.1.2 z.1.2.1.2.1 z.1.2.1.2.2 z.1.2.2.1.1 z.1.2.2.1.2 z.1.2.2.2.1 z.1.2.2.2.2 z.2.1.1.1.1 z.2.1.1.1.2 z.2.1.1.2.1 z.2.1.1.2.2 z.2.1.2.1.1 z.2.1.2.1.2 z.2.1.2.2.1 z.2.1.2.2.2 z.2.2.1.1.1 z.2.2.1.1.2 z.2.2.1.2.1 z.2.2.1.2.2 z.2.2.2.1.1 z.2.2.2.1.2 z.2.2.2.2.1 z.2.2.2.2.2
@[irreducible] def κ:=pick (by k_extra "ne") Sd
def cs_:=κ.2.2.1.2.1
noncomputable abbrev Sc:=@S_acc_str κ.1.1.1.1.1 κ.1.1.1.1.2 κ.1.1.1.2.1 κ.1.1.1.2.2 κ.1.1.2.1.1 κ.1.1.2.1.2 κ.1.1.2.2.1 κ.1.1.2.2.2 κ.1.2.1.1.1 κ.1.2.1.1.2 κ.1.2.1.2.1 κ.1.2.1.2.2 κ.1.2.2.1.1 κ.1.2.2.1.2 κ.1.2.2.2.1 κ.1.2.2.2.2 κ.2.1.1.1.1 κ.2.1.1.1.2 κ.2.1.1.2.1 κ.2.1.1.2.2 κ.2.1.2.1.1 κ.2.1.2.1.2 κ.2.1.2.2.1 κ.2.1.2.2.2 κ.2.2.1.1.1 κ.2.2.1.1.2 cs_ κ.2.2.1.2.2 κ.2.2.2.1.1 κ.2.2.2.1.2 κ.2.2.2.2.1 κ.2.2.2.2.2
theorem core:Sc:=by
 unfold Sc S_acc_str
 intro B F X T hk hd hu N ht hap hg hx hdd hcs hfit hjoin hret;revert X;k_fill;intro X;refine wpAny_call ?_;k_dflt cell_enter
 k_steps;rename_i gh Lh h1 FG1 F1 N1 B1 X1 T1;obtain ⟨bm,ob,M1⟩:=bmod_of_top T1
 refine' gen_pairs (P:=147) (C:=178) (c:=151) (oc:=h151) (ps:=κ.2.2.2.2.2) (Ts:=fun j=>(cs_[j]?.getD default).T) (va:=fun j=>.str (cs_[j]?.getD default).a (cs_[j]?.getD default).ta) (vb:=fun j=>.str (cs_[j]?.getD default).b (cs_[j]?.getD default).tb)
  (Fv:=fun j v=>∃ t,v=.str ((cs_[j]?.getD default).a ++ (cs_[j]?.getD default).b) t) rfl rfl rfl (by decide) rfl rfl rfl (by decide) rfl ?room (fun _=>rfl) F1 X1 N1 hap M1 T1.nolimit hg rfl ?hc ?sh ht ?iter hx ?f ?l (itemsOf_get cs_) (hcs.at) ?elt ?h
 case room=>ktr_room
 case hc=>k_is
 case sh=>exact ⟨_,_,_,_,_,_,_,_,rfl,rfl,rfl,rfl,rfl,rfl,rfl,rfl⟩
 case iter=>exact fun Q' hq=>ld F1 rfl hq
 case f=>k_is
 case l=>k_is
 case elt =>
  intro A' E' j s₂ m₂ c' Cn e1 e2 e3 hj F2 hva hvb;obtain ⟨f1,f2⟩:=hcs.fit j hj
  have N2:News gh Cn s₂.heap []:=News.nil
  have lgi:LGe.Inner:=LGe.Inner.mk
  k_steps;exact ⟨_,_,rfl,by assumption⟩
 case h =>
  intro ga fp wr St s' G ho hdr;obtain ⟨F5,ps5,ht5,N5⟩:=G.back s' (fun _ _ _ e=>e)
  k_steps;refine SC.joinGen G.walks.in4_2 G.typ G.st G.low G.self (fun _ v hv=>⟨_,hv⟩) (fun s3 l hm hi=>?_) (by rw [itemsOf_size];exact hfit)
  have hl:l.map (·.1)=cs_.map fun c=>c.a ++ c.b:=by
   have hsz:l.length=cs_.length:=by have:=hi.1;simpa [strValues,itemsOf_size] using this
   refine List.ext_getElem (by simp [hsz]) fun j h1 h2=>?_
   simp only [List.length_map] at h1 h2
   have hv:=hi.2 j (.str (l[j].1) (l[j].2)) (by simp [strValues,h1])
   obtain ⟨t,ht⟩:=hv
   have e:cs_[j]?=some cs_[j]:=List.getElem?_eq_getElem h2
   rw [e] at ht
   simp only [List.getElem_map]
   exact (Value.str.inj ht).1
  rw [hl]
  obtain ⟨F6,ps6,ht6,N6⟩:=G.back s3 hm.heap
  have hb6:AllBare s3.gens:=AllBare.moved G.bare hm.gens
  obtain ⟨h3,g3,d3,k3,o3⟩:=s3
  have e1:d3=κ.2.1.2.1.1.drawn:=hm.drawn.trans hdr
  have e2:o3=κ.2.1.2.1.1.os:=hm.os.trans ho
  subst e1 e2
  refine ⟨hjoin,fun t' k'=>?_⟩
  k_steps;exact hret _ _ _ _ _ (by assumption) (by assumption) (by assumption) (by assumption)
end e_acc_str
theorem acc_str :@S_acc_str w mean mg mb p loose dp un gd cn cs₀ a ccd cl outer A₀ base h₀ L m s Q E news x d cs n k tk tv ps:=@pick_all _ _ e_acc_str.Sd (by with_unfolding_all exact e_acc_str.core) (((((_,_),_,_),(_,_),_,_),((_,_),_,_),(_,_),_,_),(((_,_),_,_),(_,_),_,_),((_,_),_,_),(_,_),_,_)
end
end
theorem reg6:True:=by
 w_top off
 k_with "call ref"=>(k_extra "a";k_here;k_dflt (refine' acc_part_count ?B ?F ?X ?T ?hk ?hd ?hu ?N ?hx ?hdd ?_;k_extra "cB";(case hu=>ktr_units);(case N=>k_asm);(case hx=>k_mem);(case hdd=>k_mem);k_whole);intro t'z h'z tk'z F'z N'z;(try k_sweep);(try dsimp only))
 trivial
section
section
variable
 {news:List (Addr×Obj)} {x d:Addr} {k:Int} {tk tv:Tok} {cs:List Cell} {n:Nat}
variable (B:Below A₀ base outer h₀) (F:Fr h₀ L s.heap m) (X:(KK w.params).In h₀) (T:Top p loose mean mg mb h₀) (hk:cs₀.kind=.function) (hd:dp+4 < recursionLimit) (hu:un+24 < cLine)
 (N:News h₀ L s.heap ((x,subO 178 d (itemsOf cs) n)::news)) (hdd:(d,dictOf [sizeEnt w.params k tk tv] 1)∈news) (hapx:∀ q∈news,q.1≠x)
include B F X T hk hd hu N hdd hapx
theorem acc_pop_none (hcs:cs=[]) 
  (hret:∀ (t:Addr) (t1 t2:Tok) (h':Heap) (tk':Nat),Fr h₀ L h' m -> News h₀ L h' ((t,tupO (.str ("":Str) t1) (.str ("":Str) t2))::(x,subO 178 d (itemsOf cs) n)::news) →
   (x < t /\ AllLt t news) -> Q (.ref t) { s with heap:=h',toks:=tk' }) :
  wpAny (model rw_rw0127_01.row.prog w) (ktrTop dp un gd cn cs₀ L a ccd cl outer) (call (.ref 138) [.ref x]) Q E s:=by
 revert X;k_fill;intro X;refine wpAny_call ?_;(k_extra "kS";intro g' L' h' FG' F' N' B' X' T' l1;(try k_lt l1);k_extra "tl")
 k_steps
 ·exact hret _ _ _ _ _ (by assumption) (by assumption) (by assumption)
 ·rename_i hb _ _ _ _ _ _ _
  exfalso
  subst hcs;simp [itemsOf] at *
theorem acc_pop_last {c:Cell} {cs':List Cell} (hcs:cs=cs' ++ [c]) (hsz:cs.length <= 1000)
  (hret:∀ (h':Heap) (tk':Nat),Fr h₀ L h' m -> News h₀ L h' ((x,subO 178 d (itemsOf cs') (n+1))::news) -> Q (.ref c.T) { s with heap:=h',toks:=tk' }) :
  wpAny (model rw_rw0127_01.row.prog w) (ktrTop dp un gd cn cs₀ L a ccd cl outer) (call (.ref 138) [.ref x]) Q E s:=by
 have hsz':(itemsOf cs').size+1 <= sizeLine:=by
  subst hcs;rw [itemsOf_size,sizeLine_eq];simp at hsz;omega
 subst hcs;rw [itemsOf_snoc] at N
 have hne:(((itemsOf cs').push (.ref c.T)).size:Int)≠0:=by simp;omega
 revert X;k_fill;intro X;refine wpAny_call ?_;(k_extra "kS";intro g' L' h' FG' F' N' B' X' T' l1;(try k_lt l1);k_extra "tl")
 k_steps
 ·exact absurd (by assumption) hne
 ·exact hret _ _ (by assumption) (drop2 (by assumption))
end
end
theorem reg7:True:=by
 w_top off
 trivial
section
section
variable
 {news:List (Addr×Obj)} {x d:Addr} {cs:List Cell} {k:Int} {tk tv:Tok} {n:Nat} {ti:Tok} {i:Nat}
variable (B:Below A₀ base outer h₀) (F:Fr h₀ L s.heap m) (X:(KK w.params).In h₀) (T:Top p loose mean mg mb h₀) (hk:cs₀.kind=.function) (hd:dp+4 < recursionLimit) (hu:un+24 < cLine)
 (N:News h₀ L s.heap ((x,subO 178 d (itemsOf cs) n)::news)) (hdd:(d,dictOf [sizeEnt w.params k tk tv] 1)∈news) (hapx:∀ q∈news,q.1≠x)
include B F X T hk hd hu N hdd hapx
theorem acc_pop_from (hsz:cs.length <= 1000) (hi:i <= cs.length)
  (hret:∀ (t:Addr) (nt n':Nat) (h':Heap) (tk':Nat),Fr h₀ L h' m -> News h₀ L h' ((t,{ cls:=.type "list",data:=.seq (itemsOf (cs.drop i)) nt })::(x,subO 178 d (itemsOf (cs.take i)) n')::news) →
   (x < t /\ AllLt t news) -> Q (.ref t) { s with heap:=h',toks:=tk' }) :
  wpAny (model rw_rw0127_01.row.prog w) (ktrTop dp un gd cn cs₀ L a ccd cl outer) (call (.ref 130) [.ref x,.int i ti]) Q E s:=by
 revert X;k_fill;intro X;refine wpAny_call ?_;have h1000:cs.length <= sizeLine:=by rw [sizeLine_eq];omega
 have h1001:(cs.take i).length <= sizeLine:=by rw [sizeLine_eq,List.length_take];omega
 (k_extra "eD";intro g' L' h' FG' F' N' B' X' T';k_extra "tl")
 k_steps;exact hret _ 0 _ _ _ (by assumption) (by rw [<- drop_pick cs i hi];exact drop1 (by assumption)) (by assumption)
end
section
variable
 {news:List (Addr×Obj)} {x d:Addr} {cs:List Cell} {n:Nat} {k:Int} {tk tv ti:Tok} {i:Nat}
variable (B:Below A₀ base outer h₀) (F:Fr h₀ L s.heap m) (X:(KK w.params).In h₀) (T:Top p loose mean mg mb h₀) (hk:cs₀.kind=.function) (hd:dp+4 < recursionLimit) (hu:un+24 < cLine)
 (N:News h₀ L s.heap ((x,subO 178 d (itemsOf cs) n)::(d,dictOf [sizeEnt w.params k tk tv] 1)::news)) (hdx:@LT.lt Nat _ d x) (hapx:∀ q∈news,q.1≠x) (hapd:∀ q∈news,q.1≠d)
include B F X T hk hd hu N hdx hapx hapd
theorem acc_reset_none (hsz:cs.length <= 1000)
  (hret:∀ (n':Nat) (t1 t2:Tok) (h':Heap) (tk':Nat),Fr h₀ L h' m -> News h₀ L h' ((x,subO 178 d #[] n')::(d,dictOf [sizeEnt w.params 0 t1 t2] 1)::news) -> Q .none { s with heap:=h',toks:=tk' }) :
  wpAny (model rw_rw0127_01.row.prog w) (ktrTop dp un gd cn cs₀ L a ccd cl outer) (call (.ref 160) [.ref x]) Q E s:=by
 have h1000:([]:List Cell).length <= sizeLine:=Nat.zero_le _
 refine wpAny_call ?_;(k_extra "eD";intro g' L' h' FG' F' N' B' X' T';k_extra "tl")
 k_steps;exact hret _ _ _ _ _ (by assumption) (drop1 (by assumption))
theorem acc_reset_list {y:Addr} {ny:Nat} {cs':List Cell} (hsz:cs.length <= 1000) (hsz':cs'.length <= 1000) (hy:(y,({ cls:=.type "list",data:=.seq (itemsOf cs') ny }:Obj))∈news)
  (hret:∀ (n':Nat) (t1 t2:Tok) (h':Heap) (tk':Nat),Fr h₀ L h' m -> News h₀ L h' ((x,subO 178 d (itemsOf cs') n')::(d,dictOf [sizeEnt w.params 0 t1 t2] 1)::news) -> Q .none { s with heap:=h',toks:=tk' }) :
  wpAny (model rw_rw0127_01.row.prog w) (ktrTop dp un gd cn cs₀ L a ccd cl outer) (call (.ref 160) [.ref x,.ref y]) Q E s:=by
 have h1000:cs'.length <= sizeLine:=by rw [sizeLine_eq];omega
 refine wpAny_call ?_;(k_extra "eD";intro g' L' h' FG' F' N' B' X' T';k_extra "tl")
 k_steps;exact hret _ _ _ _ _ (by assumption) (by assumption)
end
end
section
section
variable
 {led:List (Addr×Obj)} {g:Obj -> List (Addr×Obj)} {g2:Obj -> Obj -> List (Addr×Obj)} {x d:Addr} {cs:List Cell} {n:Nat} {k:Int} {tk tv ti tf ts:Tok} {i:Nat} {fs str:Str} {ps:Array Value}
theorem accU_pushC {R:Result -> Shared -> Prop} (B:Below A₀ base outer h₀) (F:Fr h₀ L s.heap m) (X:(KK w.params).In h₀) (T:Top p loose mean mg mb h₀) (hk:cs₀.kind=.function) (hd:dp+2 < recursionLimit) (hu:un+12 < cLine)
  (N:News h₀ L s.heap led) (U:UpdF x (subO 178 d (itemsOf cs) n) led g) (hdd:(d,dictOf [sizeEnt w.params k tk tv] 1)∈led) (hsz:cs.length <= 1000)
  (hret:∀ (c:Cell) (h':Heap) (tk':Nat),c.a=fs -> c.b=str -> lenSum (cs ++ [c])=lenSum cs+(fs.length+str.length) -> Fr h₀ L h' m -> News h₀ L h' ((c.T,c.obj)::g (subO 178 d (itemsOf (cs ++ [c])) (n+1))) -> (∀ q∈led,q.1 < c.T) -> R (.ok (.ret .none)) { s with heap:=h',toks:=tk' }) :
  codeAny (model rw_rw0127_01.row.prog w) (ktrTop dp un gd cn cs₀ L a ccd cl outer) (.call (.ref 122) ⟨[.ref x,.str fs tf,.str str ts],[]⟩) R s:=by
 refine via ?_
 intro gV yV;obtain ⟨rest,m1,m2,hap⟩:=updF_rest U
 refine yV ?_
 clear yV gV;refine acc_pushC B F X T hk hd hu (subNews N fun p hp=>(m1 p).mpr (List.mem_cons.mp hp)) (mem_rest m1 (by simp) hdd) hap (by rw [itemsOf_size,sizeLine_eq];omega) fun t h' tk' F' N' l=>?_
 refine hret ⟨t,fs,tf,str,ts⟩ h' tk' rfl rfl (lenSum_snoc _ _) F' (subNews N' fun p hp=>?_) fun q hq=>?_
 ·rcases List.mem_cons.mp hp with rfl | hp
  ·exact .head _
  ·rw [itemsOf_snoc] at hp
   rcases (m2 _ p).mp hp with rfl | hp
   ·exact .tail _ (.head _)
   ·exact .tail _ (.tail _ hp)
 ·rcases (m1 q).mp hq with rfl | hq
  ·exact l.1
  ·exact allLt_all l.2 q hq
theorem accU_push (B:Below A₀ base outer h₀) (F:Fr h₀ L s.heap m) (X:(KK w.params).In h₀) (T:Top p loose mean mg mb h₀) (hk:cs₀.kind=.function) (hd:dp+2 < recursionLimit) (hu:un+12 < cLine)
  (N:News h₀ L s.heap led) (U:UpdF x (subO 178 d (itemsOf cs) n) led g) (hdd:(d,dictOf [sizeEnt w.params k tk tv] 1)∈led) (hsz:cs.length <= 1000)
  (hret:∀ (c:Cell) (h':Heap) (tk':Nat),c.a=fs -> c.b=str -> lenSum (cs ++ [c])=lenSum cs+(fs.length+str.length) -> Fr h₀ L h' m -> News h₀ L h' ((c.T,c.obj)::g (subO 178 d (itemsOf (cs ++ [c])) (n+1))) -> (∀ q∈led,q.1 < c.T) -> Q .none { s with heap:=h',toks:=tk' }) :
  wpAny (model rw_rw0127_01.row.prog w) (ktrTop dp un gd cn cs₀ L a ccd cl outer) (call (.ref 122) [.ref x,.str fs tf,.str str ts]) Q E s:=by
 exact wpAny_call (accU_pushC B F X T hk hd hu N U hdd hsz hret)
theorem accU_pop_none (B:Below A₀ base outer h₀) (F:Fr h₀ L s.heap m) (X:(KK w.params).In h₀) (T:Top p loose mean mg mb h₀) (hk:cs₀.kind=.function) (hd:dp+4 < recursionLimit) (hu:un+24 < cLine)
  (N:News h₀ L s.heap led) (U:UpdF x (subO 178 d (itemsOf []) n) led g) (hdd:(d,dictOf [sizeEnt w.params k tk tv] 1)∈led)
  (hret:∀ (t:Addr) (t1 t2:Tok) (h':Heap) (tk':Nat),Fr h₀ L h' m -> News h₀ L h' ((t,tupO (.str ("":Str) t1) (.str ("":Str) t2))::led) -> (∀ q∈led,q.1 < t) -> Q (.ref t) { s with heap:=h',toks:=tk' }) :
  wpAny (model rw_rw0127_01.row.prog w) (ktrTop dp un gd cn cs₀ L a ccd cl outer) (call (.ref 138) [.ref x]) Q E s:=by
 refine via ?_
 intro gV yV;obtain ⟨rest,m1,m2,hap⟩:=updF_rest U
 refine yV ?_
 clear yV gV;refine acc_pop_none (cs:=[]) B F X T hk hd hu (subNews N fun p hp=>(m1 p).mpr (List.mem_cons.mp hp)) (mem_rest m1 (by simp) hdd) hap rfl fun t t1 t2 h' tk' F' N' l=>?_
 refine hret t t1 t2 h' tk' F' (subNews N' fun p hp=>?_) fun q hq=>?_
 ·rcases List.mem_cons.mp hp with rfl | hp
  ·exact .head _
  ·exact .tail _ (List.mem_cons.mpr ((m1 p).mp hp))
 ·rcases (m1 q).mp hq with rfl | hq
  ·exact l.1
  ·exact allLt_all l.2 q hq
theorem accU_pop_last {c:Cell} (B:Below A₀ base outer h₀) (F:Fr h₀ L s.heap m) (X:(KK w.params).In h₀) (T:Top p loose mean mg mb h₀) (hk:cs₀.kind=.function) (hd:dp+4 < recursionLimit) (hu:un+24 < cLine)
  (N:News h₀ L s.heap led) (U:UpdF x (subO 178 d (itemsOf (cs ++ [c])) n) led g) (hdd:(d,dictOf [sizeEnt w.params k tk tv] 1)∈led) (hsz:(cs ++ [c]).length <= 1000)
  (hret:∀ (h':Heap) (tk':Nat),Fr h₀ L h' m -> News h₀ L h' (g (subO 178 d (itemsOf cs) (n+1))) -> Q (.ref c.T) { s with heap:=h',toks:=tk' }) :
  wpAny (model rw_rw0127_01.row.prog w) (ktrTop dp un gd cn cs₀ L a ccd cl outer) (call (.ref 138) [.ref x]) Q E s:=by
 refine via ?_
 intro gV yV;obtain ⟨rest,m1,m2,hap⟩:=updF_rest U
 refine yV ?_
 clear yV gV;refine acc_pop_last B F X T hk hd hu (subNews N fun p hp=>(m1 p).mpr (List.mem_cons.mp hp)) (mem_rest m1 (by simp) hdd) hap rfl hsz fun h' tk' F' N'=>?_
 exact hret h' tk' F' (subNews N' fun p hp=>List.mem_cons.mpr ((m2 _ p).mp hp))
theorem accU_pop_from (B:Below A₀ base outer h₀) (F:Fr h₀ L s.heap m) (X:(KK w.params).In h₀) (T:Top p loose mean mg mb h₀) (hk:cs₀.kind=.function) (hd:dp+4 < recursionLimit) (hu:un+24 < cLine)
  (N:News h₀ L s.heap led) (U:UpdF x (subO 178 d (itemsOf cs) n) led g) (hdd:(d,dictOf [sizeEnt w.params k tk tv] 1)∈led) (hsz:cs.length <= 1000) (hi:i <= cs.length)
  (hret:∀ (t:Addr) (nt n':Nat) (h':Heap) (tk':Nat),Fr h₀ L h' m -> News h₀ L h' ((t,{ cls:=.type "list",data:=.seq (itemsOf (cs.drop i)) nt })::g (subO 178 d (itemsOf (cs.take i)) n')) -> (∀ q∈led,q.1 < t) -> Q (.ref t) { s with heap:=h',toks:=tk' }) :
  wpAny (model rw_rw0127_01.row.prog w) (ktrTop dp un gd cn cs₀ L a ccd cl outer) (call (.ref 130) [.ref x,.int i ti]) Q E s:=by
 refine via ?_
 intro gV yV;obtain ⟨rest,m1,m2,hap⟩:=updF_rest U
 refine yV ?_
 clear yV gV;refine acc_pop_from B F X T hk hd hu (subNews N fun p hp=>(m1 p).mpr (List.mem_cons.mp hp)) (mem_rest m1 (by simp) hdd) hap hsz hi fun t nt n' h' tk' F' N' l=>?_
 refine hret t nt n' h' tk' F' (subNews N' fun p hp=>?_) fun q hq=>?_
 ·rcases List.mem_cons.mp hp with rfl | hp
  ·exact .head _
  ·exact .tail _ (List.mem_cons.mpr ((m2 _ p).mp hp))
 ·rcases (m1 q).mp hq with rfl | hq
  ·exact l.1
  ·exact allLt_all l.2 q hq
theorem accU_len (B:Below A₀ base outer h₀) (F:Fr h₀ L s.heap m) (X:(KK w.params).In h₀) (T:Top p loose mean mg mb h₀) (hk:cs₀.kind=.function) (hd:dp+4 < recursionLimit) (hu:un+24 < cLine)
  (N:News h₀ L s.heap led) (U:UpdF 140 (tblO ps) led g) (ht:TabIs ⟨93,19,93,63⟩ ps) (hg:AllBare s.gens) (hx:(x,subO 178 d (itemsOf cs) n)∈led) (hdd:(d,dictOf [sizeEnt w.params k tk tv] 1)∈led) (hcs:CellsIn cs led)
  (hret:∀ (t:Tok) (h':Heap) (tk':Nat) (g':Array GenState) (ps':Array Value),Fr h₀ L h' m -> News h₀ L h' (g (tblO ps')) -> TabIs ⟨93,19,93,63⟩ ps' -> AllBare g' -> Q (.int (k+lenSum cs) t) { s with heap:=h',toks:=tk',gens:=g' }) :
  wpAny (model rw_rw0127_01.row.prog w) (ktrTop dp un gd cn cs₀ L a ccd cl outer) (call (.ref 145) [.ref x]) Q E s:=by
 refine via ?_
 intro gV yV;obtain ⟨rest,m1,m2,hap⟩:=updF_rest U
 refine yV ?_
 clear yV gV;refine acc_len B F X T hk hd hu (subNews N fun p hp=>(m1 p).mpr (List.mem_cons.mp hp)) ht hap hg (mem_rest m1 (by simp) hx) (mem_rest m1 (by simp) hdd) (cells_rest m1 (by simp) hcs) fun t h' tk' g' ps' F' N' ht' hg'=>?_
 exact hret t h' tk' g' ps' F' (subNews N' fun p hp=>List.mem_cons.mpr ((m2 _ p).mp hp)) ht' hg'
theorem accU_str (B:Below A₀ base outer h₀) (F:Fr h₀ L s.heap m) (X:(KK w.params).In h₀) (T:Top p loose mean mg mb h₀) (hk:cs₀.kind=.function) (hd:dp+4 < recursionLimit) (hu:un+24 < cLine)
  (N:News h₀ L s.heap led) (U:UpdF 147 (tblO ps) led g) (ht:TabIs ⟨96,32,96,85⟩ ps) (hg:AllBare s.gens) (hx:(x,subO 178 d (itemsOf cs) n)∈led) (hdd:(d,dictOf [sizeEnt w.params k tk tv] 1)∈led) (hcs:CellsIn cs led)
  (hfit:cs.length <= sizeLine) (hjoin:JoinOk ("":Str) (cs.map fun c=>c.a ++ c.b)=true)
  (hret:∀ (t:Tok) (h':Heap) (tk':Nat) (g':Array GenState) (ps':Array Value),Fr h₀ L h' m -> News h₀ L h' (g (tblO ps')) -> TabIs ⟨96,32,96,85⟩ ps' -> AllBare g' -> Q (.str (Txt.join ("":Str) (cs.map fun c=>c.a ++ c.b)) t) { s with heap:=h',toks:=tk',gens:=g' }) :
  wpAny (model rw_rw0127_01.row.prog w) (ktrTop dp un gd cn cs₀ L a ccd cl outer) (call (.ref 152) [.ref x]) Q E s:=by
 refine via ?_
 intro gV yV;obtain ⟨rest,m1,m2,hap⟩:=updF_rest U
 refine yV ?_
 clear yV gV;refine acc_str B F X T hk hd hu (subNews N fun p hp=>(m1 p).mpr (List.mem_cons.mp hp)) ht hap hg (mem_rest m1 (by simp) hx) (mem_rest m1 (by simp) hdd) (cells_rest m1 (by simp) hcs) hfit hjoin fun t h' tk' g' ps' F' N' ht' hg'=>?_
 exact hret t h' tk' g' ps' F' (subNews N' fun p hp=>List.mem_cons.mpr ((m2 _ p).mp hp)) ht' hg'
theorem accU_reset_none (B:Below A₀ base outer h₀) (F:Fr h₀ L s.heap m) (X:(KK w.params).In h₀) (T:Top p loose mean mg mb h₀) (hk:cs₀.kind=.function) (hd:dp+4 < recursionLimit) (hu:un+24 < cLine)
  (N:News h₀ L s.heap led) (U:UpdF x (subO 178 d (itemsOf cs) n) led g) (U2:∀ o',UpdF d (dictOf [sizeEnt w.params k tk tv] 1) (g o') (g2 o')) (hdx:@LT.lt Nat _ d x) (hsz:cs.length <= 1000)
  (hret:∀ (n':Nat) (t1 t2:Tok) (h':Heap) (tk':Nat),Fr h₀ L h' m -> News h₀ L h' (g2 (subO 178 d (itemsOf []) n') (dictOf [sizeEnt w.params 0 t1 t2] 1)) -> Q .none { s with heap:=h',toks:=tk' }) :
  wpAny (model rw_rw0127_01.row.prog w) (ktrTop dp un gd cn cs₀ L a ccd cl outer) (call (.ref 160) [.ref x]) Q E s:=by
 refine via ?_
 intro gV yV;obtain ⟨rest,m1,m2,hap1,hap2⟩:=updF_two U U2 (Nat.ne_of_gt hdx)
 refine yV ?_
 clear yV gV;refine acc_reset_none B F X T hk hd hu (subNews N fun p hp=>(m1 p).mpr ((List.mem_cons.mp hp).imp id List.mem_cons.mp)) hdx hap1 hap2 hsz fun n' t1 t2 h' tk' F' N'=>?_
 exact hret n' t1 t2 h' tk' F' (subNews N' fun p hp=>List.mem_cons.mpr (((m2 _ _ p).mp hp).imp id List.mem_cons.mpr))
theorem accU_reset_list {y:Addr} {ny:Nat} {cs':List Cell} (B:Below A₀ base outer h₀) (F:Fr h₀ L s.heap m) (X:(KK w.params).In h₀) (T:Top p loose mean mg mb h₀) (hk:cs₀.kind=.function) (hd:dp+4 < recursionLimit) (hu:un+24 < cLine)
  (N:News h₀ L s.heap led) (U:UpdF x (subO 178 d (itemsOf cs) n) led g) (U2:∀ o',UpdF d (dictOf [sizeEnt w.params k tk tv] 1) (g o') (g2 o')) (hdx:@LT.lt Nat _ d x) (hy:(y,({ cls:=.type "list",data:=.seq (itemsOf cs') ny }:Obj))∈led) (hsz:cs.length <= 1000) (hsz':cs'.length <= 1000)
  (hret:∀ (n':Nat) (t1 t2:Tok) (h':Heap) (tk':Nat),Fr h₀ L h' m -> News h₀ L h' (g2 (subO 178 d (itemsOf cs') n') (dictOf [sizeEnt w.params 0 t1 t2] 1)) -> Q .none { s with heap:=h',toks:=tk' }) :
  wpAny (model rw_rw0127_01.row.prog w) (ktrTop dp un gd cn cs₀ L a ccd cl outer) (call (.ref 160) [.ref x,.ref y]) Q E s:=by
 refine via ?_
 intro gV yV;obtain ⟨rest,m1,m2,hap1,hap2⟩:=updF_two U U2 (Nat.ne_of_gt hdx)
 refine yV ?_
 clear yV gV;have hy':(y,({ cls:=.type "list",data:=.seq (itemsOf cs') ny }:Obj))∈rest:=by
  rcases (m1 _).mp hy with e | e | e
  ·have:=(Prod.mk.inj e).2;simp at this
  ·have:=(Prod.mk.inj e).2;simp at this
  ·exact e
 refine acc_reset_list B F X T hk hd hu (subNews N fun p hp=>(m1 p).mpr ((List.mem_cons.mp hp).imp id List.mem_cons.mp)) hdx hap1 hap2 hsz hsz' hy' fun n' t1 t2 h' tk' F' N'=>?_
 exact hret n' t1 t2 h' tk' F' (subNews N' fun p hp=>List.mem_cons.mpr (((m2 _ _ p).mp hp).imp id List.mem_cons.mpr))
end
end
theorem reg8:True:=by
 w_top off
 k_with "call ref"=>(k_extra "a";k_here;k_dflt (refine' acc_part_count ?B ?F ?X ?T ?hk ?hd ?hu ?N ?hx ?hdd ?_;k_extra "cB";(case hu=>k_extra "hu");(case N=>k_asm);(case hx=>k_mem);(case hdd=>k_mem);k_whole);intro t'z h'z tk'z F'z N'z;(try k_sweep);(try dsimp only))
 k_with "call ref"=>(k_extra "a";k_here;k_dflt (refine' accU_push ?B ?F ?X ?T ?hk ?hd ?hu ?N ?U ?hdd ?hsz ?_;k_extra "cB";(case hu=>k_extra "hu");(case N=>k_asm);(case U=>k_updF);(case hdd=>k_mem);(case hsz=>first | assumption | omega | (simp only [List.length_append,List.length_cons,List.length_nil] at *;omega));k_whole);intro c'z h'z tk'z ea'z eb'z el'z F'z N'z l1z;(try dsimp only at N'z);(try k_lt l1z);(try k_sweep);(try dsimp only))
 k_with "call ref"=>(k_extra "a";k_here;k_dflt (refine' accU_pop_none ?B ?F ?X ?T ?hk ?hd ?hu ?N ?U ?hdd ?_;k_extra "cB";(case hu=>k_extra "hu");(case N=>k_asm);(case U=>k_updF);(case hdd=>k_mem);k_whole);intro q'z t1'z t2'z h'z tk'z F'z N'z l1z;(try dsimp only at N'z);(try k_lt l1z);(try k_sweep);(try dsimp only))
 k_with "call ref"=>(k_extra "a";k_here;k_dflt (refine' accU_pop_last ?B ?F ?X ?T ?hk ?hd ?hu ?N ?U ?hdd ?hsz ?_;k_extra "cB";(case hu=>k_extra "hu");(case N=>k_asm);(case U=>k_updF);(case hdd=>k_mem);(case hsz=>first | assumption | omega | (simp only [List.length_append,List.length_cons,List.length_nil] at *;omega));k_whole);intro h'z tk'z F'z N'z;(try dsimp only at N'z);(try k_sweep);(try dsimp only))
 k_with "call ref"=>(k_extra "a";k_here;k_dflt (refine' accU_pop_from ?B ?F ?X ?T ?hk ?hd ?hu ?N ?U ?hdd ?hsz ?hi ?_;k_extra "cB";(case hu=>k_extra "hu");(case N=>k_asm);(case U=>k_updF);(case hdd=>k_mem);(case hsz=>first | assumption | omega | (simp only [List.length_append,List.length_cons,List.length_nil] at *;omega));(case hi=>first | assumption | omega);k_whole);intro q'z nt'z n'z h'z tk'z F'z N'z l1z;(try dsimp only at N'z);(try k_lt l1z);(try k_sweep);(try dsimp only))
 k_with "call ref"=>(k_extra "a";k_here;k_dflt (refine' accU_len ?B ?F ?X ?T ?hk ?hd ?hu ?N ?U ?ht ?hg ?hx ?hdd ?hcs ?_;k_extra "cB";(case hu=>k_extra "hu");(case N=>k_asm);(case U=>k_updF);(case ht=>assumption);(case hg=>assumption);(case hx=>k_mem);(case hdd=>k_mem);(case hcs=>first | assumption | exact cells_one (by assumption) (by assumption) (by k_mem) | exact cells_snoc (by assumption) (by assumption) (by assumption) (by k_mem) (by first | w_head | (intro pz hpz;simp only [List.mem_cons];grind)) | exact cells_up (by assumption) (by intro pz hpz;simp only [List.mem_cons] at hpz ⊢;grind));k_whole);intro t'z h'z tk'z g'z ps'z F'z N'z ht'z hg'z;(try dsimp only at N'z);(try k_sweep);(try dsimp only))
 k_with "call ref"=>(k_extra "a";k_here;k_dflt (refine' accU_str ?B ?F ?X ?T ?hk ?hd ?hu ?N ?U ?ht ?hg ?hx ?hdd ?hcs ?hf ?hj ?_;k_extra "cB";(case hu=>k_extra "hu");(case N=>k_asm);(case U=>k_updF);(case ht=>assumption);(case hg=>assumption);(case hx=>k_mem);(case hdd=>k_mem);(case hcs=>first | assumption | exact cells_one (by assumption) (by assumption) (by k_mem) | exact cells_snoc (by assumption) (by assumption) (by assumption) (by k_mem) (by first | w_head | (intro pz hpz;simp only [List.mem_cons];grind)) | exact cells_up (by assumption) (by intro pz hpz;simp only [List.mem_cons] at hpz ⊢;grind));(case hf=>first | assumption | (simp only [sizeLine_eq,List.length_append,List.length_cons,List.length_nil] at *;omega));(case hj=>first | assumption | solve_by_elim);k_whole);intro t'z h'z tk'z g'z ps'z F'z N'z ht'z hg'z;(try dsimp only at N'z);(try k_sweep);(try dsimp only))
 k_with "call ref"=>(k_extra "a";k_here;k_dflt (refine' accU_reset_none ?B ?F ?X ?T ?hk ?hd ?hu ?N ?U ?U2 ?hdx ?hsz ?_;k_extra "cB";(case hu=>k_extra "hu");(case N=>k_asm);(case U=>k_updF);(case U2=>intro o9z;k_updF);(case hdx=>assumption);(case hsz=>first | assumption | omega | (simp only [List.length_append,List.length_cons,List.length_nil] at *;omega));k_whole);intro n'z t1'z t2'z h'z tk'z F'z N'z;(try dsimp only at N'z);(try k_sweep);(try dsimp only))
 k_with "call ref"=>(k_extra "a";k_here;k_dflt (refine' accU_reset_list ?B ?F ?X ?T ?hk ?hd ?hu ?N ?U ?U2 ?hdx ?hy ?hsz ?hsz2 ?_;k_extra "cB";(case hu=>k_extra "hu");(case N=>k_asm);(case U=>k_updF);(case U2=>intro o9z;k_updF);(case hdx=>assumption);(case hy=>k_mem);(case hsz=>first | assumption | omega | (simp only [List.length_append,List.length_cons,List.length_nil] at *;omega));(case hsz2=>first | assumption | omega);k_whole);intro n'z t1'z t2'z h'z tk'z F'z N'z;(try dsimp only at N'z);(try k_sweep);(try dsimp only))
 k_with "truthy ref"=>(k_extra "a";k_here;k_dflt (refine' truthy_len (C:=178) ?F ?X ?I ?hb ?hs ?hf ?_;(case F=>k_asm);(case X=>k_asm);(case I=>k_inst);(case hb=>k_is);(case hs=>k_is);(case hf=>k_is);k_whole))
 k_with "call type:str"=>(k_extra "a";k_here;k_dflt (refine' kso_call (C:=178) ?u ?X ?I ?s ?f ?_;(case u=>k_extra "hu");(case X=>exact Frag.In.keeps (by k_asm) (Fr.keep (by k_asm)));(case I=>k_inst);(case s=>k_is);(case f=>k_is);k_whole))
 k_with "StrBack"=>(k_extra "a";unfold StrBack;dsimp only)
 k_with "TruthBack"=>(k_extra "a";k_dflt (refine ⟨⟨by omega,by omega⟩,?_⟩);try dsimp only)
 k_with "LenBack"=>(k_extra "a";k_dflt (refine ⟨⟨by omega,by omega⟩,?_⟩);try dsimp only)
 trivial
section
noncomputable def onlyws (k:Int) (cs:List Cell):Bool:=k == 0 && (k+(lenSum cs:Nat) == 0 || Txt.isspace (Txt.join ("":Str) (cs.map fun c=>c.a ++ c.b)))
section
variable
 {news:List (Addr×Obj)} {x d:Addr} {cs:List Cell} {n:Nat} {k:Int} {tk tv:Tok} {ps qs:Array Value}
theorem acc_onlyws (B:Below A₀ base outer h₀) (F:Fr h₀ L s.heap m) (X:(KK w.params).In h₀) (T:Top p loose mean mg mb h₀) (hk:cs₀.kind=.function) (hd:dp+6 < recursionLimit) (hu:un+40 < cLine)
 (N:News h₀ L s.heap ((140,tblO ps)::(147,tblO qs)::news)) (ht:TabIs ⟨93,19,93,63⟩ ps) (ht2:TabIs ⟨96,32,96,85⟩ qs) (hap:∀ q∈news,q.1≠140) (hap2:∀ q∈news,q.1≠147) (hg:AllBare s.gens)
 (hx:(x,subO 178 d (itemsOf cs) n)∈news) (hdd:(d,dictOf [sizeEnt w.params k tk tv] 1)∈news) (hcs:CellsIn cs news) (hfit:cs.length <= sizeLine) (hjoin:JoinOk ("":Str) (cs.map fun c=>c.a ++ c.b)=true)
 (hk0:0 <= k) (hk1:k+lenSum cs < 2 ^ 62)
 (hret:∀ (b:Bool) (h':Heap) (tk':Nat) (g':Array GenState) (ps' qs':Array Value),b=onlyws k cs -> Fr h₀ L h' m -> News h₀ L h' ((140,tblO ps')::(147,tblO qs')::news) -> TabIs ⟨93,19,93,63⟩ ps' -> TabIs ⟨96,32,96,85⟩ qs' -> AllBare g' -> Q (.bool b) { s with heap:=h',toks:=tk',gens:=g' }) :
  wpAny (model rw_rw0127_01.row.prog w) (ktrTop dp un gd cn cs₀ L a ccd cl outer) (call (.ref 167) [.ref x]) Q E s:=by
 revert X;k_fill;intro X;refine wpAny_call ?_;(k_extra "eD";intro g' L' h' FG' F' N' B' X' T';k_extra "tl")
 k_steps
 ·have e1:k=0:=by assumption
  have e2:k+((lenSum cs:Nat):Int)≠0:=by assumption
  refine hret _ _ _ _ _ _ ?_ (by assumption) (by assumption) (by assumption) (by assumption) (by assumption)
  unfold onlyws
  rw [show (k == 0)=true by simp [e1],show (k+((lenSum cs:Nat):Int) == 0)=false by simpa using e2];rfl
 ·have e1:k=0:=by assumption
  have e2:k+((lenSum cs:Nat):Int)=0:=by assumption
  refine hret _ _ _ _ _ _ ?_ (by assumption) (by assumption) (by assumption) (by assumption) (by assumption)
  unfold onlyws
  rw [show (k == 0)=true by simp [e1],show (k+((lenSum cs:Nat):Int) == 0)=true by simpa using e2,show (k+((lenSum cs:Nat):Int) != 0)=false by simpa using e2];rfl
 ·have e1:k≠0:=by assumption
  refine hret _ _ _ _ _ _ ?_ (by assumption) (by assumption) (by assumption) (by assumption) (by assumption)
  unfold onlyws
  rw [show (k == 0)=false by simpa using e1];rfl
theorem accU_onlyws {led:List (Addr×Obj)} {g:Obj -> List (Addr×Obj)} {g2:Obj -> Obj -> List (Addr×Obj)} (B:Below A₀ base outer h₀) (F:Fr h₀ L s.heap m) (X:(KK w.params).In h₀) (T:Top p loose mean mg mb h₀) (hk:cs₀.kind=.function) (hd:dp+6 < recursionLimit) (hu:un+40 < cLine)
 (N:News h₀ L s.heap led) (U:UpdF 140 (tblO ps) led g) (U2:∀ o',UpdF 147 (tblO qs) (g o') (g2 o')) (ht:TabIs ⟨93,19,93,63⟩ ps) (ht2:TabIs ⟨96,32,96,85⟩ qs) (hg:AllBare s.gens)
 (hx:(x,subO 178 d (itemsOf cs) n)∈led) (hdd:(d,dictOf [sizeEnt w.params k tk tv] 1)∈led) (hcs:CellsIn cs led) (hfit:cs.length <= sizeLine) (hjoin:JoinOk ("":Str) (cs.map fun c=>c.a ++ c.b)=true)
 (hk0:0 <= k) (hk1:k+lenSum cs < 2 ^ 62)
 (hret:∀ (b:Bool) (h':Heap) (tk':Nat) (g':Array GenState) (ps' qs':Array Value),b=onlyws k cs -> Fr h₀ L h' m -> News h₀ L h' (g2 (tblO ps') (tblO qs')) -> TabIs ⟨93,19,93,63⟩ ps' -> TabIs ⟨96,32,96,85⟩ qs' -> AllBare g' -> Q (.bool b) { s with heap:=h',toks:=tk',gens:=g' }) :
  wpAny (model rw_rw0127_01.row.prog w) (ktrTop dp un gd cn cs₀ L a ccd cl outer) (call (.ref 167) [.ref x]) Q E s:=by
 obtain ⟨rest,m1,m2,hap1,hap2⟩:=updF_two U U2 (by decide)
 have up:∀ {b:Addr} {o:Obj},(b,o)∈led -> o.cls≠.none -> (b,o)∈rest:=fun hm ho=>by
  rcases (m1 _).mp hm with e | e | e
  ·exact absurd (by rw [(Prod.mk.inj e).2]) ho
  ·exact absurd (by rw [(Prod.mk.inj e).2]) ho
  ·exact e
 refine acc_onlyws B F X T hk hd hu (subNews N fun p hp=>(m1 p).mpr ((List.mem_cons.mp hp).imp id List.mem_cons.mp)) ht ht2 hap1 hap2 hg (up hx (by simp)) (up hdd (by simp)) (fun c hc=>⟨up (hcs c hc).1 (by simp),(hcs c hc).2⟩) hfit hjoin hk0 hk1 fun b h' tk' g' ps' qs' hb F' N' t1 t2 hg'=>?_
 exact hret b h' tk' g' ps' qs' hb F' (subNews N' fun p hp=>List.mem_cons.mpr (((m2 _ _ p).mp hp).imp id List.mem_cons.mpr)) t1 t2 hg'
end
end
theorem reg9:True:=by
 w_top off
 k_with "call ref"=>(k_extra "a";k_here;k_dflt (refine' acc_make ?B ?F ?X ?T ?hk ?hd ?hu ?N ?_;k_extra "cB";(case hu=>k_extra "hu");(case N=>k_asm);k_whole);intro x'z d'z t'z h'z tk'z F'z N'z l2z l1z;(try k_lt l1z);(try k_lt2 l2z);(try k_sweep);(try dsimp only))
 trivial
section
structure FTok where
 k1:Tok
 k2:Tok
 k3:Tok
 k4:Tok
 k5:Tok
 k6:Tok
 v1:Tok
 v2:Tok
 v3:Tok
 v4:Tok
noncomputable abbrev fmtO (P:Params) (ml:Int) (ln x:Addr) (t:FTok):Obj:=dictOf [⟨PyData.keyHash P "_maxlen",.str "_maxlen" t.k1,.int ml t.v1⟩,⟨PyData.keyHash P "_continuation_ws",.str "_continuation_ws" t.k2,.str " " t.v2⟩,⟨PyData.keyHash P "_continuation_ws_len",.str "_continuation_ws_len" t.k3,.int 1 t.v3⟩,
 ⟨PyData.keyHash P "_splitchars",.str "_splitchars" t.k4,.str " " t.v4⟩,⟨PyData.keyHash P "_lines",.str "_lines" t.k5,.ref ln⟩,⟨PyData.keyHash P "_current_line",.str "_current_line" t.k6,.ref x⟩] 6
section
variable
 {news:List (Addr×Obj)} {hl ml:Int} {t1 t2 t3 t4:Tok}
noncomputable def S_fmt_make :Prop:=∀ (B:Below A₀ base outer h₀) (F:Fr h₀ L s.heap m) (X:(KK w.params).In h₀) (T:Top p loose mean mg mb h₀) (hk:cs₀.kind=.function) (hd:dp+8 < recursionLimit) (hu:un+60 < cLine) (N:News h₀ L s.heap news) (hret:∀ (f fd ln x d:Addr) (t:FTok) (tk tv:Tok) (h':Heap) (tk':Nat),Fr h₀ L h' m -> News h₀ L h' ((x,subO 178 d (itemsOf []) 0)::(d,dictOf [sizeEnt w.params hl tk tv] 1)::(ln,W.listOf #[] 0)::(f,instObj 94 fd)::(fd,fmtO w.params ml ln x t)::news) →
   @LT.lt Nat _ fd f -> @LT.lt Nat _ f ln -> @LT.lt Nat _ ln d -> @LT.lt Nat _ d x -> (∀ p∈news,p.1 < fd) -> Q (.ref f) { s with heap:=h',toks:=tk' }),wpAny (model rw_rw0127_01.row.prog w) (ktrTop dp un gd cn cs₀ L a ccd cl outer) (call (.ref 94) [.int hl t1,.int ml t2,.str (" ":Str) t3,.str (" ":Str) t4]) Q E s
namespace e_fmt_make
noncomputable abbrev Sd:=fun z:((((_×_×_)×(_×_)×_×_)×((_×_)×_×_)×(_×_)×_×_)×((_×_×_)×(_×_)×_×_)×((_×_)×_×_)×(_×_)×_×_)=>@S_fmt_make z.1.1.1.1 z.1.1.1.2.1 z.1.1.1.2.2 z.1.1.2.1.1 z.1.1.2.1.2 z.1.1.2.2.1 z.1.1.2.2.2 z.1.2.1.1.1 z.1.2.1.1.2 z.1.2.1.2.1 z.1.2.1.2.2 z.1.2.2.1.1 z.1.2.2.1.2 z.1.2.2.2.1 z.1.2.2.2.2 z.2.1.1.1 z.2.1.1.2.1 z.2.1.1.2.2 z.2.1.2.1.1 z.2.1.2.1.2 z.2.1.2.2.1 z.2.1.2.2.2 z.2.2.1.1.1 z.2.2.1.1.2 z.2.2.1.2.1 z.2.2.1.2.2 z.2.2.2.1.1 z.2.2.2.1.2 z.2.2.2.2.1 z.2.2.2.2.2
@[irreducible] def κ:=pick (by k_extra "ne") Sd
theorem core:Sd κ:=by
 unfold Sd S_fmt_make
 intro B F X T hk hd hu N hret;revert X;k_fill;intro X;(refine' call_cls ?k1 ?k2 ?k3 ?k4 ?k5 ?k6 ?_;(case k1=>k_asm);(case k2=>k_asm);(case k3=>k_asm);(case k4=>k_is);(case k5=>k_is);(case k6=>k_is);k_whole;intro x' d' h' F' N' l1 l2;(have l3:=l1);(try k_lt l1);(try k_lt2 l2);(try k_sweep))
 (k_extra "eD";intro g' L' h' FG' F' N' B' X' T';k_extra "tl")
 k_steps;refine hret _ _ _ _ _ ⟨_,_,_,_,_,_,_,_,_,_⟩ _ _ _ _ (by assumption) (by assumption) (by omega) (by omega) (by omega) (by omega) (by assumption)
end e_fmt_make
theorem fmt_make :@S_fmt_make w mean mg mb p loose dp un gd cn cs₀ a ccd cl outer A₀ base h₀ L m s Q E news hl ml t1 t2 t3 t4:=@pick_all _ _ e_fmt_make.Sd (by with_unfolding_all exact e_fmt_make.core) ((((_,_,_),(_,_),_,_),((_,_),_,_),(_,_),_,_),((_,_,_),(_,_),_,_),((_,_),_,_),(_,_),_,_)
end
end
theorem reg10:True:=by
 w_top off
 k_with "call ref"=>(k_extra "a";k_here;k_dflt (refine' accU_onlyws ?B ?F ?X ?T ?hk ?hd ?hu ?N ?U ?U2 ?ht ?ht2 ?hg ?hx ?hdd ?hcs ?hf ?hj ?h0 ?h1 ?_;k_extra "cB";(case hu=>k_extra "hu");(case N=>k_asm);(case U=>k_updF);(case U2=>intro o9z;k_updF);(case ht=>assumption);(case ht2=>assumption);(case hg=>assumption);(case hx=>k_mem);(case hdd=>k_mem);(case hcs=>first | assumption | exact cells_one (by assumption) (by assumption) (by k_mem) | exact cells_snoc (by assumption) (by assumption) (by assumption) (by k_mem) (by first | w_head | (intro pz hpz;simp only [List.mem_cons];grind)) | exact cells_up (by assumption) (by intro pz hpz;simp only [List.mem_cons] at hpz ⊢;grind));(case hf=>first | assumption | (simp only [sizeLine_eq,List.length_append,List.length_cons,List.length_nil] at *;omega));(case hj=>first | assumption | solve_by_elim);(case h0=>first | assumption | omega);(case h1=>first | assumption | omega);k_whole);intro b'z h'z tk'z g'z ps'z qs'z hb'z F'z N'z ht'z ht2'z hg'z;(try (have e9z:=hb'z.trans (by solve_by_elim:_=false);subst e9z));(try dsimp only at N'z);(try k_sweep);(try dsimp only))
 k_with "call builtin:list.append"=>(k_extra "a";k_here;k_dflt (refine' lst_append ?F ?N ?U ?z ?_;(case F=>k_asm);(case N=>k_asm);(case U=>k_updF);(case z=>first | assumption | omega);k_whole);intro h'z F'z N'z;(try dsimp only at N'z);(try k_sweep);(try dsimp only))
 k_with "compareOp NotEq ref ref"=>(k_extra "a";k_here;k_dflt (refine' ne_pair_true ?N ?ma ?mb ?hu ?o1 ?o2 ?o3 ?o4 ?hne ?_;(case N=>k_asm);(case ma=>k_mem);(case mb=>k_mem);(case hu=>ktr_units);(case o1=>first | assumption | decide +kernel);(case o2=>first | assumption | decide +kernel);(case o3=>first | assumption | decide +kernel);(case o4=>first | assumption | decide +kernel);(case hne=>assumption);k_whole))
 k_with "eval Call Attribute"=>(k_extra "a";k_here;(with_reducible show wpAny _ _ (eval (Expr.Call (Expr.Attribute _ _ _) [Expr.Starred _ _] [] _) _) _ _ _);k_dflt (refine starMethod ?_))
 k_with "getAttr ref"=>(k_extra "a";k_here;k_dflt (refine' acc_bound (C:=178) ?F ?X ?N ?I ?g0 ?g1 ?g2 ?g3 ?g4 ?g5 ?g6 ?g7 ?g8 ?g9 ?_;(case F=>k_asm);(case X=>k_asm);(case N=>k_asm);(case I=>k_inst);(case g0=>k_is);(case g1=>k_is);(case g2=>k_is);(case g3=>k_is);(case g4=>k_is);(case g5=>k_is);(case g6=>k_is);(case g7=>k_is);(case g8=>decide +kernel);(case g9=>k_get);k_whole);intro q'z h'z F'z N'z l1z;(try k_lt l1z);(try k_sweep);(try dsimp only))
 k_with "callWith ref"=>(k_extra "a";k_here;(with_reducible show wpAny _ _ (callWith _ (Value.ref _) _ (backTo _ (starEach [Expr.Starred _ _] _)) []) _ _ _);k_dflt (refine' callWith_SM ?k1 ?k2 ?k3 ?k4 ?_;(case k1=>k_asm);(case k2=>k_asm);(case k3=>k_mem);(case k4=>k_is);k_whole))
 k_with "call ref"=>(k_extra "a";k_here;k_dflt (refine' call_meth ?k1 ?k2 ?_;(case k1=>k_asm);(case k2=>k_mem);refine' accU_pushC ?B ?F ?X ?T ?hk ?hd ?hu ?N ?U ?hdd ?hsz ?_;k_extra "cB";(case hu=>k_extra "hu");(case N=>k_asm);(case U=>k_updF);(case hdd=>k_mem);(case hsz=>first | assumption | omega);k_whole);intro c'z h'z tk'z ea'z eb'z el'z F'z N'z l1z;(try dsimp only at N'z);(try k_lt l1z);(try k_sweep);(try dsimp only))
 trivial
section
theorem drop3join {h₀ h:Heap} {L ln:Addr} {cs:List Cell} {c c':Cell} {ls:List (Str×Tok)} {tl:Tok} {nl:Nat} {a1 a2 a3 b1 b2:Addr×Obj} {r:List (Addr×Obj)} (ha:c'.a=c.a) (hb:c'.b=c.b)
  (N:News h₀ L h (a1::a2::a3::b1::b2::(ln,W.listOf (strValues (ls ++ [(Txt.join ("":Str) ((cs ++ [c']).map fun c=>c.a ++ c.b),tl)])).toArray nl)::r)) :
  News h₀ L h (b1::b2::(ln,W.listOf (strValues (ls ++ [(Txt.join ("":Str) ((cs ++ [c]).map fun c=>c.a ++ c.b),tl)])).toArray nl)::r):=by
 have e:((cs ++ [c']).map fun c=>c.a ++ c.b)=((cs ++ [c]).map fun c=>c.a ++ c.b):=by simp [ha,hb]
 rw [e] at N
 exact fun p hp=>N p (.tail _ (.tail _ (.tail _ hp)))
section
variable
 {rest:List (Addr×Obj)} {f fd ln x d:Addr} {cs:List Cell} {c:Cell} {n nl:Nat} {k ml:Int} {tk tv:Tok} {t:FTok} {ps qs:Array Value} {ls:List (Str×Tok)}
noncomputable def S_newline_some :Prop:=∀ (B:Below A₀ base outer h₀) (F:Fr h₀ L s.heap m) (X:(KK w.params).In h₀) (T:Top p loose mean mg mb h₀) (hk:cs₀.kind=.function) (hd:dp+10 < recursionLimit) (hu:un+80 < cLine) (N:News h₀ L s.heap ((x,subO 178 d (itemsOf (cs ++ [c])) n)::(d,dictOf [sizeEnt w.params k tk tv] 1)::(ln,W.listOf (strValues ls).toArray nl)::(140,tblO ps)::(147,tblO qs)::rest)) (h1:@LT.lt Nat _ d x) (h2:@LT.lt Nat _ ln d) (h3:@LT.lt Nat _ 148 ln) (a1:∀ q∈rest,q.1≠x) (a2:∀ q∈rest,q.1≠d) (a3:∀ q∈rest,q.1≠ln) (a4:∀ q∈rest,q.1≠140) (a5:∀ q∈rest,q.1≠147) (ht:TabIs ⟨93,19,93,63⟩ ps) (ht2:TabIs ⟨96,32,96,85⟩ qs) (hg:AllBare s.gens) (hf:(f,instObj 94 fd)∈rest) (hfd:(fd,fmtO w.params ml ln x t)∈rest) (hcs:CellsIn (cs ++ [c]) rest) (hsz:(cs ++ [c]).length <= 1000) (hls:ls.length <= 1000) (hk0:0 <= k) (hk1:k+(lenSum cs+(c.a.length+c.b.length):Nat) < 2 ^ 62) (hca:c.a=(" ":Str)) (hcb:c.b≠("":Str)) (hjoin:∀ c':Cell,c'.a=c.a -> c'.b=c.b -> JoinOk ("":Str) ((cs ++ [c']).map fun c=>c.a ++ c.b)=true) (hsa:PyData.strOk c.a=true) (hsb:PyData.strOk c.b=true) (how:∀ c':Cell,c'.a=c.a -> c'.b=c.b -> onlyws k (cs ++ [c'])=false) (hret:∀ (n' nl':Nat) (t1 t2 tl:Tok) (h':Heap) (tk':Nat) (g':Array GenState) (ps' qs':Array Value),Fr h₀ L h' m -> News h₀ L h' ((x,subO 178 d (itemsOf []) n')::(d,dictOf [sizeEnt w.params 0 t1 t2] 1) ::
   (ln,W.listOf (strValues (ls ++ [(Txt.join ("":Str) ((cs ++ [c]).map fun c=>c.a ++ c.b),tl)])).toArray nl')::(140,tblO ps')::(147,tblO qs')::rest) -> TabIs ⟨93,19,93,63⟩ ps' -> TabIs ⟨96,32,96,85⟩ qs' -> AllBare g' -> Q .none { s with heap:=h',toks:=tk',gens:=g' }),wpAny (model rw_rw0127_01.row.prog w) (ktrTop dp un gd cn cs₀ L a ccd cl outer) (call (.ref 56) [.ref f]) Q E s
namespace e_newline_some
noncomputable abbrev Sd:=fun z:(((((_×_)×_×_×_)×(_×_)×_×_×_)×((_×_)×_×_×_)×(_×_)×_×_×_)×(((_×_)×_×_×_)×(_×_)×_×_×_)×((_×_)×_×_×_)×(_×_×_)×_×_×_)=>@S_newline_some z.1.1.1.1.1 z.1.1.1.1.2 z.1.1.1.2.1 z.1.1.1.2.2.1 z.1.1.1.2.2.2 z.1.1.2.1.1 z.1.1.2.1.2 z.1.1.2.2.1 z.1.1.2.2.2.1 z.1.1.2.2.2.2 z.1.2.1.1.1 z.1.2.1.1.2 z.1.2.1.2.1 z.1.2.1.2.2.1 z.1.2.1.2.2.2 z.1.2.2.1.1 z.1.2.2.1.2 z.1.2.2.2.1 z.1.2.2.2.2.1 z.1.2.2.2.2.2 z.2.1.1.1.1 z.2.1.1.1.2 z.2.1.1.2.1 z.2.1.1.2.2.1 z.2.1.1.2.2.2 z.2.1.2.1.1 z.2.1.2.1.2 z.2.1.2.2.1 z.2.1.2.2.2.1 z.2.1.2.2.2.2 z.2.2.1.1.1 z.2.2.1.1.2 z.2.2.1.2.1 z.2.2.1.2.2.1 z.2.2.1.2.2.2 z.2.2.2.1.1 z.2.2.2.1.2.1 z.2.2.2.1.2.2 z.2.2.2.2.1 z.2.2.2.2.2.1 z.2.2.2.2.2.2
@[irreducible] def κ:=pick (by k_extra "ne") Sd
def w_:=κ.1.1.1.1.1
def mean_:=κ.1.1.1.1.2
def mg_:=κ.1.1.1.2.1
def mb_:=κ.1.1.1.2.2.1
def loose_:=κ.1.1.2.1.1
def dp_:=κ.1.1.2.1.2
def un_:=κ.1.1.2.2.1
def gd_:=κ.1.1.2.2.2.1
def cn_:=κ.1.1.2.2.2.2
def cs₀_:=κ.1.2.1.1.1
def a_:=κ.1.2.1.1.2
def ccd_:=κ.1.2.1.2.1
def cl_:=κ.1.2.1.2.2.1
def outer_:=κ.1.2.1.2.2.2
def A₀_:=κ.1.2.2.1.1
def base_:=κ.1.2.2.1.2
def h₀_:=κ.1.2.2.2.1
def L_:=κ.1.2.2.2.2.1
def m_:=κ.1.2.2.2.2.2
def s_:=κ.2.1.1.1.1
def Q_:=κ.2.1.1.1.2
def E_:=κ.2.1.1.2.1
def rest_:=κ.2.1.1.2.2.1
def f_:=κ.2.1.1.2.2.2
def fd_:=κ.2.1.2.1.1
def ln_:=κ.2.1.2.1.2
def x_:=κ.2.1.2.2.1
def d_:=κ.2.1.2.2.2.1
def cs_:=κ.2.1.2.2.2.2
def c_:=κ.2.2.1.1.1
def n_:=κ.2.2.1.1.2
def nl_:=κ.2.2.1.2.1
def k_:=κ.2.2.1.2.2.1
def ml_:=κ.2.2.1.2.2.2
def tk_:=κ.2.2.2.1.1
def tv_:=κ.2.2.2.1.2.1
def t_:=κ.2.2.2.1.2.2
def ps_:=κ.2.2.2.2.1
def qs_:=κ.2.2.2.2.2.1
def ls_:=κ.2.2.2.2.2.2
noncomputable abbrev Sc:=@S_newline_some w_ mean_ mg_ mb_ κ.1.1.1.2.2.2 loose_ dp_ un_ gd_ cn_ cs₀_ a_ ccd_ cl_ outer_ A₀_ base_ h₀_ L_ m_ s_ Q_ E_ rest_ f_ fd_ ln_ x_ d_ cs_ c_ n_ nl_ k_ ml_ tk_ tv_ t_ ps_ qs_ ls_
noncomputable def seg:PSigma fun P:Heap -> Addr -> Heap -> Prop=>(∀ g L h,P g L h) -> Sc:=⟨_,by
 intro hP;unfold Sc S_newline_some
 intro B F X T hk hd hu N h1 h2 h3 a1 a2 a3 a4 a5 ht ht2 hg hf hfd hcs hsz hls hk0 hk1 hca hcb hjoin hsa hsb how hret;revert X;k_fill;intro X;refine wpAny_call ?_;(k_extra "eD";intro g' L' h' FG' F' N' B' X' T';revert B F T hk hd hu N h1 h2 h3 a1 a2 a3 a4 a5 ht ht2 hg hf hfd hcs hsz hls hk0 hk1 hca hcb hjoin hsa hsb how hret X FG' F' N' B' X' T';exact hP g' L' h')⟩
@[irreducible] def σ:=pick (inferInstance:Nonempty (Heap×Addr×Heap)) fun d=>seg.1 d.1 d.2.1 d.2.2
def ge_:=σ.1
def Le_:=σ.2.1
def he_:=σ.2.2
theorem body:seg.1 ge_ Le_ he_:=by
 intro B F T hk hd hu N h1 h2 h3 a1 a2 a3 a4 a5 ht ht2 hg hf hfd hcs hsz hls hk0 hk1 hca hcb hjoin hsa hsb how hret X FG' F' N' B' X' T';(k_extra "tl")
 have hsz':cs_.length <= 1000:=by simp at hsz;omega
 have hla:c_.a.length=1:=by rw [hca];rfl
 have hne:¬ (c_.a=(" ":Str) /\ c_.b=("":Str)):=fun z=>hcb z.2
 have hcm:=(hcs c_ (by simp)).1
 k_steps;exact hret _ _ _ _ _ _ _ _ _ _ (by assumption) (drop3join (by assumption) (by assumption) (by assumption)) (by assumption) (by assumption) (by assumption)
theorem core:Sc:=seg.2 fun g L h=>pick_all (P:=fun d:Heap×Addr×Heap=>seg.1 d.1 d.2.1 d.2.2) (by with_unfolding_all exact body) (g,L,h)
end e_newline_some
theorem newline_some :@S_newline_some w mean mg mb p loose dp un gd cn cs₀ a ccd cl outer A₀ base h₀ L m s Q E rest f fd ln x d cs c n nl k ml tk tv t ps qs ls:=@pick_all _ _ e_newline_some.Sd (by with_unfolding_all exact e_newline_some.core) (((((_,_),_,_,_),(_,_),_,_,_),((_,_),_,_,_),(_,_),_,_,_),(((_,_),_,_,_),(_,_),_,_,_),((_,_),_,_,_),(_,_,_),_,_,_)
end
end
theorem reg11:True:=by
 w_top off
 k_with "compareOp NotEq ref ref"=>(k_extra "a";k_here;k_dflt (refine' ne_pair_true ?N ?ma ?mb ?hu ?o1 ?o2 ?o3 ?o4 ?hne ?_;(case N=>k_asm);(case ma=>k_mem);(case mb=>k_mem);(case hu=>ktr_units);(case o1=>first | assumption | decide +kernel);(case o2=>first | assumption | decide +kernel);(case o3=>first | assumption | decide +kernel);(case o4=>first | assumption | decide +kernel);(case hne=>first | assumption | decide +kernel);k_whole))
 trivial
section
theorem drop4e {h₀ h:Heap} {L ln:Addr} {c':Cell} {ls:List (Str×Tok)} {tl:Tok} {nl:Nat} {a1 a2 a3 a4 b1 b2:Addr×Obj} {r:List (Addr×Obj)} (ha:c'.a=("":Str)) (hb:c'.b=("":Str))
  (N:News h₀ L h (a1::a2::a3::a4::b1::b2::(ln,W.listOf (strValues (ls ++ [(Txt.join ("":Str) ([c'].map fun c=>c.a ++ c.b),tl)])).toArray nl)::r)) :
  News h₀ L h (b1::b2::(ln,W.listOf (strValues (ls ++ [(("":Str),tl)])).toArray nl)::r):=by
 have e:Txt.join ("":Str) ([c'].map fun c=>c.a ++ c.b)=("":Str):=by
  rw [List.map_cons,List.map_nil,ha,hb];decide +kernel
 rw [e] at N
 exact fun p hp=>N p (.tail _ (.tail _ (.tail _ (.tail _ hp))))
theorem drop4 {h₀ h:Heap} {L:Addr} {a1 a2 a3 a4:Addr×Obj} {r:List (Addr×Obj)} (N:News h₀ L h (a1::a2::a3::a4::r)):News h₀ L h r:=fun p hp=>N p (.tail _ (.tail _ (.tail _ (.tail _ hp))))
section
variable
 {rest:List (Addr×Obj)} {f fd ln x d:Addr} {n nl:Nat} {k ml:Int} {tk tv:Tok} {t:FTok} {ps qs:Array Value} {ls:List (Str×Tok)}
noncomputable def S_newline_nil :Prop:=∀ (B:Below A₀ base outer h₀) (F:Fr h₀ L s.heap m) (X:(KK w.params).In h₀) (T:Top p loose mean mg mb h₀) (hk:cs₀.kind=.function) (hd:dp+10 < recursionLimit) (hu:un+80 < cLine) (N:News h₀ L s.heap ((x,subO 178 d (itemsOf []) n)::(d,dictOf [sizeEnt w.params k tk tv] 1)::(ln,W.listOf (strValues ls).toArray nl)::(140,tblO ps)::(147,tblO qs)::rest)) (h1:@LT.lt Nat _ d x) (h2:@LT.lt Nat _ ln d) (h3:@LT.lt Nat _ 148 ln) (a1:∀ q∈rest,q.1≠x) (a2:∀ q∈rest,q.1≠d) (a3:∀ q∈rest,q.1≠ln) (a4:∀ q∈rest,q.1≠140) (a5:∀ q∈rest,q.1≠147) (ht:TabIs ⟨93,19,93,63⟩ ps) (ht2:TabIs ⟨96,32,96,85⟩ qs) (hg:AllBare s.gens) (hf:(f,instObj 94 fd)∈rest) (hfd:(fd,fmtO w.params ml ln x t)∈rest) (hls:ls.length <= 1000) (hk0:0 <= k) (hk1:k < 2 ^ 61) (hretP:0 < k -> ∀ (n' nl':Nat) (t1 t2 tl:Tok) (h':Heap) (tk':Nat) (g':Array GenState) (ps' qs':Array Value),Fr h₀ L h' m -> News h₀ L h' ((x,subO 178 d (itemsOf []) n')::(d,dictOf [sizeEnt w.params 0 t1 t2] 1) ::
   (ln,W.listOf (strValues (ls ++ [(("":Str),tl)])).toArray nl')::(140,tblO ps')::(147,tblO qs')::rest) -> TabIs ⟨93,19,93,63⟩ ps' -> TabIs ⟨96,32,96,85⟩ qs' -> AllBare g' -> Q .none { s with heap:=h',toks:=tk',gens:=g' }) (hretZ:k=0 -> ∀ (n':Nat) (t1 t2:Tok) (h':Heap) (tk':Nat) (g':Array GenState) (ps' qs':Array Value),Fr h₀ L h' m -> News h₀ L h' ((x,subO 178 d (itemsOf []) n')::(d,dictOf [sizeEnt w.params 0 t1 t2] 1) ::
   (ln,W.listOf (strValues ls).toArray nl)::(140,tblO ps')::(147,tblO qs')::rest) -> TabIs ⟨93,19,93,63⟩ ps' -> TabIs ⟨96,32,96,85⟩ qs' -> AllBare g' -> Q .none { s with heap:=h',toks:=tk',gens:=g' }),wpAny (model rw_rw0127_01.row.prog w) (ktrTop dp un gd cn cs₀ L a ccd cl outer) (call (.ref 56) [.ref f]) Q E s
namespace e_newline_nil
noncomputable abbrev Sd:=fun z:(((((_×_)×_×_)×(_×_)×_×_×_)×((_×_)×_×_×_)×(_×_)×_×_×_)×(((_×_)×_×_×_)×(_×_)×_×_×_)×((_×_)×_×_×_)×(_×_)×_×_×_)=>@S_newline_nil z.1.1.1.1.1 z.1.1.1.1.2 z.1.1.1.2.1 z.1.1.1.2.2 z.1.1.2.1.1 z.1.1.2.1.2 z.1.1.2.2.1 z.1.1.2.2.2.1 z.1.1.2.2.2.2 z.1.2.1.1.1 z.1.2.1.1.2 z.1.2.1.2.1 z.1.2.1.2.2.1 z.1.2.1.2.2.2 z.1.2.2.1.1 z.1.2.2.1.2 z.1.2.2.2.1 z.1.2.2.2.2.1 z.1.2.2.2.2.2 z.2.1.1.1.1 z.2.1.1.1.2 z.2.1.1.2.1 z.2.1.1.2.2.1 z.2.1.1.2.2.2 z.2.1.2.1.1 z.2.1.2.1.2 z.2.1.2.2.1 z.2.1.2.2.2.1 z.2.1.2.2.2.2 z.2.2.1.1.1 z.2.2.1.1.2 z.2.2.1.2.1 z.2.2.1.2.2.1 z.2.2.1.2.2.2 z.2.2.2.1.1 z.2.2.2.1.2 z.2.2.2.2.1 z.2.2.2.2.2.1 z.2.2.2.2.2.2
@[irreducible] def κ:=pick (by k_extra "ne") Sd
def w_:=κ.1.1.1.1.1
def mean_:=κ.1.1.1.1.2
def mg_:=κ.1.1.1.2.1
def mb_:=κ.1.1.1.2.2
def loose_:=κ.1.1.2.1.2
def dp_:=κ.1.1.2.2.1
def un_:=κ.1.1.2.2.2.1
def gd_:=κ.1.1.2.2.2.2
def cn_:=κ.1.2.1.1.1
def cs₀_:=κ.1.2.1.1.2
def a_:=κ.1.2.1.2.1
def ccd_:=κ.1.2.1.2.2.1
def cl_:=κ.1.2.1.2.2.2
def outer_:=κ.1.2.2.1.1
def A₀_:=κ.1.2.2.1.2
def base_:=κ.1.2.2.2.1
def h₀_:=κ.1.2.2.2.2.1
def L_:=κ.1.2.2.2.2.2
def m_:=κ.2.1.1.1.1
def s_:=κ.2.1.1.1.2
def Q_:=κ.2.1.1.2.1
def E_:=κ.2.1.1.2.2.1
def rest_:=κ.2.1.1.2.2.2
def f_:=κ.2.1.2.1.1
def fd_:=κ.2.1.2.1.2
def ln_:=κ.2.1.2.2.1
def x_:=κ.2.1.2.2.2.1
def d_:=κ.2.1.2.2.2.2
def n_:=κ.2.2.1.1.1
def nl_:=κ.2.2.1.1.2
def k_:=κ.2.2.1.2.1
def ml_:=κ.2.2.1.2.2.1
def tk_:=κ.2.2.1.2.2.2
def tv_:=κ.2.2.2.1.1
def t_:=κ.2.2.2.1.2
def ps_:=κ.2.2.2.2.1
def qs_:=κ.2.2.2.2.2.1
def ls_:=κ.2.2.2.2.2.2
noncomputable abbrev Sc:=@S_newline_nil w_ mean_ mg_ mb_ κ.1.1.2.1.1 loose_ dp_ un_ gd_ cn_ cs₀_ a_ ccd_ cl_ outer_ A₀_ base_ h₀_ L_ m_ s_ Q_ E_ rest_ f_ fd_ ln_ x_ d_ n_ nl_ k_ ml_ tk_ tv_ t_ ps_ qs_ ls_
noncomputable def seg:PSigma fun P:Heap -> Addr -> Heap -> Prop=>(∀ g L h,P g L h) -> Sc:=⟨_,by
 intro hP;unfold Sc S_newline_nil
 intro B F X T hk hd hu N h1 h2 h3 a1 a2 a3 a4 a5 ht ht2 hg hf hfd hls hk0 hk1 hretP hretZ;revert X;k_fill;intro X;refine wpAny_call ?_;(k_extra "eD";intro g' L' h' FG' F' N' B' X' T';revert B F T hk hd hu N h1 h2 h3 a1 a2 a3 a4 a5 ht ht2 hg hf hfd hls hk0 hk1 hretP hretZ X FG' F' N' B' X' T';exact hP g' L' h')⟩
@[irreducible] def σ:=pick (inferInstance:Nonempty (Heap×Addr×Heap)) fun d=>seg.1 d.1 d.2.1 d.2.2
def ge_:=σ.1
def Le_:=σ.2.1
def he_:=σ.2.2
theorem body:seg.1 ge_ Le_ he_:=by
 intro B F T hk hd hu N h1 h2 h3 a1 a2 a3 a4 a5 ht ht2 hg hf hfd hls hk0 hk1 hretP hretZ X FG' F' N' B' X' T';(k_extra "tl")
 have hjoin:∀ c':Cell,c'.a=("":Str) -> c'.b=("":Str) -> JoinOk ("":Str) ((([]:List Cell) ++ [c']).map fun c=>c.a ++ c.b)=true:=fun c' ha hb=>by
  simp only [List.nil_append,List.map_cons,List.map_nil,ha,hb];decide +kernel
 k_steps;k_dflt (refine' call_meth ?k1 ?k2 ?_;(case k1=>k_asm);(case k2=>exact List.Mem.head _))
 k_dflt (refine' accU_pushC (cs:=[]) ?B ?F ?X ?T ?hk ?hd ?hu ?N ?U ?hdd ?hsz ?_;k_extra "cB";(case hu=>k_extra "hu");(case N=>k_asm);(case U=>k_updF);(case hdd=>k_mem);(case hsz=>exact Nat.zero_le _);k_whole)
 intro c' h' tk' ea' eb' el' F' N' l1;(try dsimp only at N');(try k_lt l1);(try k_sweep);(try dsimp only)
 have el2:lenSum ([] ++ [c'])=0:=by rw [el'];rfl
 have hcsz:([] ++ [c']:List Cell).length <= 1000:=by simp
 rcases (by omega:0 < k_ \/ k_=0) with hkp | hkp
 ·have how:∀ c':Cell,c'.a=("":Str) -> c'.b=("":Str) -> onlyws k_ ([] ++ [c'])=false:=fun c' ha hb=>by
   unfold onlyws
   rw [show (k_ == 0)=false from beq_eq_false_iff_ne.mpr (by omega)];rfl
  k_steps;exact hretP hkp _ _ _ _ _ _ _ _ _ _ (by assumption) (drop4e ea' eb' (by assumption)) (by assumption) (by assumption) (by assumption)
 ·rw [hkp] at N'
  k_steps;exact hretZ hkp _ _ _ _ _ _ _ _ (by assumption) (drop4 (by assumption)) (by assumption) (by assumption) (by assumption)
theorem core:Sc:=seg.2 fun g L h=>pick_all (P:=fun d:Heap×Addr×Heap=>seg.1 d.1 d.2.1 d.2.2) (by with_unfolding_all exact body) (g,L,h)
end e_newline_nil
theorem newline_nil :@S_newline_nil w mean mg mb p loose dp un gd cn cs₀ a ccd cl outer A₀ base h₀ L m s Q E rest f fd ln x d n nl k ml tk tv t ps qs ls:=@pick_all _ _ e_newline_nil.Sd (by with_unfolding_all exact e_newline_nil.core) (((((_,_),_,_),(_,_),_,_,_),((_,_),_,_,_),(_,_),_,_,_),(((_,_),_,_,_),(_,_),_,_,_),((_,_),_,_,_),(_,_),_,_,_)
end
end
theorem reg12:True:=by
 w_top off
 trivial
section
noncomputable def b1Ints:List Int:=[65024,65025,65026,65027,65028,65029,6150,65030,65031,65032,65033,6155,6156,6157,8203,8204,8205,65034,65035,65036,65037,65038,65039,173,847,8288,65279]
noncomputable def b1Has (c:Int):Bool:=b1Ints.contains c
noncomputable def setEs:Obj -> Array (Int×Value)
 | ⟨_,_,.set es _ _,_⟩=>es
 | _=>#[]
theorem b1_elems (P:Params):((setEs (h190 P)).toList.all fun e=>match e.2 with | .int k _=>decide (e.1=hashInt k) && e.2.scannable | _=>false)=true:=by kernel_rfl
theorem b1_ints (P:Params):((setEs (h190 P)).toList.map fun e=>match e.2 with | .int k _=>k | _=>0)=b1Ints:=by kernel_rfl
theorem in_b1set {prog:Program} {w:World} {A:Around} {s:Shared} {c:Int} {t:Tok} {Q:Value -> Shared -> Prop} {E:Value -> Shared -> Prop} (X:(KK w.params).In s.heap) (h:Q (.bool (b1Has c)) { s with toks:=s.toks+1 }) :
  wpAny (model prog w) A (compareOp .In (.int c t) (.ref 190)) Q E s:=by
 have hall:=List.all_eq_true.mp (b1_elems w.params)
 have hel:∀ e∈(setEs (h190 w.params)).toList,∃ k t,e.2=.int k t /\ e.1=hashInt k /\ e.2.scannable=true:=fun e he=>by
  have:=hall e he
  split at this
  ·rename_i k t hk
   simp only [Bool.and_eq_true,decide_eq_true_eq] at this
   exact ⟨k,t,hk,this.1,this.2⟩
  ·cases this
 refine wpAny_inSet_of (knd:=intKind prog w) (S:=b1Has) (n:=27) (intKind_is prog w c t) rfl ⟨h190 w.params,setEs (h190 w.params),29,_,X 190 _ (by kernel_rfl),⟨rfl,rfl,rfl⟩,rfl,fun e he=>?_,fun k=>?_,Nat.le_of_ble_eq_true (by kernel_rfl),by kernel_rfl,by kernel_rfl⟩ h
 ·obtain ⟨k,t,h1,h2,h3⟩:=hel e he
  exact ⟨⟨k,by rw [h1];exact intKind_is prog w k t,h2⟩,h3⟩
 ·unfold b1Has
  rw [List.contains_iff_mem,<- b1_ints w.params,List.mem_map]
  constructor
  ·rintro ⟨e,he,rfl⟩
   obtain ⟨k,t,h1,h2,h3⟩:=hel e he
   exact ⟨e,he,by rw [h1];exact intKind_is prog w k t⟩
  ·rintro ⟨e,he,hk⟩
   obtain ⟨k',t,h1,h2,h3⟩:=hel e he
   refine ⟨e,he,?_⟩
   rw [h1] at hk ⊢
   have:Value.isInt k (.int k' t)=true:=hk
   simpa [Value.isInt] using this
noncomputable def b3F (k:Int):Option Str:=(b3Src.find? fun q=>q.1 == k).map (·.2)
theorem find_ents (st:Nat) (k:Int):∀ (tk:Nat) (qs:List (Int×Str)),match (qs.find? fun q=>q.1 == k) with
  | some q=>∃ t e,(entsBy st tk qs).find? (fun e=>Value.isInt k e.key)=some e /\ e.val=.str q.2 t
  | none=>(entsBy st tk qs).find? (fun e=>Value.isInt k e.key)=none
 | _,[]=>rfl
 | tk,q::qs=>by
  have ih:=find_ents st k (tk+st) qs
  rw [entsBy_c,List.find?_cons,List.find?_cons]
  by_cases h:(q.1 == k)=true
  ·have h':Value.isInt k (entry3 tk q).key=true:=h
   rw [h]
   dsimp only
   rw [h']
   exact ⟨tk+1,_,rfl,rfl⟩
  ·have h0:(q.1 == k)=false:=by simpa using h
   have h':Value.isInt k (entry3 tk q).key=false:=h0
   rw [h0]
   dsimp only
   rw [h']
   exact ih
theorem b3_get (k:Int):match b3F k with
  | some x=>∃ t,findBy Value.isInt b3Ents.toArray k=some (.str x t)
  | none=>findBy Value.isInt b3Ents.toArray k=none:=by
 have e:b3Src=b3Src.take 646 ++ b3Src.drop 646:=(List.take_append_drop _ _).symm
 have h1:=find_ents 3 k 473 (b3Src.take 646)
 have h2:=find_ents 2 k 2411 (b3Src.drop 646)
 unfold b3F findBy b3Ents
 rw [List.find?_toArray,List.find?_append,e,List.find?_append,<- e]
 cases hq:(b3Src.take 646).find? (fun q=>q.1 == k) with
 | some q =>
  rw [hq] at h1
  obtain ⟨t,e1,a,b⟩:=h1
  rw [a]
  exact ⟨t,by simp [b]⟩
 | none =>
  rw [hq] at h1
  rw [h1]
  cases hq2:(b3Src.drop 646).find? (fun q=>q.1 == k) with
  | some q =>
   rw [hq2] at h2
   obtain ⟨t,e1,a,b⟩:=h2
   rw [a]
   exact ⟨t,by simp [b]⟩
  | none=>rw [hq2] at h2;rw [h2];rfl
theorem b3_map {prog:Program} {w:World} {h:Heap} (X:(KK w.params).In h):h.MapOf (intKind prog w) 201 (findBy Value.isInt b3Ents.toArray):=by
 refine ⟨h201,b3Ents.toArray,b3Ents.length,X 201 _ (by kernel_rfl),⟨rfl,rfl,rfl⟩,rfl,fun e he=>?_,fun k=>rfl⟩
 have he:e∈b3Ents:=by simpa using he
 have:IntEnt e:=by
  rcases List.mem_append.mp he with he | he
  ·exact entsBy_int 3 _ _ e he
  ·exact entsBy_int 2 _ _ e he
 obtain ⟨k,t,h1,h2⟩:=this
 exact ⟨k,by rw [h1];exact intKind_is prog w k t,h2⟩
end
theorem reg13:True:=by
 w_top off
 trivial
section
theorem cells_add {cs:List Cell} {c':Cell} {rest led:List (Addr×Obj)} {sg:Str} (hc:CellsIn cs rest) (ha:c'.a=(" ":Str)) (hb:c'.b=sg) (hso:sg.length=1) (hm:(c'.T,c'.obj)∈led) (h:∀ p∈rest,p∈led):CellsIn (cs ++ [c']) led:=fun x hx=>by
 rcases List.mem_append.mp hx with hx | hx
 ·have z:=hc x hx
  exact ⟨h _ z.1,z.2⟩
 ·rw [List.mem_singleton] at hx
  subst hx;exact ⟨hm,by rw [ha];decide +kernel,by rw [hb,hso];decide⟩
theorem reg14:True:=by
 w_top off
 k_with "call ref"=>(k_extra "a";k_here;k_dflt (refine' accU_len ?B ?F ?X ?T ?hk ?hd ?hu ?N ?U ?ht ?hg ?hx ?hdd ?hcs ?_;k_extra "cB";(case hu=>k_extra "hu");(case N=>k_asm);(case U=>k_updF);(case ht=>assumption);(case hg=>assumption);(case hx=>k_mem);(case hdd=>k_mem);(case hcs=>first | assumption | exact cells_add (by assumption) (by assumption) (by assumption) (by assumption) (by k_mem) (by first | w_head | (intro pz hpz;simp only [List.mem_cons];grind)) | exact cells_one (by assumption) (by assumption) (by k_mem) | exact cells_snoc (by assumption) (by assumption) (by assumption) (by k_mem) (by first | w_head | (intro pz hpz;simp only [List.mem_cons];grind)) | exact cells_up (by assumption) (by intro pz hpz;simp only [List.mem_cons] at hpz ⊢;grind));k_whole);intro t'z h'z tk'z g'z ps'z F'z N'z ht'z hg'z;(try dsimp only at N'z);(try k_sweep);(try dsimp only))
 k_with "call ref"=>(k_extra "a";k_here;k_dflt (refine' accU_str ?B ?F ?X ?T ?hk ?hd ?hu ?N ?U ?ht ?hg ?hx ?hdd ?hcs ?hf ?hj ?_;k_extra "cB";(case hu=>k_extra "hu");(case N=>k_asm);(case U=>k_updF);(case ht=>assumption);(case hg=>assumption);(case hx=>k_mem);(case hdd=>k_mem);(case hcs=>first | assumption | exact cells_add (by assumption) (by assumption) (by assumption) (by assumption) (by k_mem) (by first | w_head | (intro pz hpz;simp only [List.mem_cons];grind)) | exact cells_one (by assumption) (by assumption) (by k_mem) | exact cells_snoc (by assumption) (by assumption) (by assumption) (by k_mem) (by first | w_head | (intro pz hpz;simp only [List.mem_cons];grind)) | exact cells_up (by assumption) (by intro pz hpz;simp only [List.mem_cons] at hpz ⊢;grind));(case hf=>first | assumption | (simp only [sizeLine_eq,List.length_append,List.length_cons,List.length_nil] at *;omega));(case hj=>first | assumption | solve_by_elim);k_whole);intro t'z h'z tk'z g'z ps'z F'z N'z ht'z hg'z;(try dsimp only at N'z);(try k_sweep);(try dsimp only))
 k_with "call ref"=>(k_extra "a";k_here;k_dflt (refine' accU_onlyws ?B ?F ?X ?T ?hk ?hd ?hu ?N ?U ?U2 ?ht ?ht2 ?hg ?hx ?hdd ?hcs ?hf ?hj ?h0 ?h1 ?_;k_extra "cB";(case hu=>k_extra "hu");(case N=>k_asm);(case U=>k_updF);(case U2=>intro o9z;k_updF);(case ht=>assumption);(case ht2=>assumption);(case hg=>assumption);(case hx=>k_mem);(case hdd=>k_mem);(case hcs=>first | assumption | exact cells_add (by assumption) (by assumption) (by assumption) (by assumption) (by k_mem) (by first | w_head | (intro pz hpz;simp only [List.mem_cons];grind)) | exact cells_one (by assumption) (by assumption) (by k_mem) | exact cells_snoc (by assumption) (by assumption) (by assumption) (by k_mem) (by first | w_head | (intro pz hpz;simp only [List.mem_cons];grind)) | exact cells_up (by assumption) (by intro pz hpz;simp only [List.mem_cons] at hpz ⊢;grind));(case hf=>first | assumption | (simp only [sizeLine_eq,List.length_append,List.length_cons,List.length_nil] at *;omega));(case hj=>first | assumption | solve_by_elim);(case h0=>first | assumption | omega);(case h1=>first | assumption | omega);k_whole);intro b'z h'z tk'z g'z ps'z qs'z hb'z F'z N'z ht'z ht2'z hg'z;(try (have e9z:=hb'z.trans (by solve_by_elim:_=false);subst e9z));(try dsimp only at N'z);(try k_sweep);(try dsimp only))
 trivial
theorem rot5 {h₀ h:Heap} {L:Addr} {a b1 b2 b3 b4 b5:Addr×Obj} {r:List (Addr×Obj)} (N:News h₀ L h (a::b1::b2::b3::b4::b5::r)):News h₀ L h (b1::b2::b3::b4::b5::a::r):=fun p hp=>N p (by revert p;w_head)
section
variable
 {rest:List (Addr×Obj)} {f fd ln x d:Addr} {cs:List Cell} {n nl:Nat} {k ml:Int} {tk tv t1 t2:Tok} {t:FTok} {ps qs:Array Value} {ls:List (Str×Tok)} {sg:Str}
variable (B:Below A₀ base outer h₀) (F:Fr h₀ L s.heap m) (X:(KK w.params).In h₀) (T:Top p loose mean mg mb h₀) (hk:cs₀.kind=.function) (hd:dp+20 < recursionLimit) (hu:un+160 < cLine)
 (N:News h₀ L s.heap ((x,subO 178 d (itemsOf cs) n)::(d,dictOf [sizeEnt w.params k tk tv] 1)::(ln,W.listOf (strValues ls).toArray nl)::(140,tblO ps)::(147,tblO qs)::rest))
 (h1:@LT.lt Nat _ d x) (h2:@LT.lt Nat _ ln d) (h3:@LT.lt Nat _ 148 ln) (a1:∀ q∈rest,q.1≠x) (a2:∀ q∈rest,q.1≠d) (a3:∀ q∈rest,q.1≠ln) (a4:∀ q∈rest,q.1≠140) (a5:∀ q∈rest,q.1≠147)
 (ht:TabIs ⟨93,19,93,63⟩ ps) (ht2:TabIs ⟨96,32,96,85⟩ qs) (hg:AllBare s.gens)
 (hf:(f,instObj 94 fd)∈rest) (hfd:(fd,fmtO w.params ml ln x t)∈rest) (hcs:CellsIn cs rest) (hsz:cs.length <= 900) (hls:ls.length <= 900) (hk0:0 <= k) (hk1:k+(lenSum cs:Nat) < 2 ^ 60) (hml:ml < 2 ^ 60)
 (hsg:sg.length=1) (hso:PyData.strOk sg=true)
include B F X T hk hd hu N h1 h2 h3 a1 a2 a3 a4 a5 ht ht2 hg hf hfd hcs hsz hls hk0 hk1 hml hsg hso
theorem chunk_fits (hfit:k+(lenSum cs:Nat)+2 <= ml)
 (hret:∀ (c:Cell) (n':Nat) (h':Heap) (tk':Nat) (g':Array GenState) (ps':Array Value),c.a=(" ":Str) -> c.b=sg -> @LT.lt Nat _ x c.T -> Fr h₀ L h' m -> News h₀ L h' ((x,subO 178 d (itemsOf (cs ++ [c])) n')::(d,dictOf [sizeEnt w.params k tk tv] 1) ::
   (ln,W.listOf (strValues ls).toArray nl)::(140,tblO ps')::(147,tblO qs)::(c.T,c.obj)::rest) -> TabIs ⟨93,19,93,63⟩ ps' -> AllBare g' -> Q .none { s with heap:=h',toks:=tk',gens:=g' }) :
  wpAny (model rw_rw0127_01.row.prog w) (ktrTop dp un gd cn cs₀ L a ccd cl outer) (call (.ref 91) [.ref f,.str (" ":Str) t1,.str sg t2]) Q E s:=by
 have hsp:(" ":Str).length=1:=rfl
 revert X;k_fill;intro X;refine wpAny_call ?_;(k_extra "eD";intro g' L' h' FG' F' N' B' X' T';k_extra "tl")
 k_steps;exact hret _ _ _ _ _ _ (by assumption) (by assumption) (by first | assumption | omega) (by assumption) (rot5 (by assumption)) (by assumption) (by assumption)
end
end
theorem reg15:True:=by
 w_top off
 k_with "exec For"=>(k_extra "a";k_extra "hg")
 trivial
section
theorem down_size {a:Int} (h:0 <= a):Builtin.Range.rangeSize a 0 (-1)=(a.toNat:Int):=by
 unfold Builtin.Range.rangeSize
 rw [if_neg (by decide)]
 simp only [Int.neg_neg,Int.ediv_one]
 split<;>omega
theorem last_item {cs:List Cell} {c:Cell}:(itemsOf (cs ++ [c]))[(((itemsOf (cs ++ [c])).size:Int) - 1).toNat]?=some (.ref c.T):=by
 have e:(((itemsOf (cs ++ [c])).size:Int) - 1).toNat=cs.length:=by rw [itemsOf_size];simp
 rw [e,itemsOf_snoc,<- itemsOf_size cs]
 simp
theorem reg16:True:=by
 w_top off
 k_with "getItem ref int"=>(k_extra "a";k_here;k_dflt (refine' sub_getItem (K:=KK _) (C:=178) ?X ?Y ?hx ?h0 ?hf ?hv ?_;(case X=>exact Frag.In.keeps (by k_asm) (Fr.keep (by k_asm)));(case Y=>exact subList_of (by kernel_rfl));(case hx=>exact News.get (by k_asm) (by k_mem));(case h0=>omega);(case hf=>omega);(case hv=>exact last_item)))
 trivial
theorem rot6 {h₀ h:Heap} {L:Addr} {z a b1 b2 b3 b4 b5:Addr×Obj} {r:List (Addr×Obj)} (N:News h₀ L h (z::a::b1::b2::b3::b4::b5::r)):News h₀ L h (b1::b2::b3::b4::b5::a::r):=fun p hp=>N p (by revert p;w_head)
section
variable
 {rest:List (Addr×Obj)} {f fd ln x d:Addr} {cs:List Cell} {n nl:Nat} {k ml:Int} {tk tv t1 t2:Tok} {t:FTok} {ps qs:Array Value} {ls:List (Str×Tok)} {sg:Str}
variable (B:Below A₀ base outer h₀) (F:Fr h₀ L s.heap m) (X:(KK w.params).In h₀) (T:Top p loose mean mg mb h₀) (hk:cs₀.kind=.function) (hd:dp+20 < recursionLimit) (hu:un+160 < cLine)
 (N:News h₀ L s.heap ((x,subO 178 d (itemsOf cs) n)::(d,dictOf [sizeEnt w.params k tk tv] 1)::(ln,W.listOf (strValues ls).toArray nl)::(140,tblO ps)::(147,tblO qs)::rest))
 (h1:@LT.lt Nat _ d x) (h2:@LT.lt Nat _ ln d) (h3:@LT.lt Nat _ 148 ln) (a1:∀ q∈rest,q.1≠x) (a2:∀ q∈rest,q.1≠d) (a3:∀ q∈rest,q.1≠ln) (a4:∀ q∈rest,q.1≠140) (a5:∀ q∈rest,q.1≠147)
 (ht:TabIs ⟨93,19,93,63⟩ ps) (ht2:TabIs ⟨96,32,96,85⟩ qs) (hg:AllBare s.gens)
 (hf:(f,instObj 94 fd)∈rest) (hfd:(fd,fmtO w.params ml ln x t)∈rest) (hcs:CellsIn cs rest) (hsz:cs.length <= 900) (hls:ls.length <= 900) (hk0:0 <= k) (hk1:k+(lenSum cs:Nat) < 2 ^ 60) (hml:ml < 2 ^ 60)
 (hsg:sg.length=1) (hso:PyData.strOk sg=true)
noncomputable def S_chunk_over :Prop:=∀ (B:Below A₀ base outer h₀) (F:Fr h₀ L s.heap m) (X:(KK w.params).In h₀) (T:Top p loose mean mg mb h₀) (hk:cs₀.kind=.function) (hd:dp+20 < recursionLimit) (hu:un+160 < cLine) (N:News h₀ L s.heap ((x,subO 178 d (itemsOf cs) n)::(d,dictOf [sizeEnt w.params k tk tv] 1)::(ln,W.listOf (strValues ls).toArray nl)::(140,tblO ps)::(147,tblO qs)::rest)) (h1:@LT.lt Nat _ d x) (h2:@LT.lt Nat _ ln d) (h3:@LT.lt Nat _ 148 ln) (a1:∀ q∈rest,q.1≠x) (a2:∀ q∈rest,q.1≠d) (a3:∀ q∈rest,q.1≠ln) (a4:∀ q∈rest,q.1≠140) (a5:∀ q∈rest,q.1≠147) (ht:TabIs ⟨93,19,93,63⟩ ps) (ht2:TabIs ⟨96,32,96,85⟩ qs) (hg:AllBare s.gens) (hf:(f,instObj 94 fd)∈rest) (hfd:(fd,fmtO w.params ml ln x t)∈rest) (hcs:CellsIn cs rest) (hsz:cs.length <= 900) (hls:ls.length <= 900) (hk0:0 <= k) (hk1:k+(lenSum cs:Nat) < 2 ^ 60) (hml:ml < 2 ^ 60) (hsg:sg.length=1) (hso:PyData.strOk sg=true) (hov:ml < k+(lenSum cs:Nat)+2) (hne:cs≠[]) (hjoin:JoinOk ("":Str) (cs.map fun c=>c.a ++ c.b)=true) (hall:∀ c∈cs,c.a=(" ":Str)) (hret:∀ (c:Cell) (n' nl':Nat) (t1 t2 tl:Tok) (h':Heap) (tk':Nat) (g':Array GenState) (ps' qs':Array Value),c.a=(" ":Str) -> c.b=sg -> @LT.lt Nat _ x c.T -> Fr h₀ L h' m -> News h₀ L h' ((x,subO 178 d (itemsOf [c]) n')::(d,dictOf [sizeEnt w.params 0 t1 t2] 1) ::
   (ln,W.listOf (strValues (ls ++ [(Txt.join ("":Str) (cs.map fun c=>c.a ++ c.b),tl)])).toArray nl')::(140,tblO ps')::(147,tblO qs')::(c.T,c.obj)::rest) -> TabIs ⟨93,19,93,63⟩ ps' -> TabIs ⟨96,32,96,85⟩ qs' -> AllBare g' -> Q .none { s with heap:=h',toks:=tk',gens:=g' }),wpAny (model rw_rw0127_01.row.prog w) (ktrTop dp un gd cn cs₀ L a ccd cl outer) (call (.ref 91) [.ref f,.str (" ":Str) t1,.str sg t2]) Q E s
namespace e_chunk_over
noncomputable abbrev Sd:=fun z:(((((_×_)×_×_×_)×(_×_)×_×_×_)×((_×_)×_×_×_)×(_×_×_)×_×_×_)×(((_×_)×_×_×_)×(_×_×_)×_×_×_)×((_×_)×_×_×_)×(_×_×_)×_×_×_)=>@S_chunk_over z.1.1.1.1.1 z.1.1.1.1.2 z.1.1.1.2.1 z.1.1.1.2.2.1 z.1.1.1.2.2.2 z.1.1.2.1.1 z.1.1.2.1.2 z.1.1.2.2.1 z.1.1.2.2.2.1 z.1.1.2.2.2.2 z.1.2.1.1.1 z.1.2.1.1.2 z.1.2.1.2.1 z.1.2.1.2.2.1 z.1.2.1.2.2.2 z.1.2.2.1.1 z.1.2.2.1.2.1 z.1.2.2.1.2.2 z.1.2.2.2.1 z.1.2.2.2.2.1 z.1.2.2.2.2.2 z.2.1.1.1.1 z.2.1.1.1.2 z.2.1.1.2.1 z.2.1.1.2.2.1 z.2.1.1.2.2.2 z.2.1.2.1.1 z.2.1.2.1.2.1 z.2.1.2.1.2.2 z.2.1.2.2.1 z.2.1.2.2.2.1 z.2.1.2.2.2.2 z.2.2.1.1.1 z.2.2.1.1.2 z.2.2.1.2.1 z.2.2.1.2.2.1 z.2.2.1.2.2.2 z.2.2.2.1.1 z.2.2.2.1.2.1 z.2.2.2.1.2.2 z.2.2.2.2.1 z.2.2.2.2.2.1 z.2.2.2.2.2.2
@[irreducible] def κ:=pick (by k_extra "ne") Sd
def w_:=κ.1.1.1.1.1
def mean_:=κ.1.1.1.1.2
def mg_:=κ.1.1.1.2.1
def mb_:=κ.1.1.1.2.2.1
def loose_:=κ.1.1.2.1.1
def dp_:=κ.1.1.2.1.2
def un_:=κ.1.1.2.2.1
def gd_:=κ.1.1.2.2.2.1
def cn_:=κ.1.1.2.2.2.2
def cs₀_:=κ.1.2.1.1.1
def a_:=κ.1.2.1.1.2
def ccd_:=κ.1.2.1.2.1
def cl_:=κ.1.2.1.2.2.1
def outer_:=κ.1.2.1.2.2.2
def A₀_:=κ.1.2.2.1.1
def base_:=κ.1.2.2.1.2.1
def h₀_:=κ.1.2.2.1.2.2
def L_:=κ.1.2.2.2.1
def m_:=κ.1.2.2.2.2.1
def s_:=κ.1.2.2.2.2.2
def Q_:=κ.2.1.1.1.1
def E_:=κ.2.1.1.1.2
def rest_:=κ.2.1.1.2.1
def f_:=κ.2.1.1.2.2.1
def fd_:=κ.2.1.1.2.2.2
def ln_:=κ.2.1.2.1.1
def x_:=κ.2.1.2.1.2.1
def d_:=κ.2.1.2.1.2.2
def cs_:=κ.2.1.2.2.1
def n_:=κ.2.1.2.2.2.1
def nl_:=κ.2.1.2.2.2.2
def k_:=κ.2.2.1.1.1
def ml_:=κ.2.2.1.1.2
def tk_:=κ.2.2.1.2.1
def tv_:=κ.2.2.1.2.2.1
def t1_:=κ.2.2.1.2.2.2
def t2_:=κ.2.2.2.1.1
def t_:=κ.2.2.2.1.2.1
def ps_:=κ.2.2.2.1.2.2
def qs_:=κ.2.2.2.2.1
def ls_:=κ.2.2.2.2.2.1
def sg_:=κ.2.2.2.2.2.2
noncomputable abbrev Sc:=@S_chunk_over w_ mean_ mg_ mb_ κ.1.1.1.2.2.2 loose_ dp_ un_ gd_ cn_ cs₀_ a_ ccd_ cl_ outer_ A₀_ base_ h₀_ L_ m_ s_ Q_ E_ rest_ f_ fd_ ln_ x_ d_ cs_ n_ nl_ k_ ml_ tk_ tv_ t1_ t2_ t_ ps_ qs_ ls_ sg_
omit B F X T hk hd hu N h1 h2 h3 a1 a2 a3 a4 a5 ht ht2 hg hf hfd hcs hsz hls hk0 hk1 hml hsg hso in
noncomputable def seg:PSigma fun P:Heap -> Addr -> Heap -> Prop=>(∀ g L h,P g L h) -> Sc:=⟨_,by
 intro hP;unfold Sc S_chunk_over
 intro B F X T hk hd hu N h1 h2 h3 a1 a2 a3 a4 a5 ht ht2 hg hf hfd hcs hsz hls hk0 hk1 hml hsg hso hov hne hjoin hall hret;revert X;k_fill;intro X;refine wpAny_call ?_;(k_extra "eD";intro g' L' h' FG' F' N' B' X' T';revert B F T hk hd hu N h1 h2 h3 a1 a2 a3 a4 a5 ht ht2 hg hf hfd hcs hsz hls hk0 hk1 hml hsg hso hov hne hjoin hall hret X FG' F' N' B' X' T';exact hP g' L' h')⟩
@[irreducible] def σ:=pick (inferInstance:Nonempty (Heap×Addr×Heap)) fun d=>seg.1 d.1 d.2.1 d.2.2
def ge_:=σ.1
def Le_:=σ.2.1
def he_:=σ.2.2
theorem body:seg.1 ge_ Le_ he_:=by
 intro B F T hk hd hu N h1 h2 h3 a1 a2 a3 a4 a5 ht ht2 hg hf hfd hcs hsz hls hk0 hk1 hml hsg hso hov hne hjoin hall hret X FG' F' N' B' X' T';(k_extra "tl")
 have hsp:(" ":Str).length=1:=rfl
 k_steps;refine unhalt ?_;k_dflt (refine' For_G ge_ ?k1 ?k2 ?_;(case k1=>exact rfl);(case k2=>exact rfl))
 k_steps;(rename Fr _ _ _ _=>lF');(rename News _ _ _ _=>lN');k_dflt (refine' strOne (fun _ _ _=>False) rfl rfl lF' lN' (fun u' h' tk' own' it' hoff' hown' F' N'=>?_) (fun h' tk' g9' m9' n9' F' N' hK=>hK.elim))
 k_fold;clear lF' lN';replace N':=News.right N'
 k_steps;refine unhalt ?_;k_dflt (refine' For_G ge_ ?k1 ?k2 ?_;(case k1=>exact rfl);(case k2=>exact rfl))
 k_steps;(rename Cell=>c9);(rename Cell.a c9=_=>e1);(rename Cell.b c9=_=>e2);have hn9:((itemsOf (cs_ ++ [c9])).size:Int) - 1=cs_.length:=by rw [itemsOf_size];simp
 have hsz9:(cs_ ++ [c9]).length <= 1000:=by rw [List.length_append];simp;omega
 have hle9:cs_.length <= (cs_ ++ [c9]).length:=by rw [List.length_append];omega
 (rename Fr _ _ _ _=>lF');(rename News _ _ _ _=>lN');k_dflt (refine' rangeFirst (n:=(((itemsOf (cs_ ++ [c9])).size:Int) - 1).toNat) rfl (by assumption) (dn_small (by omega) (by omega)) (down_size (by omega)) ?hpos lF' lN' (fun u' h' tk' own' it' hoff' hown' F' N'=>?_))
 case hpos=>have:=List.length_pos_iff.mpr hne;omega
 clear lF' lN';k_fold;replace N':=News.right N'
 (simp only [Cell.obj,e1,e2] at N')
 k_steps;(try dsimp only);(try dsimp only [StepG])
 k_steps;(try dsimp only);(try dsimp only [StepG])
 k_steps;(try dsimp only);(try dsimp only [StepG])
 k_steps;(try dsimp only);(try dsimp only [StepG])
 k_steps;rw [hn9]
 k_dflt (refine' accU_pop_from ?B ?F ?X ?T ?hk ?hd ?hu ?N ?U ?hdd ?hsz ?hi ?_;k_extra "cB";(case hu=>k_extra "hu");(case N=>k_asm);(case U=>k_updF);(case hdd=>k_mem);(case hsz=>exact hsz9);(case hi=>exact hle9);k_whole)
 intro q' nt' n' h' tk' F' N' l1;(try dsimp only at N');(try k_lt l1);(try k_sweep);(try dsimp only)
 (simp only [List.take_left',List.drop_left'] at N')
 have h1len:[c9].length <= 1000:=by simp
 k_steps;exact hret ⟨c9.T,(" ":Str),c9.ta,sg_,c9.tb⟩ _ _ _ _ _ _ _ _ _ _ rfl rfl (by show @LT.lt Nat _ x_ c9.T;first | assumption | omega) (by assumption) (rot6 (by assumption)) (by assumption) (by assumption) (by assumption)
theorem core:Sc:=seg.2 fun g L h=>pick_all (P:=fun d:Heap×Addr×Heap=>seg.1 d.1 d.2.1 d.2.2) (by with_unfolding_all exact body) (g,L,h)
end e_chunk_over
theorem chunk_over :@S_chunk_over w mean mg mb p loose dp un gd cn cs₀ a ccd cl outer A₀ base h₀ L m s Q E rest f fd ln x d cs n nl k ml tk tv t1 t2 t ps qs ls sg:=@pick_all _ _ e_chunk_over.Sd (by with_unfolding_all exact e_chunk_over.core) (((((_,_),_,_,_),(_,_),_,_,_),((_,_),_,_,_),(_,_,_),_,_,_),(((_,_),_,_,_),(_,_,_),_,_,_),((_,_),_,_,_),(_,_,_),_,_,_)
end
end
theorem reg17:True:=by
 w_top off
 trivial
section
theorem rot52 {h₀ h:Heap} {L:Addr} {z a b1 b2 b3 b4 b5:Addr×Obj} {r:List (Addr×Obj)} (N:News h₀ L h (z::a::b1::b2::b3::b4::b5::r)):News h₀ L h (b1::b2::b3::b4::b5::z::a::r):=fun p hp=>N p (by revert p;w_head)
section
variable
 {rest:List (Addr×Obj)} {f fd ln x d:Addr} {n nl:Nat} {k ml:Int} {tk tv t1 t2:Tok} {t:FTok} {ps qs:Array Value} {ls:List (Str×Tok)} {sg:Str}
variable (B:Below A₀ base outer h₀) (F:Fr h₀ L s.heap m) (X:(KK w.params).In h₀) (T:Top p loose mean mg mb h₀) (hk:cs₀.kind=.function) (hd:dp+20 < recursionLimit) (hu:un+160 < cLine)
 (N:News h₀ L s.heap ((x,subO 178 d (itemsOf ([]:List Cell)) n)::(d,dictOf [sizeEnt w.params k tk tv] 1)::(ln,W.listOf (strValues ls).toArray nl)::(140,tblO ps)::(147,tblO qs)::rest))
 (h1:@LT.lt Nat _ d x) (h2:@LT.lt Nat _ ln d) (h3:@LT.lt Nat _ 148 ln) (a1:∀ q∈rest,q.1≠x) (a2:∀ q∈rest,q.1≠d) (a3:∀ q∈rest,q.1≠ln) (a4:∀ q∈rest,q.1≠140) (a5:∀ q∈rest,q.1≠147)
 (ht:TabIs ⟨93,19,93,63⟩ ps) (ht2:TabIs ⟨96,32,96,85⟩ qs) (hg:AllBare s.gens)
 (hf:(f,instObj 94 fd)∈rest) (hfd:(fd,fmtO w.params ml ln x t)∈rest) (hcs:CellsIn ([]:List Cell) rest) (hsz:([]:List Cell).length <= 900) (hls:ls.length <= 900) (hk0:0 <= k) (hk1:k+(lenSum ([]:List Cell):Nat) < 2 ^ 60) (hml:ml < 2 ^ 60)
 (hsg:sg.length=1) (hso:PyData.strOk sg=true)
noncomputable def S_chunk_alone :Prop:=∀ (B:Below A₀ base outer h₀) (F:Fr h₀ L s.heap m) (X:(KK w.params).In h₀) (T:Top p loose mean mg mb h₀) (hk:cs₀.kind=.function) (hd:dp+20 < recursionLimit) (hu:un+160 < cLine) (N:News h₀ L s.heap ((x,subO 178 d (itemsOf ([]:List Cell)) n)::(d,dictOf [sizeEnt w.params k tk tv] 1)::(ln,W.listOf (strValues ls).toArray nl)::(140,tblO ps)::(147,tblO qs)::rest)) (h1:@LT.lt Nat _ d x) (h2:@LT.lt Nat _ ln d) (h3:@LT.lt Nat _ 148 ln) (a1:∀ q∈rest,q.1≠x) (a2:∀ q∈rest,q.1≠d) (a3:∀ q∈rest,q.1≠ln) (a4:∀ q∈rest,q.1≠140) (a5:∀ q∈rest,q.1≠147) (ht:TabIs ⟨93,19,93,63⟩ ps) (ht2:TabIs ⟨96,32,96,85⟩ qs) (hg:AllBare s.gens) (hf:(f,instObj 94 fd)∈rest) (hfd:(fd,fmtO w.params ml ln x t)∈rest) (hcs:CellsIn ([]:List Cell) rest) (hsz:([]:List Cell).length <= 900) (hls:ls.length <= 900) (hk0:0 <= k) (hk1:k+(lenSum ([]:List Cell):Nat) < 2 ^ 60) (hml:ml < 2 ^ 60) (hsg:sg.length=1) (hso:PyData.strOk sg=true) (hov:ml < k+2) (hretP:0 < k -> ∀ (c c0:Cell) (n' nl':Nat) (t1 t2 tl:Tok) (h':Heap) (tk':Nat) (g':Array GenState) (ps' qs':Array Value),c.a=(" ":Str) -> c.b=sg -> @LT.lt Nat _ x c.T -> @LT.lt Nat _ x c0.T -> Fr h₀ L h' m -> News h₀ L h' ((x,subO 178 d (itemsOf [c]) n')::(d,dictOf [sizeEnt w.params 0 t1 t2] 1) ::
   (ln,W.listOf (strValues (ls ++ [(("":Str),tl)])).toArray nl')::(140,tblO ps')::(147,tblO qs')::(c.T,c.obj)::(c0.T,c0.obj)::rest) -> TabIs ⟨93,19,93,63⟩ ps' -> TabIs ⟨96,32,96,85⟩ qs' -> AllBare g' -> Q .none { s with heap:=h',toks:=tk',gens:=g' }) (hretZ:k=0 -> ∀ (c c0:Cell) (n':Nat) (h':Heap) (tk':Nat) (g':Array GenState) (ps':Array Value),c.a=(" ":Str) -> c.b=sg -> @LT.lt Nat _ x c.T -> @LT.lt Nat _ x c0.T -> Fr h₀ L h' m -> News h₀ L h' ((x,subO 178 d (itemsOf [c]) n')::(d,dictOf [sizeEnt w.params 0 tk tv] 1) ::
   (ln,W.listOf (strValues ls).toArray nl)::(140,tblO ps')::(147,tblO qs)::(c.T,c.obj)::(c0.T,c0.obj)::rest) -> TabIs ⟨93,19,93,63⟩ ps' -> AllBare g' -> Q .none { s with heap:=h',toks:=tk',gens:=g' }),wpAny (model rw_rw0127_01.row.prog w) (ktrTop dp un gd cn cs₀ L a ccd cl outer) (call (.ref 91) [.ref f,.str (" ":Str) t1,.str sg t2]) Q E s
namespace e_chunk_alone
noncomputable abbrev Sd:=fun z:(((((_×_)×_×_×_)×(_×_)×_×_×_)×((_×_)×_×_×_)×(_×_×_)×_×_×_)×(((_×_)×_×_×_)×(_×_)×_×_×_)×((_×_)×_×_×_)×(_×_×_)×_×_×_)=>@S_chunk_alone z.1.1.1.1.1 z.1.1.1.1.2 z.1.1.1.2.1 z.1.1.1.2.2.1 z.1.1.1.2.2.2 z.1.1.2.1.1 z.1.1.2.1.2 z.1.1.2.2.1 z.1.1.2.2.2.1 z.1.1.2.2.2.2 z.1.2.1.1.1 z.1.2.1.1.2 z.1.2.1.2.1 z.1.2.1.2.2.1 z.1.2.1.2.2.2 z.1.2.2.1.1 z.1.2.2.1.2.1 z.1.2.2.1.2.2 z.1.2.2.2.1 z.1.2.2.2.2.1 z.1.2.2.2.2.2 z.2.1.1.1.1 z.2.1.1.1.2 z.2.1.1.2.1 z.2.1.1.2.2.1 z.2.1.1.2.2.2 z.2.1.2.1.1 z.2.1.2.1.2 z.2.1.2.2.1 z.2.1.2.2.2.1 z.2.1.2.2.2.2 z.2.2.1.1.1 z.2.2.1.1.2 z.2.2.1.2.1 z.2.2.1.2.2.1 z.2.2.1.2.2.2 z.2.2.2.1.1 z.2.2.2.1.2.1 z.2.2.2.1.2.2 z.2.2.2.2.1 z.2.2.2.2.2.1 z.2.2.2.2.2.2
@[irreducible] def κ:=pick (by k_extra "ne") Sd
def w_:=κ.1.1.1.1.1
def mean_:=κ.1.1.1.1.2
def mg_:=κ.1.1.1.2.1
def mb_:=κ.1.1.1.2.2.1
def loose_:=κ.1.1.2.1.1
def dp_:=κ.1.1.2.1.2
def un_:=κ.1.1.2.2.1
def gd_:=κ.1.1.2.2.2.1
def cn_:=κ.1.1.2.2.2.2
def cs₀_:=κ.1.2.1.1.1
def a_:=κ.1.2.1.1.2
def ccd_:=κ.1.2.1.2.1
def cl_:=κ.1.2.1.2.2.1
def outer_:=κ.1.2.1.2.2.2
def A₀_:=κ.1.2.2.1.1
def base_:=κ.1.2.2.1.2.1
def h₀_:=κ.1.2.2.1.2.2
def L_:=κ.1.2.2.2.1
def m_:=κ.1.2.2.2.2.1
def s_:=κ.1.2.2.2.2.2
def Q_:=κ.2.1.1.1.1
def E_:=κ.2.1.1.1.2
def rest_:=κ.2.1.1.2.1
def f_:=κ.2.1.1.2.2.1
def fd_:=κ.2.1.1.2.2.2
def ln_:=κ.2.1.2.1.1
def x_:=κ.2.1.2.1.2
def d_:=κ.2.1.2.2.1
def n_:=κ.2.1.2.2.2.1
def nl_:=κ.2.1.2.2.2.2
def k_:=κ.2.2.1.1.1
def ml_:=κ.2.2.1.1.2
def tk_:=κ.2.2.1.2.1
def tv_:=κ.2.2.1.2.2.1
def t1_:=κ.2.2.1.2.2.2
def t2_:=κ.2.2.2.1.1
def t_:=κ.2.2.2.1.2.1
def ps_:=κ.2.2.2.1.2.2
def qs_:=κ.2.2.2.2.1
def ls_:=κ.2.2.2.2.2.1
def sg_:=κ.2.2.2.2.2.2
noncomputable abbrev Sc:=@S_chunk_alone w_ mean_ mg_ mb_ κ.1.1.1.2.2.2 loose_ dp_ un_ gd_ cn_ cs₀_ a_ ccd_ cl_ outer_ A₀_ base_ h₀_ L_ m_ s_ Q_ E_ rest_ f_ fd_ ln_ x_ d_ n_ nl_ k_ ml_ tk_ tv_ t1_ t2_ t_ ps_ qs_ ls_ sg_
omit B F X T hk hd hu N h1 h2 h3 a1 a2 a3 a4 a5 ht ht2 hg hf hfd hcs hsz hls hk0 hk1 hml hsg hso in
noncomputable def seg:PSigma fun P:Heap -> Addr -> Heap -> Prop=>(∀ g L h,P g L h) -> Sc:=⟨_,by
 intro hP;unfold Sc S_chunk_alone
 intro B F X T hk hd hu N h1 h2 h3 a1 a2 a3 a4 a5 ht ht2 hg hf hfd hcs hsz hls hk0 hk1 hml hsg hso hov hretP hretZ;revert X;k_fill;intro X;refine wpAny_call ?_;(k_extra "eD";intro g' L' h' FG' F' N' B' X' T';revert B F T hk hd hu N h1 h2 h3 a1 a2 a3 a4 a5 ht ht2 hg hf hfd hcs hsz hls hk0 hk1 hml hsg hso hov hretP hretZ X FG' F' N' B' X' T';exact hP g' L' h')⟩
@[irreducible] def σ:=pick (inferInstance:Nonempty (Heap×Addr×Heap)) fun d=>seg.1 d.1 d.2.1 d.2.2
def ge_:=σ.1
def Le_:=σ.2.1
def he_:=σ.2.2
theorem body:seg.1 ge_ Le_ he_:=by
 intro B F T hk hd hu N h1 h2 h3 a1 a2 a3 a4 a5 ht ht2 hg hf hfd hcs hsz hls hk0 hk1 hml hsg hso hov hretP hretZ X FG' F' N' B' X' T';(k_extra "tl")
 have hsp:(" ":Str).length=1:=rfl
 have hls0:lenSum ([]:List Cell)=0:=rfl
 k_steps;refine unhalt ?_;k_dflt (refine' For_G ge_ ?k1 ?k2 ?_;(case k1=>exact rfl);(case k2=>exact rfl))
 k_steps;(rename Cell=>c9);(rename Cell.a c9=_=>e1);(rename Cell.b c9=_=>e2);(rename Fr _ _ _ _=>lF');(rename News _ _ _ _=>lN');(simp only [Cell.obj,e1,e2] at lN')
 k_dflt (refine' strOneC rfl rfl lF' lN' (fun u' h' tk' own' it' hoff' hown' F' N'=>?_) (fun u' h' tk' F' N'=>?_))
 ·k_fold
  clear lF' lN';(simp only [List.cons_append] at N')
  have hf2:=List.mem_append_left own' hf
  have hfd2:=List.mem_append_left own' hfd
  k_steps;refine unhalt ?_;k_dflt (refine' For_G ge_ ?k1 ?k2 ?_;(case k1=>exact rfl);(case k2=>exact rfl))
  k_steps;have hn9:((itemsOf [c9]).size:Int) - 1=0:=by simp [itemsOf]
  (rename Fr _ _ _ _=>lF');(rename News _ _ _ _=>lN');k_dflt (refine' rangeNone rfl (by assumption) (by rw [hn9];decide) (by rw [hn9];decide) lF' lN' (fun h' tk' F' N'=>?_))
  clear lF' lN';k_steps;all_goals (first | (rename Fr _ _ _ _=>lF';exact lF') | (rename News _ _ _ _=>lN';exact lN'))
 ·clear lF' lN'
  rcases (by omega:0 < k_ \/ k_=0) with hkp | hkp
  ·k_steps
   all_goals (try (exfalso;exact absurd hkp (by assumption)))
   (try dsimp only [List.append_nil])
   (rename Fr _ _ _ _=>lF');(rename News _ _ _ _=>lN');have b0:@LT.lt Nat _ x_ c9.T:=by first | assumption | omega
   have b1:∀ q∈(c9.T,tupO (Value.str (" ":Str) c9.ta) (Value.str sg_ c9.tb))::rest_,q.1≠x_:=List.forall_mem_cons.mpr ⟨Nat.ne_of_gt b0,a1⟩
   have b2:∀ q∈(c9.T,tupO (Value.str (" ":Str) c9.ta) (Value.str sg_ c9.tb))::rest_,q.1≠d_:=List.forall_mem_cons.mpr ⟨Nat.ne_of_gt (Nat.lt_trans h1 b0),a2⟩
   have b3:∀ q∈(c9.T,tupO (Value.str (" ":Str) c9.ta) (Value.str sg_ c9.tb))::rest_,q.1≠ln_:=List.forall_mem_cons.mpr ⟨Nat.ne_of_gt (Nat.lt_trans h2 (Nat.lt_trans h1 b0)),a3⟩
   have b4:∀ q∈(c9.T,tupO (Value.str (" ":Str) c9.ta) (Value.str sg_ c9.tb))::rest_,q.1≠140:=List.forall_mem_cons.mpr ⟨Nat.ne_of_gt (Nat.lt_trans (by decide:@LT.lt Nat _ 140 148) (Nat.lt_trans h3 (Nat.lt_trans h2 (Nat.lt_trans h1 b0)))),a4⟩
   have b5:∀ q∈(c9.T,tupO (Value.str (" ":Str) c9.ta) (Value.str sg_ c9.tb))::rest_,q.1≠147:=List.forall_mem_cons.mpr ⟨Nat.ne_of_gt (Nat.lt_trans (by decide:@LT.lt Nat _ 147 148) (Nat.lt_trans h3 (Nat.lt_trans h2 (Nat.lt_trans h1 b0)))),a5⟩
   k_dflt (refine' newline_nil ?B lF' ?X ?T ?hk ?hd ?hu (rot5 lN') h1 h2 h3 b1 b2 b3 b4 b5 ?ht ?ht2 ?hg (List.mem_cons_of_mem _ hf) (List.mem_cons_of_mem _ hfd) ?hls (Int.le_of_lt hkp) ?hk1 (fun _ n' nl' t1' t2' tl' h' tk' g9' ps' qs' F' N' ht' ht2' hg'=>?_) (fun hz=>absurd hz (Int.ne_of_gt hkp));(case B=>k_asm);(case X=>k_asm);(case T=>k_asm);(case hk=>first | exact rfl | assumption);(case hd=>ktr_room);(case hu=>ktr_units);(case ht=>assumption);(case ht2=>assumption);(case hg=>assumption);(case hls=>omega);(case hk1=>omega))
   clear lF' lN';k_steps;(rename Cell=>c8);exact hretP hkp c8 ⟨c9.T,(" ":Str),c9.ta,sg_,c9.tb⟩ _ _ _ _ _ _ _ _ _ _ (by assumption) (by assumption) (by first | assumption | omega) b0 (by assumption) (rot5 (by assumption)) (by assumption) (by assumption) (by assumption)
  ·(rename News _ _ _ _=>lN');rw [hkp] at lN'
   k_steps;have b0:@LT.lt Nat _ x_ c9.T:=by first | assumption | omega
   (rename Cell=>c8);exact hretZ hkp c8 ⟨c9.T,(" ":Str),c9.ta,sg_,c9.tb⟩ _ _ _ _ _ (by assumption) (by assumption) (by first | assumption | omega) b0 (by assumption) (rot52 (by assumption)) (by assumption) (by assumption)
theorem core:Sc:=seg.2 fun g L h=>pick_all (P:=fun d:Heap×Addr×Heap=>seg.1 d.1 d.2.1 d.2.2) (by with_unfolding_all exact body) (g,L,h)
end e_chunk_alone
theorem chunk_alone :@S_chunk_alone w mean mg mb p loose dp un gd cn cs₀ a ccd cl outer A₀ base h₀ L m s Q E rest f fd ln x d n nl k ml tk tv t1 t2 t ps qs ls sg:=@pick_all _ _ e_chunk_alone.Sd (by with_unfolding_all exact e_chunk_alone.core) (((((_,_),_,_,_),(_,_),_,_,_),((_,_),_,_,_),(_,_,_),_,_,_),(((_,_),_,_,_),(_,_),_,_,_),((_,_),_,_,_),(_,_,_),_,_,_)
end
end
section
structure LS where
 ls:List Str
 k:Nat
 cs:List Nat
noncomputable def one (c:Nat):Str:=⟨#[c]⟩
noncomputable def flatL (cs:List Nat):Str:=Txt.join ("":Str) (cs.map fun c=>(" ":Str) ++ one c)
noncomputable def chunkStep (ml:Nat) (c:Nat) (S:LS):LS :=
 if S.k+2 * S.cs.length+2 <= ml then { S with cs:=S.cs ++ [c] }
 else if S.cs≠[] then ⟨S.ls ++ [flatL S.cs],0,[c]⟩
 else if S.k > 0 then ⟨S.ls ++ [("":Str)],0,[c]⟩
 else { S with cs:=[c] }
noncomputable def newlineStep (S:LS):LS :=
 if S.cs≠[] then ⟨S.ls ++ [flatL S.cs],0,[]⟩
 else if S.k > 0 then ⟨S.ls ++ [("":Str)],0,[]⟩
 else ⟨S.ls,0,[]⟩
noncomputable def SignIs (c:Nat):Prop:=c < 0x110000 /\ Txt.isspace (one c)=false
theorem one_length (c:Nat):(one c).length=1:=rfl
theorem one_ok {c:Nat} (h:SignIs c):PyData.strOk (one c)=true:=by
 have:=h.1
 simp [PyData.strOk,one,this]
inductive Canon (w:World) (ml:Int) (f fd:Addr) (R:List (Addr×Obj)) (S:LS) (led:List (Addr×Obj)) (g:Array GenState):Prop
 | mk (x d ln:Addr) (cs:List Cell) (n nl:Nat) (tk tv:Tok) (t:FTok) (ps qs:Array Value) (ls:List (Str×Tok)) (rest:List (Addr×Obj))
  (a1:led=((x,subO 178 d (itemsOf cs) n)::(d,dictOf [sizeEnt w.params (S.k:Int) tk tv] 1)::(ln,W.listOf (strValues ls).toArray nl)::(140,tblO ps)::(147,tblO qs)::rest))
  (a2:@LT.lt Nat _ d x) (a3:@LT.lt Nat _ ln d) (a4:@LT.lt Nat _ 148 ln) (b1:∀ q∈rest,q.1≠x) (b2:∀ q∈rest,q.1≠d) (b3:∀ q∈rest,q.1≠ln) (b4:∀ q∈rest,q.1≠140) (b5:∀ q∈rest,q.1≠147)
  (c1:TabIs ⟨93,19,93,63⟩ ps) (c2:TabIs ⟨96,32,96,85⟩ qs) (c3:AllBare g) (c4:(f,instObj 94 fd)∈rest) (c5:(fd,fmtO w.params ml ln x t)∈rest) (c6:CellsIn cs rest) (c7:∀ c∈cs,c.a=(" ":Str))
  (c8:cs.map (·.b)=S.cs.map one) (c9:ls.map (·.1)=S.ls) (cR:∀ p∈R,p∈rest)
theorem lenSum_two {cs:List Cell} {l:List Nat} (ha:∀ c∈cs,c.a=(" ":Str)) (hb:cs.map (·.b)=l.map one):lenSum cs=2 * l.length:=by
 induction cs generalizing l with
 | nil=>cases l with
  | nil=>rfl
  | cons=>simp at hb
 | cons c r ih=>cases l with
  | nil=>simp at hb
  | cons x l =>
   simp only [List.map_cons,List.cons.injEq] at hb
   have h1:=ha c (by simp)
   rw [lenSum_c,ih (fun c h=>ha c (by simp [h])) hb.2,h1,hb.1,one_length]
   simp only [List.length_cons]
   show 1+1+2 * l.length=_
   omega
theorem cells_join {cs:List Cell} {l:List Nat} (ha:∀ c∈cs,c.a=(" ":Str)) (hb:cs.map (·.b)=l.map one):(cs.map fun c=>c.a ++ c.b)=l.map fun c=>(" ":Str) ++ one c:=by
 induction cs generalizing l with
 | nil=>cases l with
  | nil=>rfl
  | cons=>simp at hb
 | cons c r ih=>cases l with
  | nil=>simp at hb
  | cons x l =>
   simp only [List.map_cons,List.cons.injEq] at hb
   rw [List.map_cons,List.map_cons,ih (fun c h=>ha c (by simp [h])) hb.2,ha c (by simp),hb.1]
theorem cells_len {cs:List Cell} {l:List Nat} (hb:cs.map (·.b)=l.map one):cs.length=l.length:=by
 have:=congrArg List.length hb
 simpa using this
theorem joinOk_cells {l:List Nat} (h:l.length <= 1000):JoinOk ("":Str) (l.map fun c=>(" ":Str) ++ one c)=true:=by
 refine joinOk_of ?_
 have:((l.map fun c=>(" ":Str) ++ one c).map (·.length)).sum=2 * l.length:=by
  clear h;induction l with
  | nil=>rfl
  | cons x l ih =>
   simp only [List.map_cons,List.sum_cons,ih,List.length_cons]
   have:((" ":Str) ++ one x).length=2:=rfl
   omega
 rw [this]
 have h0:("":Str).length=0:=rfl
 rw [h0]
 omega
section
variable
 {R led:List (Addr×Obj)} {f fd:Addr} {ml:Nat} {S:LS} {t1 t2:Tok} {c:Nat}
variable (B:Below A₀ base outer h₀) (F:Fr h₀ L s.heap m) (X:(KK w.params).In h₀) (T:Top p loose mean mg mb h₀) (hk:cs₀.kind=.function) (hd:dp+20 < recursionLimit) (hu:un+160 < cLine)
 (N:News h₀ L s.heap led) (C:Canon w ml f fd R S led s.gens) (hml:ml < 2 ^ 50) (hk1:S.k < 2 ^ 50) (hs1:S.cs.length <= 900) (hs2:S.ls.length <= 900)
include B F X T hk hd hu N C hml hk1 hs1 hs2
theorem chunkC (hc:SignIs c)
 (hret:∀ (led':List (Addr×Obj)) (h':Heap) (tk':Nat) (g':Array GenState),Fr h₀ L h' m -> News h₀ L h' led' -> Canon w ml f fd R (chunkStep ml c S) led' g' -> Q .none { s with heap:=h',toks:=tk',gens:=g' }) :
  wpAny (model rw_rw0127_01.row.prog w) (ktrTop dp un gd cn cs₀ L a ccd cl outer) (call (.ref 91) [.ref f,.str (" ":Str) t1,.str (one c) t2]) Q E s:=by
 refine via ?_
 intro gV yV;obtain ⟨x,d,ln,cs,n,nl,tk,tv,t,ps,qs,ls,rest,rfl,h1,h2,h3,a1,a2,a3,a4,a5,ht,ht2,hg,hf,hfd,hcs,hall,hb,hl,hR⟩:=C
 refine yV ?_
 clear yV gV;have el:cs.length=S.cs.length:=cells_len hb
 have els:ls.length=S.ls.length:=by rw [<- hl];simp
 have es:lenSum cs=2 * S.cs.length:=lenSum_two hall hb
 have hsz:cs.length <= 900:=by omega
 have hls:ls.length <= 900:=by omega
 have hk0:(0:Int) <= (S.k:Int):=by omega
 have hk2:(S.k:Int)+(lenSum cs:Nat) < 2 ^ 60:=by omega
 have hml2:(ml:Int) < 2 ^ 60:=by omega
 have fin:∀ {c':Cell} {rest':List (Addr×Obj)},@LT.lt Nat _ x c'.T -> (∀ q∈rest',q.1≠x) /\ (∀ q∈rest',q.1≠d) /\ (∀ q∈rest',q.1≠ln) /\ (∀ q∈rest',q.1≠140) /\ (∀ q∈rest',q.1≠147) →
   (∀ q∈(c'.T,c'.obj)::rest',q.1≠x) /\ (∀ q∈(c'.T,c'.obj)::rest',q.1≠d) /\ (∀ q∈(c'.T,c'.obj)::rest',q.1≠ln) /\ (∀ q∈(c'.T,c'.obj)::rest',q.1≠140) /\ (∀ q∈(c'.T,c'.obj)::rest',q.1≠147):=by
  intro c' rest' b0 ⟨a1,a2,a3,a4,a5⟩
  exact ⟨List.forall_mem_cons.mpr ⟨Nat.ne_of_gt b0,a1⟩,List.forall_mem_cons.mpr ⟨Nat.ne_of_gt (Nat.lt_trans h1 b0),a2⟩,List.forall_mem_cons.mpr ⟨Nat.ne_of_gt (Nat.lt_trans h2 (Nat.lt_trans h1 b0)),a3⟩,
   List.forall_mem_cons.mpr ⟨Nat.ne_of_gt (Nat.lt_trans (by decide:@LT.lt Nat _ 140 148) (Nat.lt_trans h3 (Nat.lt_trans h2 (Nat.lt_trans h1 b0)))),a4⟩,
   List.forall_mem_cons.mpr ⟨Nat.ne_of_gt (Nat.lt_trans (by decide:@LT.lt Nat _ 147 148) (Nat.lt_trans h3 (Nat.lt_trans h2 (Nat.lt_trans h1 b0)))),a5⟩⟩
 have cell:∀ {c':Cell},c'.a=(" ":Str) -> c'.b=one c -> c'.a.length <= 1000 /\ c'.b.length <= 1000:=fun e1 e2=>⟨by rw [e1];decide +kernel,by rw [e2];exact Nat.le_of_ble_eq_true rfl⟩
 by_cases c1:S.k+2 * S.cs.length+2 <= ml
 ·refine chunk_fits B F X T hk hd hu N h1 h2 h3 a1 a2 a3 a4 a5 ht ht2 hg hf hfd hcs hsz hls hk0 hk2 hml2 (one_length c) (one_ok hc) (by omega) ?_
  intro c' n' h' tk' g' ps' e1 e2 b0 F' N' ht' hg';refine hret _ _ _ _ F' N' ?_
  rw [chunkStep,if_pos c1]
  refine via ?_
  intro gV yV;obtain ⟨z1,z2,z3,z4,z5⟩:=fin (c':=c') b0 ⟨a1,a2,a3,a4,a5⟩
  refine yV ?_
  clear yV gV;refine ⟨x,d,ln,cs ++ [c'],n',nl,tk,tv,t,ps',qs,ls,_,rfl,h1,h2,h3,z1,z2,z3,z4,z5,ht',ht2,hg',List.mem_cons_of_mem _ hf,List.mem_cons_of_mem _ hfd,?_,?_,?_,hl,fun p hp=>List.mem_cons_of_mem _ (hR p hp)⟩
  ·intro y hy
   rcases List.mem_append.mp hy with hy | hy
   ·exact ⟨List.mem_cons_of_mem _ (hcs y hy).1,(hcs y hy).2⟩
   ·rw [List.mem_singleton] at hy
    subst hy;exact ⟨List.mem_cons_self,cell e1 e2⟩
  ·intro y hy
   rcases List.mem_append.mp hy with hy | hy
   ·exact hall y hy
   ·rw [List.mem_singleton] at hy
    subst hy;exact e1
  ·simp [hb,e2]
 ·by_cases c2:S.cs≠[]
  ·have hne:cs≠[]:=by
    intro h0;rw [h0] at el
    exact c2 (List.length_eq_zero_iff.mp el.symm)
   have hj:=cells_join hall hb
   refine chunk_over B F X T hk hd hu N h1 h2 h3 a1 a2 a3 a4 a5 ht ht2 hg hf hfd hcs hsz hls hk0 hk2 hml2 (one_length c) (one_ok hc) (by omega) hne (by rw [hj];exact joinOk_cells (by omega)) hall ?_
   intro c' n' nl' t1' t2' tl h' tk' g' ps' qs' e1 e2 b0 F' N' ht' ht2' hg';refine hret _ _ _ _ F' N' ?_
   rw [chunkStep,if_neg c1,if_pos c2]
   refine via ?_
   intro gV yV;obtain ⟨z1,z2,z3,z4,z5⟩:=fin (c':=c') b0 ⟨a1,a2,a3,a4,a5⟩
   refine yV ?_
   clear yV gV;refine ⟨x,d,ln,[c'],n',nl',t1',t2',t,ps',qs',_,_,rfl,h1,h2,h3,z1,z2,z3,z4,z5,ht',ht2',hg',List.mem_cons_of_mem _ hf,List.mem_cons_of_mem _ hfd,?_,?_,?_,?_,fun p hp=>List.mem_cons_of_mem _ (hR p hp)⟩
   ·intro y hy
    rw [List.mem_singleton] at hy
    subst hy;exact ⟨List.mem_cons_self,cell e1 e2⟩
   ·intro y hy
    rw [List.mem_singleton] at hy
    subst hy;exact e1
   ·simp [e2]
   ·simp only [List.map_append,List.map_cons,List.map_nil,hl,hj]
    rfl
  ·have c2':S.cs=[]:=Classical.not_not.mp c2
   have hnil:cs=[]:=List.length_eq_zero_iff.mp (by rw [el,c2'];rfl)
   have hov:(ml:Int) < (S.k:Int)+2:=by rw [c2'] at c1;simp at c1;omega
   subst hnil;refine chunk_alone B F X T hk hd hu N h1 h2 h3 a1 a2 a3 a4 a5 ht ht2 hg hf hfd hcs hsz hls hk0 hk2 hml2 (one_length c) (one_ok hc) hov ?_ ?_
   ·intro hkp c' c0 n' nl' t1' t2' tl h' tk' g' ps' qs' e1 e2 b0 b1 F' N' ht' ht2' hg'
    refine hret _ _ _ _ F' N' ?_
    have c3:S.k > 0:=by omega
    rw [chunkStep,if_neg c1,if_neg c2,if_pos c3]
    refine via ?_
    intro gV yV;obtain ⟨z1,z2,z3,z4,z5⟩:=fin (c':=c') b0 (fin (c':=c0) b1 ⟨a1,a2,a3,a4,a5⟩)
    refine yV ?_
    clear yV gV;refine ⟨x,d,ln,[c'],n',nl',t1',t2',t,ps',qs',_,_,rfl,h1,h2,h3,z1,z2,z3,z4,z5,ht',ht2',hg',List.mem_cons_of_mem _ (List.mem_cons_of_mem _ hf),List.mem_cons_of_mem _ (List.mem_cons_of_mem _ hfd),?_,?_,?_,?_,fun p hp=>List.mem_cons_of_mem _ (List.mem_cons_of_mem _ (hR p hp))⟩
    ·intro y hy
     rw [List.mem_singleton] at hy
     subst hy;exact ⟨List.mem_cons_self,cell e1 e2⟩
    ·intro y hy
     rw [List.mem_singleton] at hy
     subst hy;exact e1
    ·simp [e2]
    ·simp [hl]
   ·intro hkz c' c0 n' h' tk' g' ps' e1 e2 b0 b1 F' N' ht' hg'
    refine hret _ _ _ _ F' N' ?_
    have hk00:S.k=0:=by omega
    have c3:¬ S.k > 0:=by omega
    rw [chunkStep,if_neg c1,if_neg c2,if_neg c3]
    refine via ?_
    intro gV yV;obtain ⟨z1,z2,z3,z4,z5⟩:=fin (c':=c') b0 (fin (c':=c0) b1 ⟨a1,a2,a3,a4,a5⟩)
    refine yV ?_
    clear yV gV;refine ⟨x,d,ln,[c'],n',nl,tk,tv,t,ps',qs,ls,_,(by simp only [hk00];rfl),h1,h2,h3,z1,z2,z3,z4,z5,ht',ht2,hg',List.mem_cons_of_mem _ (List.mem_cons_of_mem _ hf),List.mem_cons_of_mem _ (List.mem_cons_of_mem _ hfd),?_,?_,?_,hl,fun p hp=>List.mem_cons_of_mem _ (List.mem_cons_of_mem _ (hR p hp))⟩
    ·intro y hy
     rw [List.mem_singleton] at hy
     subst hy;exact ⟨List.mem_cons_self,cell e1 e2⟩
    ·intro y hy
     rw [List.mem_singleton] at hy
     subst hy;exact e1
    ·simp [e2]
end
end
section
theorem txt_join (sep:Str) (l:List Str):Txt.join sep l=Str.join sep l:=eq_of_beq (join_plain_closes sep l)
theorem join_cps:∀ l:List Str,(Str.join ("":Str) l).cps.toList=(l.map fun y=>y.cps.toList).flatten
 | []=>rfl
 | [x]=>by simp [Str.join]
 | x::y::r=>by
  have:=join_cps (y::r)
  rw [Str.join]
  ·show ((x.cps ++ #[]) ++ (Str.join ("":Str) (y::r)).cps).toList=_
   rw [Array.toList_append,this]
   simp
  ·intro h;cases h
theorem flatL_cps (l:List Nat):(flatL l).cps.toList=(l.map fun c=>[32,c]).flatten:=by
 unfold flatL
 rw [txt_join,join_cps,List.map_map]
 rfl
theorem flatL_notspace {l:List Nat} {c:Nat} (hc:c∈l) (h:Txt.isspace (one c)=false):Txt.isspace (flatL l)=false:=by
 have h1:Unicode.isSpace c=false:=by
  simpa [Txt.isspace,one,Str.length] using h
 unfold Txt.isspace
 rw [Bool.and_eq_false_iff]
 right
 rw [Bool.eq_false_iff]
 intro ha;have:=(Array.all_eq_true_iff_forall_mem.mp ha) c (by rw [<- Array.mem_toList_iff,flatL_cps];simp only [List.mem_flatten,List.mem_map];exact ⟨[32,c],⟨c,hc,rfl⟩,by simp⟩)
 rw [h1] at this
 cases this
section
variable
 {R led:List (Addr×Obj)} {f fd:Addr} {ml:Nat} {S:LS} {t1 t2:Tok} {c:Nat}
variable (B:Below A₀ base outer h₀) (F:Fr h₀ L s.heap m) (X:(KK w.params).In h₀) (T:Top p loose mean mg mb h₀) (hk:cs₀.kind=.function) (hd:dp+20 < recursionLimit) (hu:un+160 < cLine)
 (N:News h₀ L s.heap led) (C:Canon w ml f fd R S led s.gens) (hml:ml < 2 ^ 50) (hk1:S.k < 2 ^ 50) (hs1:S.cs.length <= 900) (hs2:S.ls.length <= 900)
include B F X T hk hd hu N C hml hk1 hs1 hs2
theorem newlineC (hc:∀ c∈S.cs,SignIs c)
 (hret:∀ (led':List (Addr×Obj)) (h':Heap) (tk':Nat) (g':Array GenState),Fr h₀ L h' m -> News h₀ L h' led' -> Canon w ml f fd R (newlineStep S) led' g' -> Q .none { s with heap:=h',toks:=tk',gens:=g' }) :
  wpAny (model rw_rw0127_01.row.prog w) (ktrTop dp un gd cn cs₀ L a ccd cl outer) (call (.ref 56) [.ref f]) Q E s:=by
 obtain ⟨x,d,ln,cs,n,nl,tk,tv,t,ps,qs,ls,rest,rfl,h1,h2,h3,a1,a2,a3,a4,a5,ht,ht2,hg,hf,hfd,hcs,hall,hb,hl,hR⟩:=C
 have el:cs.length=S.cs.length:=cells_len hb
 have els:ls.length=S.ls.length:=by rw [<- hl];simp
 have es:lenSum cs=2 * S.cs.length:=lenSum_two hall hb
 have hls:ls.length <= 1000:=by omega
 by_cases c2:S.cs≠[]
 ·have hne:cs≠[]:=by
   intro h0;rw [h0] at el
   exact c2 (List.length_eq_zero_iff.mp el.symm)
  obtain ⟨ci,cz,rfl⟩:∃ ci cz,cs=ci ++ [cz]:=⟨_,_,(List.dropLast_concat_getLast hne).symm⟩
  have hj:=cells_join hall hb
  have hmem:∀ c':Cell,c'.a=cz.a -> c'.b=cz.b -> ((ci ++ [c']).map fun c=>c.a ++ c.b)=S.cs.map fun c=>(" ":Str) ++ one c:=by
   intro c' e1 e2;rw [<- hj]
   simp [e1,e2]
  obtain ⟨b,hbm,hbe⟩:∃ b∈S.cs,cz.b=one b:=by
   have:cz.b∈S.cs.map one:=by rw [<- hb];simp
   obtain ⟨b,h1,h2⟩:=List.mem_map.mp this
   exact ⟨b,h1,h2.symm⟩
  have hca:cz.a=(" ":Str):=hall cz (by simp)
  have hjl:JoinOk ("":Str) (S.cs.map fun c=>(" ":Str) ++ one c)=true:=joinOk_cells (by omega)
  have es2:lenSum ci+(cz.a.length+cz.b.length)=2 * S.cs.length:=by rw [<- lenSum_snoc,es]
  refine newline_some (cs:=ci) (c:=cz) B F X T hk (by omega) (by omega) N h1 h2 h3 a1 a2 a3 a4 a5 ht ht2 hg hf hfd hcs (by omega) hls (by omega) (by rw [es2];omega) hca ?_ ?_ ?_ ?_ ?_ ?_
  ·rw [hbe]
   intro h;have:=congrArg Str.length h
   rw [one_length] at this
   exact absurd this (by decide)
  ·intro c' e1 e2
   rw [hmem c' e1 e2]
   exact hjl
  ·rw [hca];decide +kernel
  ·rw [hbe];exact one_ok (hc b hbm)
  ·intro c' e1 e2
   unfold onlyws
   rw [hmem c' e1 e2]
   have hns:=flatL_notspace hbm (hc b hbm).2
   unfold flatL at hns
   rw [hns,lenSum_snoc,e1,e2,es2]
   have hp:0 < S.cs.length:=List.length_pos_iff.mpr c2
   rw [Bool.and_eq_false_iff]
   right
   rw [Bool.or_false]
   exact beq_eq_false_iff_ne.mpr (by omega)
  ·intro n' nl' t1' t2' tl h' tk' g' ps' qs' F' N' ht' ht2' hg'
   refine hret _ _ _ _ F' N' ?_
   rw [newlineStep,if_pos c2]
   refine ⟨x,d,ln,[],n',nl',t1',t2',t,ps',qs',_,rest,rfl,h1,h2,h3,a1,a2,a3,a4,a5,ht',ht2',hg',hf,hfd,(fun c hc=>nomatch hc),(fun c hc=>nomatch hc),rfl,?_,hR⟩
   simp only [List.map_append,List.map_cons,List.map_nil,hl,hj]
   rfl
 ·have c2':S.cs=[]:=Classical.not_not.mp c2
  obtain rfl:cs=[]:=List.length_eq_zero_iff.mp (by rw [el,c2'];rfl)
  refine newline_nil B F X T hk (by omega) (by omega) N h1 h2 h3 a1 a2 a3 a4 a5 ht ht2 hg hf hfd hls (by omega) (by omega) ?_ ?_
  ·intro hkp n' nl' t1' t2' tl h' tk' g' ps' qs' F' N' ht' ht2' hg'
   refine hret _ _ _ _ F' N' ?_
   rw [newlineStep,if_neg c2,if_pos (by omega)]
   refine ⟨x,d,ln,[],n',nl',t1',t2',t,ps',qs',_,rest,rfl,h1,h2,h3,a1,a2,a3,a4,a5,ht',ht2',hg',hf,hfd,(fun c hc=>nomatch hc),(fun c hc=>nomatch hc),rfl,?_,hR⟩
   simp [hl]
  ·intro hkz n' t1' t2' h' tk' g' ps' qs' F' N' ht' ht2' hg'
   refine hret _ _ _ _ F' N' ?_
   rw [newlineStep,if_neg c2,if_neg (by omega)]
   exact ⟨x,d,ln,[],n',nl,t1',t2',t,ps',qs',ls,rest,rfl,h1,h2,h3,a1,a2,a3,a4,a5,ht',ht2',hg',hf,hfd,(fun c hc=>nomatch hc),(fun c hc=>nomatch hc),rfl,hl,hR⟩
end
end
theorem reg18:True:=by
 w_top off
 trivial
section
section
variable
 {R led:List (Addr×Obj)} {f fd:Addr} {ml:Nat} {S:LS} {t1 t2:Tok} {c:Nat}
variable (B:Below A₀ base outer h₀) (F:Fr h₀ L s.heap m) (X:(KK w.params).In h₀) (T:Top p loose mean mg mb h₀) (hk:cs₀.kind=.function) (hd:dp+30 < recursionLimit) (hu:un+200 < cLine)
 (N:News h₀ L s.heap led) (C:Canon w ml f fd R S led s.gens) (hml:ml < 2 ^ 50) (hk1:S.k < 2 ^ 50) (hs1:S.cs.length <= 900) (hs2:S.ls.length <= 900)
include B F X T hk hd hu N C hml hk1 hs1 hs2
theorem strC (hc:∀ c∈S.cs,SignIs c) (hw:((newlineStep S).ls.map (·.length)).sum+(newlineStep S).ls.length <= 100000)
 (hret:∀ (t:Tok) (led':List (Addr×Obj)) (h':Heap) (tk':Nat) (g':Array GenState),Fr h₀ L h' m -> News h₀ L h' led' -> Canon w ml f fd R (newlineStep S) led' g' -> Q (.str (Txt.join ("\n":Str) (newlineStep S).ls) t) { s with heap:=h',toks:=tk',gens:=g' }) :
  wpAny (model rw_rw0127_01.row.prog w) (ktrTop dp un gd cn cs₀ L a ccd cl outer) (call (.ref 42) [.ref f,.str ("\n":Str) t2]) Q E s:=by
 have C0:=C
 obtain ⟨x,d,ln,cs,n,nl,tk,tv,t,ps,qs,ls,rest,rfl,h1,h2,h3,a1,a2,a3,a4,a5,ht,ht2,hg,hf,hfd,hcs,hall,hb,hl,hR⟩:=C
 revert X;k_fill;intro X;refine wpAny_call ?_;(k_extra "eD";intro g' L' h' FG' F' N' B' X' T';k_extra "tl")
 k_steps;(rename Fr _ _ _ _=>lF');(rename News _ _ _ _=>lN');k_dflt (refine' newlineC ?B lF' ?X ?T ?hk ?hd ?hu lN' C0 hml hk1 hs1 hs2 hc (fun led' h' tk' g' F' N' C'=>?_);(case B=>k_asm);(case X=>k_asm);(case T=>k_asm);(case hk=>first | exact rfl | assumption);(case hd=>ktr_room);(case hu=>ktr_units))
 clear lF' lN' N hf hfd hcs h1 h2 h3 a1 a2 a3 a4 a5 ht ht2 hg hall hb hl hR C0;have C1:=C'
 obtain ⟨x',d',ln',cs',n',nl',tk'',tv',t',ps',qs',ls',rest',rfl,h1,h2,h3,a1,a2,a3,a4,a5,ht,ht2,hg,hf,hfd,hcs,hall,hb,hl,hR⟩:=C'
 k_steps;(rename Fr _ _ _ _=>lF');(rename News _ _ _ _=>lN');k_dflt (refine' join_listW (ys:=(newlineStep S).ls) (items:=(strValues ls').toArray) ⟨_,News.get lN' (by k_mem),rfl,_,rfl⟩ ?hi ?hs ?hz (fun t' k'=>?_);(case hi=>rw [<- hl];simpa using strsAre_of_values ls');(case hs=>decide +kernel);(case hz=>omega))
 k_steps;trace_state
 exact hret _ _ _ _ _ (by assumption) (by assumption) C1
end
end
theorem reg19:True:=by
 w_top off
 trivial
section
noncomputable def signStep (ml:Nat) (S:LS) (c:Nat):LS:=if c=59 then newlineStep (chunkStep ml c S) else chunkStep ml c S
noncomputable def runL (ml k0:Nat) (l:List Nat):LS:=l.foldl (signStep ml) ⟨[],k0,[]⟩
noncomputable def laidL (ml k0:Nat) (l:List Nat):Str:=Txt.join ("\n":Str) (newlineStep (runL ml k0 l)).ls
noncomputable def LOk (k0 n:Nat) (S:LS):Prop:=S.k <= k0 /\ S.cs.length <= n /\ S.ls.length <= 2 * n /\ (S.ls.map (·.length)).sum+2 * S.cs.length <= 2 * n /\ ∀ c∈S.cs,SignIs c
theorem flatL_length (l:List Nat):(flatL l).length=2 * l.length:=by
 show (flatL l).cps.size=_
 rw [<- Array.length_toList,flatL_cps]
 induction l with
 | nil=>rfl
 | cons x l ih =>
  rw [List.map_cons,List.flatten_cons,List.length_append,ih]
  simp only [List.length_cons,List.length_nil]
  omega
theorem LOk.chunk {k0 n ml c:Nat} {S:LS} (h:LOk k0 n S) (hc:SignIs c):LOk k0 (n+1) (chunkStep ml c S) /\ (chunkStep ml c S).ls.length <= 2 * n+1:=by
 refine via ?_
 intro gV yV;obtain ⟨h1,h2,h3,h4,h5⟩:=h
 refine yV ?_
 clear yV gV;unfold chunkStep
 split
 ·refine ⟨⟨h1,by simp;omega,by simp;omega,by simp;omega,?_⟩,by simp;omega⟩
  intro y hy;rcases List.mem_append.mp hy with hy | hy
  ·exact h5 y hy
  ·rw [List.mem_singleton.mp hy];exact hc
 ·split
  ·refine ⟨⟨Nat.zero_le _,by simp,by simp;omega,?_,?_⟩,by simp;omega⟩
   ·simp only [List.map_append,List.map_cons,List.map_nil,List.sum_append,List.sum_cons,List.sum_nil,flatL_length,List.length_cons,List.length_nil];omega
   ·intro y hy
    rw [List.mem_singleton.mp hy];exact hc
  ·split
   ·refine ⟨⟨Nat.zero_le _,by simp,by simp;omega,?_,?_⟩,by simp;omega⟩
    ·simp only [List.map_append,List.map_cons,List.map_nil,List.sum_append,List.sum_cons,List.sum_nil,List.length_cons,List.length_nil]
     have:("":Str).length=0:=rfl
     omega
    ·intro y hy
     rw [List.mem_singleton.mp hy];exact hc
   ·refine ⟨⟨h1,by simp,by simp;omega,by simp;omega,?_⟩,by simp;omega⟩
    intro y hy;rw [List.mem_singleton.mp hy];exact hc
theorem LOk.newline {k0 n:Nat} {S:LS} (h:LOk k0 n S) (hl:S.ls.length <= 2 * n - 1) (hn:0 < n):LOk k0 n (newlineStep S):=by
 refine via ?_
 intro gV yV;obtain ⟨h1,h2,h3,h4,h5⟩:=h
 refine yV ?_
 clear yV gV;unfold newlineStep
 split
 ·refine ⟨Nat.zero_le _,by simp,by simp;omega,?_,fun c hc=>nomatch hc⟩
  simp only [List.map_append,List.map_cons,List.map_nil,List.sum_append,List.sum_cons,List.sum_nil,flatL_length,List.length_nil];omega
 ·split
  ·refine ⟨Nat.zero_le _,by simp,by simp;omega,?_,fun c hc=>nomatch hc⟩
   simp only [List.map_append,List.map_cons,List.map_nil,List.sum_append,List.sum_cons,List.sum_nil,List.length_nil]
   have:("":Str).length=0:=rfl
   omega
  ·exact ⟨Nat.zero_le _,by simp,by simp;omega,by simp;omega,fun c hc=>nomatch hc⟩
theorem LOk.sign {k0 n ml c:Nat} {S:LS} (h:LOk k0 n S) (hc:SignIs c):LOk k0 (n+1) (signStep ml S c):=by
 obtain ⟨h1,h2⟩:=h.chunk (ml:=ml) hc
 unfold signStep
 split
 ·exact h1.newline (by omega) (by omega)
 ·exact h1
theorem newline_bound {k0 n:Nat} {S:LS} (h:LOk k0 n S):((newlineStep S).ls.map (·.length)).sum+(newlineStep S).ls.length <= 4 * n+1:=by
 refine via ?_
 intro gV yV;obtain ⟨h1,h2,h3,h4,h5⟩:=h
 refine yV ?_
 clear yV gV;unfold newlineStep
 split
 ·simp only [List.map_append,List.map_cons,List.map_nil,List.sum_append,List.sum_cons,List.sum_nil,flatL_length,List.length_append,List.length_cons,List.length_nil];omega
 ·split
  ·simp only [List.map_append,List.map_cons,List.map_nil,List.sum_append,List.sum_cons,List.sum_nil,List.length_append,List.length_cons,List.length_nil]
   have:("":Str).length=0:=rfl
   omega
  ·simp;omega
theorem runL_take (ml k0:Nat) (l:List Nat) (i:Nat) (c:Nat) (h:l[i]?=some c):runL ml k0 (l.take (i+1))=signStep ml (runL ml k0 (l.take i)) c:=by
 rw [List.take_add_one,h]
 simp [runL,List.foldl_append]
theorem runL_ok (ml k0:Nat) (l:List Nat) (h:∀ c∈l,SignIs c):∀ i,LOk k0 i (runL ml k0 (l.take i)):=by
 intro i;induction i with
 | zero=>exact ⟨Nat.le_refl _,Nat.le_refl _,Nat.le_refl _,Nat.le_refl _,fun c hc=>nomatch hc⟩
 | succ i ih =>
  cases e:l[i]? with
  | none =>
   have hl:l.length <= i:=List.getElem?_eq_none_iff.mp e
   rw [List.take_of_length_le (by omega)]
   rw [List.take_of_length_le hl] at ih
   refine via ?_
   intro gV yV;obtain ⟨h1,h2,h3,h4,h5⟩:=ih
   refine yV ?_
   clear yV gV;exact ⟨h1,by omega,by omega,by omega,h5⟩
  | some c =>
   rw [runL_take _ _ _ _ _ e]
   exact ih.sign (h c (List.mem_of_getElem? e))
noncomputable def Stop (p:Prop):Prop:=p
theorem stop {p:Prop} (h:Stop p):p:=h
theorem unstop {p:Prop} (h:p):Stop p:=h
theorem reg20:True:=by
 w_top off
 k_with "exec For"=>(k_extra "a";k_here;apply stop)
 trivial
theorem Canon.take {w:World} {ml:Int} {f fd it:Addr} {R led own:List (Addr×Obj)} {S:LS} {g:Array GenState} {h₀ h:Heap} {L:Addr} (C:Canon w ml f fd R S led g) (hoff:∀ p∈led,p.1≠it) (hown:∀ p∈own,p.1=it) (N:News h₀ L h (own ++ led)) :
  ∃ led',Canon w ml f fd (own ++ R) S led' g /\ News h₀ L h led' /\ f≠it /\ fd≠it /\ ∀ p∈R,p.1≠it:=by
 refine via ?_
 intro gV yV;obtain ⟨x,d,ln,cs,n,nl,tk,tv,t,ps,qs,ls,rest,rfl,h1,h2,h3,a1,a2,a3,a4,a5,ht,ht2,hg,hf,hfd,hcs,hall,hb,hl,hR⟩:=C
 refine yV ?_
 clear yV gV;have al:∀ {b:Addr},(∀ q∈rest,q.1≠b) -> it≠b -> ∀ q∈own ++ rest,q.1≠b:=by
  intro b hr hb q hq;rcases List.mem_append.mp hq with hq | hq
  ·rw [hown q hq];exact hb
  ·exact hr q hq
 refine ⟨_,⟨x,d,ln,cs,n,nl,tk,tv,t,ps,qs,ls,own ++ rest,rfl,h1,h2,h3,al a1 ?_,al a2 ?_,al a3 ?_,al a4 ?_,al a5 ?_,ht,ht2,hg,List.mem_append_right _ hf,List.mem_append_right _ hfd,?_,hall,hb,hl,?_⟩,?_,?_,?_,?_⟩
 ·exact fun e=>hoff _ (.head _) e.symm
 ·exact fun e=>hoff _ nx1 e.symm
 ·exact fun e=>hoff _ nx2 e.symm
 ·exact fun e=>hoff _ nx3 e.symm
 ·exact fun e=>hoff _ nx4 e.symm
 ·exact fun c hc=>⟨List.mem_append_right _ (hcs c hc).1,(hcs c hc).2⟩
 ·intro p hp
  rcases List.mem_append.mp hp with hp | hp
  ·exact List.mem_append_left _ hp
  ·exact List.mem_append_right _ (hR p hp)
 ·intro p hp
  refine N p ?_
  revert p;w_head
 ·exact hoff _ (.tail _ (.tail _ (.tail _ (.tail _ (.tail _ hf)))))
 ·exact hoff _ (.tail _ (.tail _ (.tail _ (.tail _ (.tail _ hfd)))))
 ·exact fun p hp=>hoff p (.tail _ (.tail _ (.tail _ (.tail _ (.tail _ (hR p hp))))))
theorem Canon.drop {w:World} {ml:Int} {f fd it:Addr} {R led own:List (Addr×Obj)} {S:LS} {g:Array GenState} {h₀ h:Heap} {L:Addr} (C:Canon w ml f fd (own ++ R) S led g) (N:News h₀ L h led) (hf:f≠it) (hfd:fd≠it) (hR':∀ p∈R,p.1≠it) (ho:∃ o,(it,o)∈own /\ o.cls≠.type "tuple") :
  ∃ led',Canon w ml f fd R S led' g /\ News h₀ L h (own ++ led') /\ ∀ p∈led',p.1≠it:=by
 refine via ?_
 intro gV yV;obtain ⟨x,d,ln,cs,n,nl,tk,tv,t,ps,qs,ls,rest,rfl,h1,h2,h3,a1,a2,a3,a4,a5,ht,ht2,hg,hf',hfd',hcs,hall,hb,hl,hR⟩:=C
 refine yV ?_
 clear yV gV;refine via ?_
 intro gV yV;obtain ⟨o,ho1,ho2⟩:=ho
 refine yV ?_
 clear yV gV;have hio:=hR _ (List.mem_append_left _ ho1)
 have hk:∀ {p:Addr×Obj},p∈rest.filter (fun p=>p.1 != it) ↔ p∈rest /\ p.1≠it:=by
  intro p;simp
 have al:∀ {b:Addr},(∀ q∈rest,q.1≠b) -> ∀ q∈rest.filter (fun p=>p.1 != it),q.1≠b:=fun hr q hq=>hr q (hk.mp hq).1
 refine ⟨_,⟨x,d,ln,cs,n,nl,tk,tv,t,ps,qs,ls,rest.filter (fun p=>p.1 != it),rfl,h1,h2,h3,al a1,al a2,al a3,al a4,al a5,ht,ht2,hg,hk.mpr ⟨hf',hf⟩,hk.mpr ⟨hfd',hfd⟩,?_,hall,hb,hl,?_⟩,?_,?_⟩
 ·intro c hc
  refine ⟨hk.mpr ⟨(hcs c hc).1,fun e=>ho2 ?_⟩,(hcs c hc).2⟩
  have e1:=(N _ (.tail _ (.tail _ (.tail _ (.tail _ (.tail _ (hcs c hc).1)))))).1
  have e2:=(N _ (.tail _ (.tail _ (.tail _ (.tail _ (.tail _ hio)))))).1
  dsimp only at e e1 e2
  rw [e,e2] at e1
  rw [Option.some.inj e1]
 ·exact fun p hp=>hk.mpr ⟨hR p (List.mem_append_right _ hp),hR' p hp⟩
 ·exact fa (fun p hp=>N p (.tail _ (.tail _ (.tail _ (.tail _ (.tail _ (hR p (List.mem_append_left _ hp)))))))) (fc (N _ (by w_why)) (fc (N _ (by w_why)) (fc (N _ (by w_why)) (fc (N _ (by w_why)) (fc (N _ (by w_why)) fun p h=>N p (.tail _ (.tail _ (.tail _ (.tail _ (.tail _ (hk.mp h).1))))))))))
 ·exact fc (fun e=>a1 _ hio e.symm) (fc (fun e=>a2 _ hio e.symm) (fc (fun e=>a3 _ hio e.symm) (fc (fun e=>a4 _ hio e.symm) (fc (fun e=>a5 _ hio e.symm) fun p h=>(hk.mp h).2))))
section
variable
 {news:List (Addr×Obj)} {hl t:Nat} {z1 z2:Int} {t1 t2 t3 t4:Tok} {ps qs:Array Value}
theorem fmtC (B:Below A₀ base outer h₀) (F:Fr h₀ L s.heap m) (X:(KK w.params).In h₀) (T:Top p loose mean mg mb h₀) (hk:cs₀.kind=.function) (hd:dp+8 < recursionLimit) (hu:un+60 < cLine)
 (N:News h₀ L s.heap ((140,tblO ps)::(147,tblO qs)::news)) (a4:∀ q∈news,q.1≠140) (a5:∀ q∈news,q.1≠147) (ht:TabIs ⟨93,19,93,63⟩ ps) (ht2:TabIs ⟨96,32,96,85⟩ qs) (hg:AllBare s.gens)
 (e1:z1=((hl:Nat):Int)) (e2:z2=((t:Nat):Int))
 (hret:∀ (f fd:Addr) (led':List (Addr×Obj)) (h':Heap) (tk':Nat),Fr h₀ L h' m -> News h₀ L h' led' -> Canon w (t:Nat) f fd news ⟨[],hl,[]⟩ led' s.gens -> Q (.ref f) { s with heap:=h',toks:=tk' }) :
  wpAny (model rw_rw0127_01.row.prog w) (ktrTop dp un gd cn cs₀ L a ccd cl outer) (call (.ref 94) [.int z1 t1,.int z2 t2,.str (" ":Str) t3,.str (" ":Str) t4]) Q E s:=by
 subst e1;subst e2;refine fmt_make B F X T hk hd hu N ?_
 intro f fd ln x d t' tk tv h' tk' F' N' l1 l2 l3 l4 l5;have l147:=l5 _ nx1
 dsimp only at l147
 have l6:∀ p∈news,p.1 < fd:=fun p hp=>l5 p (by w_why)
 have al:∀ {b:Addr},@LT.lt Nat _ f b -> ∀ q∈(f,instObj 94 fd)::(fd,fmtO w.params t ln x t')::news,q.1≠b:=by
  intro b hb;exact fc (Nat.ne_of_lt hb) (fc (Nat.ne_of_lt (Nat.lt_trans l1 hb)) fun q h=>Nat.ne_of_lt (Nat.lt_trans (l6 q h) (Nat.lt_trans l1 hb)))
 have al2:∀ {b:Addr},@LT.lt Nat _ b fd -> (∀ q∈news,q.1≠b) -> ∀ q∈(f,instObj 94 fd)::(fd,fmtO w.params t ln x t')::news,q.1≠b:=by
  intro b hb hn;exact fc (Nat.ne_of_gt (Nat.lt_trans hb l1)) (fc (Nat.ne_of_gt hb) hn)
 refine hret f fd _ h' tk' F' (fun p hp=>N' p ?_) ⟨x,d,ln,[],0,0,tk,tv,t',ps,qs,[],(f,instObj 94 fd)::(fd,fmtO w.params t ln x t')::news,rfl,l4,l3,?_,al ?_,al ?_,al l2,al2 ?_ a4,al2 l147 a5,ht,ht2,hg,by simp,by simp,(fun c hc=>nomatch hc),(fun c hc=>nomatch hc),rfl,rfl,fun p hp=>.tail _ (.tail _ hp)⟩
 ·revert p;refine (fc ?_ (fc ?_ (fc ?_ (fc ?_ (fc ?_ (fc ?_ (fc ?_ (fun p h=>?_))))))))<;>first | w_why | exact .head _ | exact .tail _ (.head _) | exact .tail _ nx1 | exact .tail _ nx2 | exact .tail _ nx3 | exact .tail _ nx4 | exact .tail _ nx5 | exact .tail _ nx6
 ·exact Nat.lt_of_le_of_lt (show @LE.le Nat _ 148 fd from l147) (Nat.lt_trans l1 l2)
 ·exact Nat.lt_trans l2 (Nat.lt_trans l3 l4)
 ·exact Nat.lt_trans l2 l3
 ·exact Nat.lt_trans (by decide:@LT.lt Nat _ 140 147) l147
end
theorem reg21:True:=by
 w_top off
 k_with "call ref"=>(k_extra "a";k_here;k_dflt (refine' fmtC ?B ?F ?X ?T ?hk ?hd ?hu ?N ?a4 ?a5 ?ht ?ht2 ?hg ?e1 ?e2 ?_;k_extra "cB";(case hu=>ktr_units);(case N=>k_asm);(case a4=>assumption);(case a5=>assumption);(case ht=>assumption);(case ht2=>assumption);(case hg=>assumption);(case e1=>assumption);(case e2=>assumption);k_whole);intro f'z fd'z led'z h'z tk'z F'z N'z C'z;(try k_sweep);(try dsimp only))
 trivial
noncomputable def LaidJ (w:World) (mlI:Int) (f fd:Addr) (R:List (Addr×Obj)) (k0 ml:Nat) (l:List Nat) (m₀:Str -> Option Value):Nat -> (Str -> Option Value) -> List (Addr×Obj) -> Array GenState -> Prop:=fun i m₁ nw g =>
 (∀ v:Value,(fun z=>if z=("sign":Str) then some v else m₁ z)=fun z=>if z=("sign":Str) then some v else m₀ z) /\ Canon w mlI f fd R (runL ml k0 (l.take i)) nw g
theorem sub7 {h₀ h:Heap} {L:Addr} {a b c u v:Addr×Obj} {rest R:List (Addr×Obj)} (N:News h₀ L h (a::b::c::u::v::rest)) (hR:∀ p∈R,p∈rest):News h₀ L h (u::v::R):=fun p hp=>N p (by
 revert p;exact fc (by w_why) (fc (by w_why) fun p h=>.tail _ (.tail _ (.tail _ (.tail _ (.tail _ (hR p h)))))))
theorem Canon.look {w:World} {ml:Int} {f fd:Addr} {R led:List (Addr×Obj)} {S:LS} {g:Array GenState} (C:Canon w ml f fd R S led g):∃ ln x t,(f,instObj 94 fd)∈led /\ (fd,fmtO w.params ml ln x t)∈led:=by
 refine via ?_
 intro gV yV;obtain ⟨x,d,ln,cs,n,nl,tk,tv,t,ps,qs,ls,rest,rfl,h1,h2,h3,a1,a2,a3,a4,a5,ht,ht2,hg,hf,hfd,hcs,hall,hb,hl,hR⟩:=C
 refine yV ?_
 clear yV gV;exact ⟨ln,x,t,by w_why,by w_why⟩
theorem Canon.fin {w:World} {ml:Int} {f fd:Addr} {R led:List (Addr×Obj)} {S:LS} {g:Array GenState} {h₀ h:Heap} {L:Addr} (C:Canon w ml f fd R S led g) (N:News h₀ L h led):∃ ps qs,News h₀ L h ((140,tblO ps)::(147,tblO qs)::R) /\ TabIs ⟨93,19,93,63⟩ ps /\ TabIs ⟨96,32,96,85⟩ qs /\ AllBare g:=by
 refine via ?_
 intro gV yV;obtain ⟨x,d,ln,cs,n,nl,tk,tv,t,ps,qs,ls,rest,rfl,h1,h2,h3,a1,a2,a3,a4,a5,ht,ht2,hg,hf,hfd,hcs,hall,hb,hl,hR⟩:=C
 refine yV ?_
 clear yV gV;exact ⟨ps,qs,sub7 N hR,ht,ht2,hg⟩
theorem sign_twice {m₀:Str -> Option Value} {v₀:Value} (v:Value):(fun z=>if z=("sign":Str) then some v else (fun z=>if z=("sign":Str) then some v₀ else m₀ z) z)=fun z=>if z=("sign":Str) then some v else m₀ z:=by
 funext z
 by_cases hz:z=("sign":Str)
 ·rw [if_pos hz,if_pos hz]
 ·dsimp only
  rw [if_neg hz,if_neg hz,if_neg hz]
theorem sign_back {m' m₀:Str -> Option Value} (h:∀ v:Value,(fun z=>if z=("sign":Str) then some v else m' z)=fun z=>if z=("sign":Str) then some v else m₀ z):m'=fun z=>if z=("sign":Str) then m' ("sign":Str) else m₀ z:=by
 funext z
 by_cases hz:z=("sign":Str)
 ·rw [if_pos hz,hz]
 ·have:=congrFun (h .none) z
  rw [if_neg hz,if_neg hz] at this
  rw [if_neg hz,this]
section
variable
 {news:List (Addr×Obj)} {y:Str} {hl t:Nat} {t0 t1 t2:Tok} {ps qs:Array Value}
variable (B:Below A₀ base outer h₀) (F:Fr h₀ L s.heap m) (X:(KK w.params).In h₀) (T:Top p loose mean mg mb h₀) (hk:cs₀.kind=.function) (hd:dp+40 < recursionLimit) (hu:un+250 < cLine)
 (N:News h₀ L s.heap ((140,tblO ps)::(147,tblO qs)::news)) (a4:∀ q∈news,q.1≠140) (a5:∀ q∈news,q.1≠147) (ht:TabIs ⟨93,19,93,63⟩ ps) (ht2:TabIs ⟨96,32,96,85⟩ qs) (hg:AllBare s.gens)
noncomputable def S_law_laid :Prop:=∀ (B:Below A₀ base outer h₀) (F:Fr h₀ L s.heap m) (X:(KK w.params).In h₀) (T:Top p loose mean mg mb h₀) (hk:cs₀.kind=.function) (hd:dp+40 < recursionLimit) (hu:un+250 < cLine) (N:News h₀ L s.heap ((140,tblO ps)::(147,tblO qs)::news)) (a4:∀ q∈news,q.1≠140) (a5:∀ q∈news,q.1≠147) (ht:TabIs ⟨93,19,93,63⟩ ps) (ht2:TabIs ⟨96,32,96,85⟩ qs) (hg:AllBare s.gens) (hy:∀ c∈y.cps.toList,SignIs c) (hyl:y.cps.size <= 300) (hhl:hl <= 1000) (htl:t <= 1000) (hret:∀ (t9:Tok) (h':Heap) (tk':Nat) (g':Array GenState) (ps' qs':Array Value),Fr h₀ L h' m -> News h₀ L h' ((140,tblO ps')::(147,tblO qs')::news) -> TabIs ⟨93,19,93,63⟩ ps' -> TabIs ⟨96,32,96,85⟩ qs' -> AllBare g' -> Q (.str (laidL (2 * t) (2 * hl) y.cps.toList) t9) { s with heap:=h',toks:=tk',gens:=g' }),wpAny (model rw_rw0127_01.row.prog w) (ktrTop dp un gd cn cs₀ L a ccd cl outer) (call (.ref 343) [.str y t0,.int (hl:Nat) t1,.int (t:Nat) t2]) Q E s
namespace e_law_laid
noncomputable abbrev Sd:=fun z:(((((_×_)×_×_)×(_×_)×_×_)×((_×_)×_×_)×(_×_)×_×_)×(((_×_)×_×_)×(_×_)×_×_)×((_×_)×_×_)×(_×_)×_×_)=>@S_law_laid z.1.1.1.1.1 z.1.1.1.1.2 z.1.1.1.2.1 z.1.1.1.2.2 z.1.1.2.1.1 z.1.1.2.1.2 z.1.1.2.2.1 z.1.1.2.2.2 z.1.2.1.1.1 z.1.2.1.1.2 z.1.2.1.2.1 z.1.2.1.2.2 z.1.2.2.1.1 z.1.2.2.1.2 z.1.2.2.2.1 z.1.2.2.2.2 z.2.1.1.1.1 z.2.1.1.1.2 z.2.1.1.2.1 z.2.1.1.2.2 z.2.1.2.1.1 z.2.1.2.1.2 z.2.1.2.2.1 z.2.1.2.2.2 z.2.2.1.1.1 z.2.2.1.1.2 z.2.2.1.2.1 z.2.2.1.2.2 z.2.2.2.1.1 z.2.2.2.1.2 z.2.2.2.2.1 z.2.2.2.2.2
@[irreducible] def κ:=pick (by k_extra "ne") Sd
def y_:=κ.2.2.1.1.1
def hl_:=κ.2.2.1.1.2
def t_:=κ.2.2.1.2.1
noncomputable abbrev Sc:=@S_law_laid κ.1.1.1.1.1 κ.1.1.1.1.2 κ.1.1.1.2.1 κ.1.1.1.2.2 κ.1.1.2.1.1 κ.1.1.2.1.2 κ.1.1.2.2.1 κ.1.1.2.2.2 κ.1.2.1.1.1 κ.1.2.1.1.2 κ.1.2.1.2.1 κ.1.2.1.2.2 κ.1.2.2.1.1 κ.1.2.2.1.2 κ.1.2.2.2.1 κ.1.2.2.2.2 κ.2.1.1.1.1 κ.2.1.1.1.2 κ.2.1.1.2.1 κ.2.1.1.2.2 κ.2.1.2.1.1 κ.2.1.2.1.2 κ.2.1.2.2.1 κ.2.1.2.2.2 y_ hl_ t_ κ.2.2.1.2.2 κ.2.2.2.1.1 κ.2.2.2.1.2 κ.2.2.2.2.1 κ.2.2.2.2.2
omit B F X T hk hd hu N a4 a5 ht ht2 hg in
noncomputable def seg:PSigma fun P:Heap -> Addr -> Heap -> Prop=>(∀ g L h,P g L h) -> Sc:=⟨_,by
 intro hP;unfold Sc S_law_laid
 intro B F X T hk hd hu N a4 a5 ht ht2 hg hy hyl hhl htl hret;revert X;k_fill;intro X;refine wpAny_call ?_;(k_extra "eD";intro g' L' h' FG' F' N' B' X' T';revert B F T hk hd hu N a4 a5 ht ht2 hg hy hyl hhl htl hret X FG' F' N' B' X' T';exact hP g' L' h')⟩
@[irreducible] def σ:=pick (inferInstance:Nonempty (Heap×Addr×Heap)) fun d=>seg.1 d.1 d.2.1 d.2.2
theorem body:seg.1 σ.1 σ.2.1 σ.2.2:=by
 intro B F T hk hd hu N a4 a5 ht ht2 hg hy hyl hhl htl hret X FG' F' N' B' X' T';(k_extra "tl")
 have q1:(2:Int) * (hl_:Int)=((2 * hl_:Nat):Int):=by omega
 have q2:(2:Int) * (t_:Int)=((2 * t_:Nat):Int):=by omega
 k_steps;refine unstop ?_
 k_dflt (refine' For_G σ.1 ?k1 ?k2 ?_;(case k1=>exact rfl);(case k2=>exact rfl))
 k_steps;(rename Fr _ _ _ _=>lF');(rename News _ _ _ _=>lN');(rename Canon _ _ _ _ _ _ _ _=>lC');k_dflt (refine' strG rfl lF' lN' (LaidJ κ.1.1.1.1.1 (2 * t_:Nat) _ _ κ.2.1.2.2.2 (2 * hl_) (2 * t_) y_.cps.toList _) ⟨fun _=>rfl,lC'⟩ (fun i c u m₁ news₁ h tk g own it hc hJ hoff hown hcl F' N'=>?_) (fun h' tk' g'' m' news' F' N' hJ=>?_))
 ·clear lF' lN' lC'
  obtain ⟨hm,C'⟩:=hJ
  rw [hm] at F'
  refine via ?_
  intro gV yV;obtain ⟨led2,C2,N2,o1,o2,o3⟩:=C'.take hoff hown N'
  refine yV ?_
  clear yV gV;clear N' hoff;have hsL:=runL_ok (2 * t_) (2 * hl_) _ hy i
  have hi3:i < y_.cps.size:=(Array.getElem?_eq_some_iff.mp hc).1
  have hc2:y_.cps.toList[i]?=some c:=by rw [Array.getElem?_toList];exact hc
  have hsc:SignIs c:=hy c (List.mem_of_getElem? hc2)
  have erun:=runL_take (2 * t_) (2 * hl_) _ _ _ hc2
  have hsL1:=hsL.chunk (ml:=2 * t_) hsc
  clear hret ht ht2 hg a4 a5 N hc;have C3:=C2
  clear C2;refine via ?_
  intro gV yV;obtain ⟨ln,x,t',hf,hfd⟩:=C3.look
  refine yV ?_
  clear yV gV;k_steps;(rename Fr _ _ _ _=>lF');(rename News _ _ _ _=>lN');k_dflt (refine' chunkC (c:=c) ?B lF' ?X ?T ?hk ?hd ?hu lN' C3 ?hml ?hk1 ?hs1 ?hs2 hsc (fun led3 h3' tk3 g3 F' N' C'=>?_);(case B=>k_asm);(case X=>k_asm);(case T=>k_asm);(case hk=>first | exact rfl | assumption);(case hd=>ktr_room);(case hu=>ktr_units);(case hml=>omega);(case hk1=>have:=hsL.1;omega);(case hs1=>have:=hsL.2.1;omega);(case hs2=>have:=hsL.2.2.1;omega))
  clear lF' lN' C3 hf hfd;by_cases hcc:c=59
  ·have he:((⟨#[c]⟩:Str) == (";":Str))=true:=by rw [hcc];decide +kernel
   have C3:=C'
   clear C';refine via ?_
   intro gV yV;obtain ⟨ln,x,t',hf,hfd⟩:=C3.look
   refine yV ?_
   clear yV gV;k_steps;(try dsimp only [List.append_nil])
   (rename Fr _ _ _ _=>lF');(rename News _ _ _ _=>lN');k_dflt (refine' newlineC ?B lF' ?X ?T ?hk ?hd ?hu lN' C3 ?hml ?hk1 ?hs1 ?hs2 hsL1.1.2.2.2.2 (fun led5 h5' tk5 g5 F' N' C'=>?_);(case B=>k_asm);(case X=>k_asm);(case T=>k_asm);(case hk=>first | exact rfl | assumption);(case hd=>ktr_room);(case hu=>ktr_units);(case hml=>omega);(case hk1=>have:=hsL1.1.1;omega);(case hs1=>have:=hsL1.1.2.1;omega);(case hs2=>have:=hsL1.2;omega))
   clear lF' lN' C3 hf hfd;k_steps;(try dsimp only [StepG])
   refine via ?_
   intro gV yV;obtain ⟨led6,C6,N6,hoff6⟩:=C'.drop N' o1 o2 o3 hcl
   refine yV ?_
   clear yV gV;exact ⟨_,_,_,_,led6,rfl,F',N6,fun p hp hq=>hoff6 p hp (List.mem_singleton.mp hq),fun v=>sign_twice v,by rw [erun,signStep,if_pos hcc];exact C6⟩
  ·have he:((⟨#[c]⟩:Str) == (";":Str))=false:=by
    rw [Bool.eq_false_iff]
    intro h9;have h8:=congrArg (fun z:Str=>z.cps.getD 0 0) (eq_of_beq h9)
    exact hcc h8
   k_steps;(try dsimp only [StepG])
   refine via ?_
   intro gV yV;obtain ⟨led6,C6,N6,hoff6⟩:=C'.drop N' o1 o2 o3 hcl
   refine yV ?_
   clear yV gV;exact ⟨_,_,_,_,led6,rfl,F',N6,fun p hp hq=>hoff6 p hp (List.mem_singleton.mp hq),fun v=>sign_twice v,by rw [erun,signStep,if_neg hcc];exact C6⟩
 ·clear lF' lN' lC'
  obtain ⟨hm,C'⟩:=hJ
  rw [sign_back hm] at F'
  generalize m' ("sign":Str)=sv at F'
  have hsL:=runL_ok (2 * t_) (2 * hl_) _ hy y_.cps.size
  have eall:y_.cps.toList.take y_.cps.size=y_.cps.toList:=List.take_of_length_le (by simp)
  rw [eall] at hsL C'
  have hnb:=newline_bound hsL
  have C3:=C'
  clear C';refine via ?_
  intro gV yV;obtain ⟨ln,x,t',hf,hfd⟩:=C3.look
  refine yV ?_
  clear yV gV;k_steps;(try dsimp only [List.append_nil,List.cons_append,List.nil_append])
  (rename Fr _ _ _ _=>lF');(rename News _ _ _ _=>lN');k_dflt (refine' strC ?B lF' ?X ?T ?hk ?hd ?hu lN' C3 ?hml ?hk1 ?hs1 ?hs2 hsL.2.2.2.2 ?hw (fun t9 led5 h5' tk5 g5 F' N' C'=>?_);(case B=>k_asm);(case X=>k_asm);(case T=>k_asm);(case hk=>first | exact rfl | assumption);(case hd=>ktr_room);(case hu=>ktr_units);(case hml=>omega);(case hk1=>have:=hsL.1;omega);(case hs1=>have:=hsL.2.1;omega);(case hs2=>have:=hsL.2.2.1;omega);(case hw=>omega))
  clear lF' lN' C3 hf hfd;k_steps;(rename News _ _ _ _=>lN');refine via ?_
  intro gV yV;obtain ⟨ps',qs',N9,ht',ht2',hg'⟩:=C'.fin lN'
  refine yV ?_
  clear yV gV;exact hret _ _ _ _ ps' qs' (by assumption) N9 ht' ht2' hg'
theorem core:Sc:=seg.2 fun g L h=>pick_all (P:=fun d:Heap×Addr×Heap=>seg.1 d.1 d.2.1 d.2.2) (by with_unfolding_all exact body) (g,L,h)
end e_law_laid
theorem law_laid :@S_law_laid w mean mg mb p loose dp un gd cn cs₀ a ccd cl outer A₀ base h₀ L m s Q E news y hl t t0 t1 t2 ps qs:=@pick_all _ _ e_law_laid.Sd (by with_unfolding_all exact e_law_laid.core) (((((_,_),_,_),(_,_),_,_),((_,_),_,_),(_,_),_,_),(((_,_),_,_),(_,_),_,_),((_,_),_,_),(_,_),_,_)
end
end
theorem reg22:True:=by
 w_top off
 trivial
section
noncomputable def oneF (x:Str):Int:=(x.cps.getD 0 0:Nat)
noncomputable def mapB3 (x:Str):Str:=match b3F (oneF x) with
 | some y=>y
 | none=>Txt.lower x
theorem mapB3_some {x y:Str} (h:b3F (oneF x)=some y):mapB3 x=y:=by unfold mapB3;rw [h]
theorem mapB3_none {x:Str} (h:b3F (oneF x)=none):mapB3 x=Txt.lower x:=by unfold mapB3;rw [h]
theorem b3_method {prog:Program} {w:World} {A:Around} {s:Shared} {pl:Sem Bool} {Q:Value×List Value -> Shared -> Prop} {E:Value -> Shared -> Prop} (X:(KK w.params).In s.heap) (h:Q (.builtin "dict.get",[.ref 201]) s) :
  wpAny (model prog w) A (getMethod (.ref 201) "get" pl) Q E s :=
 getMethod_builtin (b3_map (prog:=prog) X).typeIs F.plainAttrs_dict F.slot_dict_get F.type_dict_get (b3_map (prog:=prog) X).noDict h
theorem b3_call {prog:Program} {w:World} {A:Around} {s:Shared} {c:Int} {t:Tok} {Q:Value -> Shared -> Prop} {E:Value -> Shared -> Prop} (X:(KK w.params).In s.heap) (h1:∀ y,b3F c=some y -> ∀ t,Q (.str y t) { s with toks:=s.toks+1 }) (h2:b3F c=none -> Q .none { s with toks:=s.toks+1 }) :
  wpAny (model prog w) A (call (.builtin "dict.get") [.ref 201,.int c t]) Q E s:=by
 refine call_meetsIn PySem.F.slot_dict_get (b3_map (prog:=prog) X).typeIs PySem.F.entry_dict_get (PySem.F.args_dict_get_2 _ _) (meets_dict_get (intKind prog w) 201 (intKind_is prog w c t) rfl) ⟨_,b3_map X,?_⟩
 have e:=b3_get c
 cases h:b3F c with
 | some y =>
  rw [h] at e
  obtain ⟨t,e⟩:=e
  rw [e];exact h1 y h t
 | none =>
  rw [h] at e
  rw [e];exact h2 h
theorem reg23:True:=by
 w_top off
 k_with "call builtin:ord"=>(k_extra "a";refine ord_of_one (by assumption) ?_)
 k_with "compareOp In int ref"=>(k_extra "a";k_here;k_dflt (refine in_b1set (by k_in) ?_))
 k_with "getMethod ref"=>(k_extra "a";k_here;(with_reducible show wpAny _ _ (getMethod (Value.ref 201) _ _) _ _ _);k_dflt (refine b3_method (by k_in) ?_))
 k_with "call builtin:dict.get"=>(k_extra "a";k_here;k_dflt (refine' b3_call (by k_in) ?_ ?_);(all_goals intros);(all_goals try dsimp only))
 trivial
section
variable
 {news:List (Addr×Obj)} {x:Str} {tx:Tok}
variable (B:Below A₀ base outer h₀) (F:Fr h₀ L s.heap m) (X:(KK w.params).In h₀) (T:Top p loose mean mg mb h₀) (hk:cs₀.kind=.function) (hd:dp+2 < recursionLimit) (hu:un+12 < cLine)
 (N:News h₀ L s.heap news)
include B F X T hk hd hu N
theorem in_c11 (hret:∀ (h':Heap) (tk':Nat),Fr h₀ L h' m -> News h₀ L h' news -> Q (.bool (x == (" ":Str))) { s with heap:=h',toks:=tk' }) :
  wpAny (model rw_rw0127_01.row.prog w) (ktrTop dp un gd cn cs₀ L a ccd cl outer) (call (.ref 253) [.str x tx]) Q E s:=by
 revert X;k_fill;intro X;refine wpAny_call ?_;(k_extra "eD";intro g' L' h' FG' F' N' B' X' T';k_extra "tl")
 k_steps;exact hret _ _ (by assumption) (by assumption)
theorem in_b1 (h1:x.length=1) (hret:∀ (h':Heap) (tk':Nat),Fr h₀ L h' m -> News h₀ L h' news -> Q (.bool (b1Has (oneF x))) { s with heap:=h',toks:=tk' }) :
  wpAny (model rw_rw0127_01.row.prog w) (ktrTop dp un gd cn cs₀ L a ccd cl outer) (call (.ref 200) [.str x tx]) Q E s:=by
 revert X;k_fill;intro X;refine wpAny_call ?_;(k_extra "eD";intro g' L' h' FG' F' N' B' X' T';k_extra "tl")
 k_steps;exact hret _ _ (by assumption) (by assumption)
theorem map_b3 (h1:x.length=1) (hret:∀ (t:Tok) (h':Heap) (tk':Nat),Fr h₀ L h' m -> News h₀ L h' news -> Q (.str (mapB3 x) t) { s with heap:=h',toks:=tk' }) :
  wpAny (model rw_rw0127_01.row.prog w) (ktrTop dp un gd cn cs₀ L a ccd cl outer) (call (.ref 246) [.str x tx]) Q E s:=by
 revert X;k_fill;intro X;refine wpAny_call ?_;(k_extra "eD";intro g' L' h' FG' F' N' B' X' T';k_extra "tl")
 k_steps
 ·(rename b3F _=some _=>e9)
  have e8:=mapB3_some (x:=x) e9
  rw [<- e8]
  exact hret _ _ _ (by assumption) (by assumption)
 ·(rename b3F _=none=>e9)
  have e8:=mapB3_none (x:=x) e9
  rw [<- e8]
  exact hret _ _ _ (by assumption) (by assumption)
end
end
section
section
variable {prog:Program} {w:World} {A:Around} {E:Value -> Shared -> Prop} {s:Shared} {h₀:Heap} {L:Addr} {m:Str -> Option Value} {env:Env}
inductive TSrc (prog:Program) (w:World) (A:Around) (h₀:Heap) (L:Addr) (m:Str -> Option Value) (env:Env) (elt:Expr) (x:Str) (scope:Scope) (cl:List (Str×Addr)) (Fin:Shared -> List Value -> List (Addr×Obj) -> Prop) (xv:Value) (s₁:Shared):Prop
 | mk (y:Str) (t:Tok) (news:List (Addr×Obj)) (a1:xv=.str y t) (a2:A.handled=none) (a3:Fr h₀ L s₁.heap m) (a4:News h₀ L s₁.heap news) (a5:y.cps.size <= sizeLine)
  (a6:∀ g,LCg.CompRest prog w A h₀ L m env elt x scope cl { s₁ with heap:=g } (fun _=>True) (SignAt y) (Fin { s₁ with heap:=g }) y.cps.size 0 [] news)
inductive TSrcT (prog:Program) (w:World) (A:Around) (h₀:Heap) (L:Addr) (m:Str -> Option Value) (env:Env) (ct elt:Expr) (x:Str) (scope:Scope) (cl:List (Str×Addr)) (Fin:Shared -> List Value -> List (Addr×Obj) -> Prop) (xv:Value) (s₁:Shared):Prop
 | mk (y:Str) (t:Tok) (news:List (Addr×Obj)) (a1:xv=.str y t) (a2:A.handled=none) (a3:Fr h₀ L s₁.heap m) (a4:News h₀ L s₁.heap news) (a5:y.cps.size <= sizeLine)
  (a6:∀ g,LCt.CompRestT prog w A h₀ L m env ct elt x scope cl { s₁ with heap:=g } (fun _=>True) (SignAt y) (Fin { s₁ with heap:=g }) y.cps.size 0 [] news)
theorem str_st {ty:String} {y:Str} {t:Tok} {I:Addr}:∀ i (h h':Heap) (o:Obj) (nw:List (Addr×Obj)),h.IsStrIter I ty y t i -> h.get? I=some o -> h'.get? I=some o -> (∀ b o,h₀.get? b=some o -> h'.get? b=some o) -> News h₀ L h' nw -> True -> h'.IsStrIter I ty y t i :=
 fun i h h' o nw st e e' _ _ _=>by
  obtain ⟨o',q,r⟩:=st
  rw [e] at q;cases q
  exact ⟨o,e',r⟩
theorem fin_of {Q:Value -> Shared -> Prop} {s₂:Shared}:∀ D C h tk m' ys news',Fr h₀ L h m -> News h₀ L h ((D,LCg.lst ys)::news') -> LCg.Off1 D news' -> h.Ns C m' -> h₀.get? C=none -> h₀.get? D=none -> C≠L -> D≠L -> C≠D -> (∀ p∈news',p.1≠C) -> LCg.FinE h₀ L m s₂ Q ys news' -> compPost (model prog w) A E none Q (.ref D) C (.ok .next) { s₂ with heap:=h,toks:=tk }:=by
 intro D C h tk m' ys news' F' N' o1 hn hC₀ hD₀ hCL hDL hCD offC fin;refine ⟨m',hn,fun h'' hs''=>fin D h'' tk (F'.change hs'' hCL hC₀) (fun p hp=>?_) o1⟩
 refine ⟨hs''.extBut _ _ ?_ (N' p hp).1,(N' p hp).2⟩
 rcases List.mem_cons.mp hp with rfl | hp
 ·exact Ne.symm hCD
 ·exact offC p hp
theorem LC_text {elt iter:Expr} {x:Str} {px:Pos} {scope:Scope} {cl:List (Str×Addr)} {pos:Pos} {Q:Value -> Shared -> Prop}
  (F₀:Fr h₀ L s.heap m) (hclos:closureFor scope env=pure cl) (hcell:∀ y∈scope.names,y.2≠.cell) (hkind:scope.kind=.function)
  (hnames:∀ y∈scope.names,y.2=.local -> scope.names.lookup y.1=some .local) (hx:scope.names.lookup x=some .local)
  (h:wpAny (model prog w) A (eval iter env) (TSrc prog w A h₀ L m env elt x scope cl (fun s₂=>LCg.FinE h₀ L m s₂ Q)) E s)
  (hs:∀ x,foldedSetIterable iter env x=pure x:=by intro _;rfl) :
  wpAny (model prog w) A (eval (.ListComp elt [⟨.Name x px,iter,[],0⟩] scope pos) env) Q E s:=by
 rw [eval_ListComp]
 refine wpAny_comprehension_free (use:=none) rfl hs hclos hkind hnames (wpAny_mono h (fun xv s₁ h₁=>?_) fun _ _ e=>e)
 obtain ⟨y,t,news,rfl,hh,F,N,hsz,R⟩:=h₁
 have hfp:∀ (o:Obj),∀ b∈[s₁.heap.objs.size],b < (s₁.heap.push o).objs.size:=fun o b hb=>by
  rw [List.mem_singleton.mp hb,Heap.size_push];exact Nat.lt_succ_self _
 cases ha:y.cps.all (· < 128)
 ·exact wpAny_pyIter_wide ha (LCg.block_U (Walks.strWide hh _ y t) hsz (fun i h st=>by obtain ⟨o,e,_⟩:=st;exact ⟨o,e⟩) str_st hcell hkind hx ⟨_,Heap.get?_push_size _ rfl,rfl,rfl⟩ (hfp _)
   (F.keeps fun _ _ e=>Heap.get?_push_of_some _ e) (N.grown fun _ _ e=>Heap.get?_push_of_some _ e) (Nat.ne_of_lt F.ns.lt) (next_is_new F) (fun p hp=>Nat.ne_of_lt (Heap.lt_size (N p hp).1)) trivial (R _) fin_of)
 ·exact wpAny_pyIter_ascii ha (LCg.block_U (Walks.strAscii hh _ y t) hsz (fun i h st=>by obtain ⟨o,e,_⟩:=st;exact ⟨o,e⟩) str_st hcell hkind hx ⟨_,Heap.get?_push_size _ rfl,rfl,rfl⟩ (hfp _)
   (F.keeps fun _ _ e=>Heap.get?_push_of_some _ e) (N.grown fun _ _ e=>Heap.get?_push_of_some _ e) (Nat.ne_of_lt F.ns.lt) (next_is_new F) (fun p hp=>Nat.ne_of_lt (Heap.lt_size (N p hp).1)) trivial (R _) fin_of)
theorem LC_textT {ct elt iter:Expr} {x:Str} {px:Pos} {scope:Scope} {cl:List (Str×Addr)} {pos:Pos} {Q:Value -> Shared -> Prop}
  (F₀:Fr h₀ L s.heap m) (hclos:closureFor scope env=pure cl) (hcell:∀ y∈scope.names,y.2≠.cell) (hkind:scope.kind=.function)
  (hnames:∀ y∈scope.names,y.2=.local -> scope.names.lookup y.1=some .local) (hx:scope.names.lookup x=some .local)
  (h:wpAny (model prog w) A (eval iter env) (TSrcT prog w A h₀ L m env ct elt x scope cl (fun s₂=>LCg.FinE h₀ L m s₂ Q)) E s)
  (hs:∀ x,foldedSetIterable iter env x=pure x:=by intro _;rfl) :
  wpAny (model prog w) A (eval (.ListComp elt [⟨.Name x px,iter,[ct],0⟩] scope pos) env) Q E s:=by
 rw [eval_ListComp]
 refine wpAny_comprehension_free (use:=none) rfl hs hclos hkind hnames (wpAny_mono h (fun xv s₁ h₁=>?_) fun _ _ e=>e)
 obtain ⟨y,t,news,rfl,hh,F,N,hsz,R⟩:=h₁
 have hfp:∀ (o:Obj),∀ b∈[s₁.heap.objs.size],b < (s₁.heap.push o).objs.size:=fun o b hb=>by
  rw [List.mem_singleton.mp hb,Heap.size_push];exact Nat.lt_succ_self _
 cases ha:y.cps.all (· < 128)
 ·exact wpAny_pyIter_wide ha (LCt.block_T (Walks.strWide hh _ y t) hsz (fun i h st=>by obtain ⟨o,e,_⟩:=st;exact ⟨o,e⟩) str_st hcell hkind hx ⟨_,Heap.get?_push_size _ rfl,rfl,rfl⟩ (hfp _)
   (F.keeps fun _ _ e=>Heap.get?_push_of_some _ e) (N.grown fun _ _ e=>Heap.get?_push_of_some _ e) (Nat.ne_of_lt F.ns.lt) (next_is_new F) (fun p hp=>Nat.ne_of_lt (Heap.lt_size (N p hp).1)) trivial (R _) fin_of)
 ·exact wpAny_pyIter_ascii ha (LCt.block_T (Walks.strAscii hh _ y t) hsz (fun i h st=>by obtain ⟨o,e,_⟩:=st;exact ⟨o,e⟩) str_st hcell hkind hx ⟨_,Heap.get?_push_size _ rfl,rfl,rfl⟩ (hfp _)
   (F.keeps fun _ _ e=>Heap.get?_push_of_some _ e) (N.grown fun _ _ e=>Heap.get?_push_of_some _ e) (Nat.ne_of_lt F.ns.lt) (next_is_new F) (fun p hp=>Nat.ne_of_lt (Heap.lt_size (N p hp).1)) trivial (R _) fin_of)
variable {ct elt:Expr} {x:Str} {scope:Scope} {cl:List (Str×Addr)} {S:List (Addr×Obj) -> Prop} {P:Nat -> Value -> Prop} {Fin:List Value -> List (Addr×Obj) -> Prop} {news:List (Addr×Obj)}
theorem ce_mk {L I C D:Addr} {m:Str -> Option Value} {s₁:Shared} {oI oC oD:Obj} {S:List (Addr×Obj) -> Prop} {rest:Value -> List (Addr×Obj) -> Prop} {y:Value} {h':Heap} {tk:Nat} {nw:List (Addr×Obj)} (F:Fr h₀ L h' m) (N:News h₀ L h' ((I,oI)::(C,oC)::(D,oD)::nw)) (off:LCg.Off3 I C D nw) (hS:S nw) (r:rest y nw) :
  LCg.CompEnd h₀ L m s₁ I oI C oC D oD S rest y { s₁ with heap:=h',toks:=tk }:=⟨h',tk,nw,rfl,F,N,off,hS,r⟩
theorem ce_mono {L I C D:Addr} {m:Str -> Option Value} {s₁ s₂:Shared} {oI oC oD:Obj} {S:List (Addr×Obj) -> Prop} {r r':Value -> List (Addr×Obj) -> Prop} {y:Value} (h:LCg.CompEnd h₀ L m s₁ I oI C oC D oD S r y s₂)
  (k:∀ nw,r y nw -> r' y nw):LCg.CompEnd h₀ L m s₁ I oI C oC D oD S r' y s₂:=by
 obtain ⟨h',tk,nw,e,F,N,off,hS,r⟩:=h
 exact ⟨h',tk,nw,e,F,N,off,hS,k nw r⟩
theorem rest_J {n:Nat} (J:Nat -> List Value -> List (Addr×Obj) -> Prop) (h0:J 0 [] news)
  (turn:∀ i v I oI C oC D m₂ ys news₁ h tk (E':Value -> Shared -> Prop),i < n -> P i v -> J i ys news₁ -> LCg.NsObj oC m₂ -> m₂ x=some v -> Fr h₀ L h m -> News h₀ L h ((I,oI)::(C,oC)::(D,LCg.lst ys)::news₁) -> LCg.Off3 I C D news₁ -> ((@Ne Nat I C) /\ (@Ne Nat I D) /\ (@Ne Nat C D)) →
   wpAny (model prog w) A (eval elt (compEnvC scope cl C env)) (LCg.CompEnd h₀ L m { s with heap:=h,toks:=tk } I oI C oC D (LCg.lst ys) S (fun y news'=>J (i+1) (ys ++ [y]) news')) E' { s with heap:=h,toks:=tk })
  (fin:∀ ys news',J n ys news' -> Fin ys news'):LCg.CompRest prog w A h₀ L m env elt x scope cl s S P Fin n 0 [] news:=by
 have key:∀ (j i:Nat) (ys:List Value) (nw:List (Addr×Obj)),i+j=n -> J i ys nw -> LCg.CompRest prog w A h₀ L m env elt x scope cl s S P Fin j i ys nw:=by
  intro j;induction j with
  | zero =>
   intro i ys nw hi hJ;obtain rfl:i=n:=by omega
   exact LCg.CompRest.zero (fin _ _ hJ)
  | succ j ih =>
   intro i ys nw hi hJ;refine LCg.CompRest.succ ?_
   intro v I oI C oC D m₂ h tk E' hv hC hx F N off ne;refine wpAny_mono (turn i v I oI C oC D m₂ ys nw h tk E' (by omega) hv hJ hC hx F N off ne) (fun y s₂ hq=>?_) fun _ _ e=>e
   exact ce_mono hq fun nw' hJ'=>ih (i+1) _ _ (by omega) hJ'
 exact key n 0 [] news (by omega) h0
theorem restT_J {n:Nat} (J:Nat -> List Value -> List (Addr×Obj) -> Prop) (h0:J 0 [] news)
  (turn:∀ i v I oI C oC D m₂ ys news₁ h tk (E':Value -> Shared -> Prop),i < n -> P i v -> J i ys news₁ -> LCg.NsObj oC m₂ -> m₂ x=some v -> Fr h₀ L h m -> News h₀ L h ((I,oI)::(C,oC)::(D,LCg.lst ys)::news₁) -> LCg.Off3 I C D news₁ -> ((@Ne Nat I C) /\ (@Ne Nat I D) /\ (@Ne Nat C D)) →
   wpAny (model prog w) A (isTrue ct (compEnvC scope cl C env) (eval ct (compEnvC scope cl C env))) (fun ok s'=>if ok=true then
    wpAny (model prog w) A (eval elt (compEnvC scope cl C env)) (LCg.CompEnd h₀ L m { s with heap:=h,toks:=tk } I oI C oC D (LCg.lst ys) S (fun y news'=>J (i+1) (ys ++ [y]) news')) E' s'
    else LCg.CompEnd h₀ L m { s with heap:=h,toks:=tk } I oI C oC D (LCg.lst ys) S (fun _ news'=>J (i+1) ys news') Value.none s') E' { s with heap:=h,toks:=tk })
  (fin:∀ ys news',J n ys news' -> Fin ys news'):LCt.CompRestT prog w A h₀ L m env ct elt x scope cl s S P Fin n 0 [] news:=by
 have key:∀ (j i:Nat) (ys:List Value) (nw:List (Addr×Obj)),i+j=n -> J i ys nw -> LCt.CompRestT prog w A h₀ L m env ct elt x scope cl s S P Fin j i ys nw:=by
  intro j;induction j with
  | zero =>
   intro i ys nw hi hJ;obtain rfl:i=n:=by omega
   exact LCt.CompRestT.zero (fin _ _ hJ)
  | succ j ih =>
   intro i ys nw hi hJ;refine LCt.CompRestT.succ ?_
   intro v I oI C oC D m₂ h tk E' hv hC hx F N off ne;refine wpAny_mono (turn i v I oI C oC D m₂ ys nw h tk E' (by omega) hv hJ hC hx F N off ne) (fun ok s₂ hq=>?_) fun _ _ e=>e
   cases ok with
   | true =>
    simp only [if_true] at hq ⊢
    refine wpAny_mono hq (fun y s₃ hr=>?_) fun _ _ e=>e
    obtain ⟨h',tk',nw',e,F',N',off',hS,hJ'⟩:=hr
    exact ⟨h',tk',nw',e,F',N',off',hS,ih (i+1) _ _ (by omega) hJ'⟩
   | false =>
    simp only [Bool.false_eq_true,if_false] at hq ⊢
    exact ce_mono hq fun nw' hJ'=>ih (i+1) _ _ (by omega) hJ'
 exact key n 0 [] news (by omega) h0
theorem rest_pure {α:Type} {l:List α} {n:Nat} (It Rt:α -> Value -> Prop) (hn:l.length=n) (hP:∀ i v,i < n -> P i v -> ∃ a,l[i]?=some a /\ It a v)
  (turn:∀ a v I oI C oC D m₂ ys h tk (E':Value -> Shared -> Prop),a∈l -> It a v -> LCg.NsObj oC m₂ -> m₂ x=some v -> Fr h₀ L h m -> News h₀ L h ((I,oI)::(C,oC)::(D,LCg.lst ys)::news) -> LCg.Off3 I C D news -> ((@Ne Nat I C) /\ (@Ne Nat I D) /\ (@Ne Nat C D)) →
   wpAny (model prog w) A (eval elt (compEnvC scope cl C env)) (LCg.CompEnd h₀ L m { s with heap:=h,toks:=tk } I oI C oC D (LCg.lst ys) S (fun y news'=>news'=news /\ Rt a y)) E' { s with heap:=h,toks:=tk })
  (fin:∀ ys,Paired Rt l ys -> Fin ys news):LCg.CompRest prog w A h₀ L m env elt x scope cl s S P Fin n 0 [] news:=by
 refine rest_J (fun i ys nw=>nw=news /\ Paired Rt (l.take i) ys) ⟨rfl,by simpa using Paired.nil⟩ ?_ ?_
 ·rintro i v I oI C oC D m₂ ys _ h tk E' hi hv ⟨rfl,hJ⟩ hC hx F N off ne
  obtain ⟨a,ha,hI⟩:=hP i v hi hv
  refine wpAny_mono (turn a v I oI C oC D m₂ ys h tk E' (List.mem_of_getElem? ha) hI hC hx F N off ne) (fun y s₂ hq=>?_) fun _ _ e=>e
  refine ce_mono hq ?_
  rintro nw' ⟨rfl,hr⟩
  refine ⟨rfl,?_⟩
  rw [List.take_add_one,ha]
  exact Paired.snoc hJ hr
 ·rintro ys _ ⟨rfl,hJ⟩
  rw [<- hn,List.take_length] at hJ
  exact fin ys hJ
theorem restT_pure {α:Type} {l:List α} {n:Nat} (It Rt:α -> Value -> Prop) (p:α -> Bool) (hn:l.length=n) (hP:∀ i v,i < n -> P i v -> ∃ a,l[i]?=some a /\ It a v)
  (turn:∀ a v I oI C oC D m₂ ys h tk (E':Value -> Shared -> Prop),a∈l -> It a v -> LCg.NsObj oC m₂ -> m₂ x=some v -> Fr h₀ L h m -> News h₀ L h ((I,oI)::(C,oC)::(D,LCg.lst ys)::news) -> LCg.Off3 I C D news -> ((@Ne Nat I C) /\ (@Ne Nat I D) /\ (@Ne Nat C D)) →
   wpAny (model prog w) A (isTrue ct (compEnvC scope cl C env) (eval ct (compEnvC scope cl C env))) (fun ok s'=>if ok=true then
    wpAny (model prog w) A (eval elt (compEnvC scope cl C env)) (LCg.CompEnd h₀ L m { s with heap:=h,toks:=tk } I oI C oC D (LCg.lst ys) S (fun y news'=>p a=true /\ news'=news /\ Rt a y)) E' s'
    else LCg.CompEnd h₀ L m { s with heap:=h,toks:=tk } I oI C oC D (LCg.lst ys) S (fun _ news'=>p a=false /\ news'=news) Value.none s') E' { s with heap:=h,toks:=tk })
  (fin:∀ ys,Paired Rt (l.filter p) ys -> Fin ys news):LCt.CompRestT prog w A h₀ L m env ct elt x scope cl s S P Fin n 0 [] news:=by
 refine restT_J (fun i ys nw=>nw=news /\ Paired Rt ((l.take i).filter p) ys) ⟨rfl,by simpa using Paired.nil⟩ ?_ ?_
 ·rintro i v I oI C oC D m₂ ys _ h tk E' hi hv ⟨rfl,hJ⟩ hC hx F N off ne
  obtain ⟨a,ha,hI⟩:=hP i v hi hv
  refine wpAny_mono (turn a v I oI C oC D m₂ ys h tk E' (List.mem_of_getElem? ha) hI hC hx F N off ne) (fun ok s₂ hq=>?_) fun _ _ e=>e
  have e9:(l.take (i+1)).filter p=(l.take i).filter p ++ (if p a then [a] else []):=by
   rw [List.take_add_one,ha,List.filter_append]
   cases h9:p a<;>simp [h9]
  cases ok with
  | true =>
   simp only [if_true] at hq ⊢
   refine wpAny_mono hq (fun y s₃ hr=>?_) fun _ _ e=>e
   refine ce_mono hr ?_
   rintro nw' ⟨hp,rfl,hr2⟩
   refine ⟨rfl,?_⟩
   rw [e9,hp]
   exact Paired.snoc hJ hr2
  | false =>
   simp only [Bool.false_eq_true,if_false] at hq ⊢
   refine ce_mono hq ?_
   rintro nw' ⟨hp,rfl⟩
   refine ⟨rfl,?_⟩
   rw [e9,hp]
   simpa using hJ
 ·rintro ys _ ⟨rfl,hJ⟩
  rw [<- hn,List.take_length] at hJ
  exact fin ys hJ
noncomputable def IsSign (c:Nat) (v:Value):Prop:=∃ u,v=.str ⟨#[c]⟩ u
noncomputable def IsText {α:Type} (f:α -> Str) (a:α) (v:Value):Prop:=∃ u,v=.str (f a) u
theorem signs_of {y:Str}:∀ i v,i < y.cps.size -> SignAt y i v -> ∃ c,y.cps.toList[i]?=some c /\ IsSign c v:=by
 rintro i v _ ⟨c,u,h,rfl⟩
 exact ⟨c,by rw [Array.getElem?_toList];exact h,u,rfl⟩
theorem strs_paired {α:Type} {f:α -> Str} {l:List α} {ys:List Value} (h:Paired (IsText f) l ys):StrsAre ys (l.map f):=by
 induction h with
 | nil=>exact .nil
 | cons h _ ih =>
  obtain ⟨t,rfl⟩:=h
  exact .cons _ t ih
theorem TSrc.intro {y:Str} {t:Tok} {news:List (Addr×Obj)} {Fin:Shared -> List Value -> List (Addr×Obj) -> Prop} {s₁:Shared} (hh:A.handled=none) (F:Fr h₀ L s₁.heap m) (N:News h₀ L s₁.heap news) (hz:y.cps.size <= sizeLine)
  (h:∀ g,LCg.CompRest prog w A h₀ L m env elt x scope cl { s₁ with heap:=g } (fun _=>True) (SignAt y) (Fin { s₁ with heap:=g }) y.cps.size 0 [] news):TSrc prog w A h₀ L m env elt x scope cl Fin (.str y t) s₁:=⟨y,t,news,rfl,hh,F,N,hz,h⟩
theorem TSrcT.intro {y:Str} {t:Tok} {news:List (Addr×Obj)} {Fin:Shared -> List Value -> List (Addr×Obj) -> Prop} {s₁:Shared} (hh:A.handled=none) (F:Fr h₀ L s₁.heap m) (N:News h₀ L s₁.heap news) (hz:y.cps.size <= sizeLine)
  (h:∀ g,LCt.CompRestT prog w A h₀ L m env ct elt x scope cl { s₁ with heap:=g } (fun _=>True) (SignAt y) (Fin { s₁ with heap:=g }) y.cps.size 0 [] news):TSrcT prog w A h₀ L m env ct elt x scope cl Fin (.str y t) s₁:=⟨y,t,news,rfl,hh,F,N,hz,h⟩
end
end
theorem reg24:True:=by
 w_top off
 trivial
section
noncomputable def foldT (y:Str):Str:=Txt.join ("":Str) ((y.cps.toList.filter fun c=>!b1Has (oneF (one c))).map fun c=>mapB3 (one c))
noncomputable def endT (c:Nat):Str:=if (one c == (" ":Str))=true then (";":Str) else one c
noncomputable def prepT (y:Str):Str:=Txt.join ("":Str) ((foldT y).cps.toList.map endT)
theorem join_size (ls:List Str):(Txt.join ("":Str) ls).cps.size=(ls.map (·.length)).sum:=by
 rw [txt_join,<- Array.length_toList,join_cps,List.length_flatten,List.map_map]
 congr 1
theorem join_small {ls:List Str} {n k:Nat} (h:(Txt.join ("":Str) ls).cps.size <= n) (h2:ls.length <= k) (h3:n+k <= 1048576):(ls.map (·.length)).sum+ls.length <= 1048576:=by
 rw [join_size] at h
 omega
theorem endT_len (c:Nat):(endT c).length=1:=by
 unfold endT
 split<;>rfl
theorem sum_ones {α:Type} (f:α -> Nat) (h:∀ a,f a=1):∀ l:List α,(l.map f).sum=l.length
 | []=>rfl
 | a::l=>by rw [List.map_cons,List.sum_cons,h,sum_ones f h l,List.length_cons];omega
theorem reg25:True:=by
 w_top off
 k_with "eval ListComp"=>(k_extra "a";k_here;(with_reducible show wpAny _ _ (eval (Expr.ListComp _ [⟨_,_,[],_⟩] _ _) _) _ _ _);k_dflt (refine LC_text (F₀:=by k_asm) (by with_unfolding_all rfl) (by decide) (by rfl) (by decide) (by rfl) ?_))
 k_with "eval ListComp"=>(k_extra "a";k_here;(with_reducible show wpAny _ _ (eval (Expr.ListComp _ [⟨_,_,[_],_⟩] _ _) _) _ _ _);k_dflt (refine LC_textT (F₀:=by k_asm) (by with_unfolding_all rfl) (by decide) (by rfl) (by decide) (by rfl) ?_))
 k_with "call ref"=>(k_extra "a";k_here;k_dflt (refine' in_b1 ?B ?F ?X ?T ?hk ?hd ?hu ?N ?h1 ?_;k_extra "cB";(case hu=>k_extra "hu");(case N=>k_asm);(case h1=>exact rfl);k_whole);intro h'z tk'z F'z N'z;(try dsimp only))
 k_with "call ref"=>(k_extra "a";k_here;k_dflt (refine' in_c11 ?B ?F ?X ?T ?hk ?hd ?hu ?N ?_;k_extra "cB";(case hu=>k_extra "hu");(case N=>k_asm);k_whole);intro h'z tk'z F'z N'z;(try dsimp only))
 k_with "call ref"=>(k_extra "a";k_here;k_dflt (refine' map_b3 ?B ?F ?X ?T ?hk ?hd ?hu ?N ?h1 ?_;k_extra "cB";(case hu=>k_extra "hu");(case N=>k_asm);(case h1=>exact rfl);k_whole);intro t'z h'z tk'z F'z N'z;(try dsimp only))
 trivial
section
variable
 {news:List (Addr×Obj)} {y:Str} {t1:Tok}
variable (B:Below A₀ base outer h₀) (F:Fr h₀ L s.heap m) (X:(KK w.params).In h₀) (T:Top p loose mean mg mb h₀) (hk:cs₀.kind=.function) (hd:dp+40 < recursionLimit) (hu:un+250 < cLine)
 (N:News h₀ L s.heap news)
noncomputable def S_law_prep :Prop:=∀ (B:Below A₀ base outer h₀) (F:Fr h₀ L s.heap m) (X:(KK w.params).In h₀) (T:Top p loose mean mg mb h₀) (hk:cs₀.kind=.function) (hd:dp+40 < recursionLimit) (hu:un+250 < cLine) (N:News h₀ L s.heap news) (hy:y.cps.size <= 300) (hy2:(foldT y).cps.size <= 1000) (hret:∀ (t:Tok) (h':Heap) (tk':Nat),Fr h₀ L h' m -> News h₀ L h' news -> Q (.str (prepT y) t) { s with heap:=h',toks:=tk' }),wpAny (model rw_rw0127_01.row.prog w) (ktrTop dp un gd cn cs₀ L a ccd cl outer) (call (.ref 336) [.str y t1]) Q E s
namespace e_law_prep
noncomputable abbrev Sd:=fun z:((((_×_×_)×_×_×_)×(_×_×_)×(_×_)×_×_)×((_×_×_)×_×_×_)×(_×_×_)×(_×_)×_×_)=>@S_law_prep z.1.1.1.1 z.1.1.1.2.1 z.1.1.1.2.2 z.1.1.2.1 z.1.1.2.2.1 z.1.1.2.2.2 z.1.2.1.1 z.1.2.1.2.1 z.1.2.1.2.2 z.1.2.2.1.1 z.1.2.2.1.2 z.1.2.2.2.1 z.1.2.2.2.2 z.2.1.1.1 z.2.1.1.2.1 z.2.1.1.2.2 z.2.1.2.1 z.2.1.2.2.1 z.2.1.2.2.2 z.2.2.1.1 z.2.2.1.2.1 z.2.2.1.2.2 z.2.2.2.1.1 z.2.2.2.1.2 z.2.2.2.2.1 z.2.2.2.2.2
@[irreducible] def κ:=pick (by k_extra "ne") Sd
def y_:=κ.2.2.2.2.1
noncomputable abbrev Sc:=@S_law_prep κ.1.1.1.1 κ.1.1.1.2.1 κ.1.1.1.2.2 κ.1.1.2.1 κ.1.1.2.2.1 κ.1.1.2.2.2 κ.1.2.1.1 κ.1.2.1.2.1 κ.1.2.1.2.2 κ.1.2.2.1.1 κ.1.2.2.1.2 κ.1.2.2.2.1 κ.1.2.2.2.2 κ.2.1.1.1 κ.2.1.1.2.1 κ.2.1.1.2.2 κ.2.1.2.1 κ.2.1.2.2.1 κ.2.1.2.2.2 κ.2.2.1.1 κ.2.2.1.2.1 κ.2.2.1.2.2 κ.2.2.2.1.1 κ.2.2.2.1.2 y_ κ.2.2.2.2.2
omit B F X T hk hd hu N in
noncomputable def seg:PSigma fun P:Heap -> Addr -> Heap -> Prop=>(∀ g L h,P g L h) -> Sc:=⟨_,by
 intro hP;unfold Sc S_law_prep
 intro B F X T hk hd hu N hy hy2 hret;revert X;k_fill;intro X;refine wpAny_call ?_;(k_extra "eD";intro g' L' h' FG' F' N' B' X' T';revert B F T hk hd hu N hy hy2 hret X FG' F' N' B' X' T';exact hP g' L' h')⟩
@[irreducible] def σ:=pick (inferInstance:Nonempty (Heap×Addr×Heap)) fun d=>seg.1 d.1 d.2.1 d.2.2
theorem body:seg.1 σ.1 σ.2.1 σ.2.2:=by
 intro B F T hk hd hu N hy hy2 hret X FG' F' N' B' X' T';(k_extra "tl")
 k_steps;(rename Fr _ _ _ _=>lF');(rename News _ _ _ _=>lN');k_dflt (refine' TSrcT.intro rfl lF' lN' ?z (fun g=>restT_pure (l:=y_.cps.toList) IsSign (IsText fun c=>mapB3 (one c)) (fun c=>!b1Has (oneF (one c))) (by simp) signs_of ?turn ?fin);(case z=>rw [sizeLine_eq];omega))
 case turn =>
  rintro c v I oI C oC D m₂ ys h tk E' hc ⟨u,rfl⟩ hC hx F' N' off ne
  (try clear lF');(try clear lN')
  k_steps
  ·(rename b1Has _=_=>e9)
   exact (ce_mk (by assumption) (by assumption) off trivial ⟨by rw [show b1Has (oneF (one c))=true from e9];rfl,rfl⟩)
  ·(rename b1Has _=_=>e9)
   exact (ce_mk (by assumption) (by assumption) off trivial ⟨by rw [show b1Has (oneF (one c))=false from e9];rfl,rfl,_,rfl⟩)
 case fin =>
  intro ys hp;have hs:=strs_paired hp
  (try clear lF');(try clear lN')
  k_steps;(rename Fr _ _ _ _=>lF');(rename News _ _ _ _=>lN');have hfl:(y_.cps.toList.filter fun c=>!b1Has (oneF (one c))).length <= 300:=Nat.le_trans (List.length_filter_le _ _) (by simpa using hy)
  k_dflt (refine' join_listW (ys:=(y_.cps.toList.filter fun c=>!b1Has (oneF (one c))).map fun c=>mapB3 (one c)) (items:=ys.toArray) ⟨_,News.get lN' (by k_mem),rfl,_,rfl⟩ ?hi ?hs ?hz (fun t' k'=>?_);(case hi=>simpa using hs);(case hs=>decide +kernel);(case hz=>exact join_small hy2 (k:=300) (by rw [List.length_map];exact hfl) (by decide)))
  have eft:Txt.join ("":Str) ((y_.cps.toList.filter fun c=>!b1Has (oneF (one c))).map fun c=>mapB3 (one c))=foldT y_:=rfl
  rw [eft]
  k_steps;(try clear lF');(try clear lN')
  (rename Fr _ _ _ _=>lF');(rename News _ _ _ _=>lN');k_dflt (refine' TSrc.intro rfl lF' lN' ?z (fun g=>rest_pure (l:=(foldT y_).cps.toList) IsSign (IsText endT) (by simp) signs_of ?turn ?fin);(case z=>rw [sizeLine_eq];omega))
  case turn =>
   rintro c v I oI C oC D m₂ ys h tk E' hc ⟨u,rfl⟩ hC hx F' N' off ne
   (try clear lF');(try clear lN')
   k_steps
   ·(rename (_ == _)=true=>e9)
    have e8:endT c=(";":Str):=if_pos e9
    exact (ce_mk (by assumption) (by assumption) off trivial ⟨rfl,_,by rw [e8]⟩)
   ·(rename (_ == _)=false=>e9)
    have e8:endT c=one c:=if_neg (fun h=>by rw [show (one c == (" ":Str))=false from e9] at h;cases h)
    exact (ce_mk (by assumption) (by assumption) off trivial ⟨rfl,u,by rw [e8];rfl⟩)
  case fin =>
   intro ys hp;have hs:=strs_paired hp
   (try clear lF');(try clear lN')
   k_steps;(rename Fr _ _ _ _=>lF');(rename News _ _ _ _=>lN');k_dflt (refine' join_listW (ys:=(foldT y_).cps.toList.map endT) (items:=ys.toArray) ⟨_,News.get lN' (by k_mem),rfl,_,rfl⟩ ?hi ?hs ?hz (fun t' k'=>?_);(case hi=>simpa using hs);(case hs=>decide +kernel);(case hz=>rw [show (((foldT y_).cps.toList.map endT).map (·.length)).sum=(foldT y_).cps.toList.length by rw [List.map_map];exact sum_ones _ endT_len _,List.length_map,Array.length_toList];omega))
   k_steps;(rename News _ _ _ _=>kN9);exact hret _ _ _ (by assumption) (fun p hp=>kN9 p (List.mem_cons_of_mem _ (List.mem_cons_of_mem _ hp)))
theorem core:Sc:=seg.2 fun g L h=>pick_all (P:=fun d:Heap×Addr×Heap=>seg.1 d.1 d.2.1 d.2.2) (by with_unfolding_all exact body) (g,L,h)
end e_law_prep
theorem law_prep :@S_law_prep w mean mg mb p loose dp un gd cn cs₀ a ccd cl outer A₀ base h₀ L m s Q E news y t1:=@pick_all _ _ e_law_prep.Sd (by with_unfolding_all exact e_law_prep.core) ((((_,_,_),_,_,_),(_,_,_),(_,_),_,_),((_,_,_),_,_,_),(_,_,_),(_,_),_,_)
end
end
section
theorem ite_p {c p q:Prop} [Decidable c] (hc:c) (h:p):(if c then p else q):=by rw [if_pos hc];exact h
theorem ite_n {c p q:Prop} [Decidable c] (hc:¬ c) (h:q):(if c then p else q):=by rw [if_neg hc];exact h
theorem news_skip1 {h₀ h:Heap} {L:Addr} {x y:Addr×Obj} {r:List (Addr×Obj)} (N:News h₀ L h (x::y::r)):News h₀ L h (x::r):=fun p hp=>N p (by
 rcases List.mem_cons.mp hp with e | e
 ·exact List.mem_cons.mpr (.inl e)
 ·exact List.mem_cons_of_mem _ (List.mem_cons_of_mem _ e))
noncomputable def Ov (ns:List Str) (m₀ m:Str -> Option Value):Prop:=∀ z,z∉ns -> m z=m₀ z
noncomputable def ovF (g:Str -> Option Value):List Str -> (Str -> Option Value) -> Str -> Option Value
 | [],m₀=>m₀
 | a::r,m₀=>fun z=>if z=a then g a else ovF g r m₀ z
theorem ovF_n {g m:Str -> Option Value}:ovF g [] m=m:=rfl
theorem ovF_c {g m:Str -> Option Value} {a:Str} {r:List Str}:ovF g (a::r) m=fun z=>if z=a then g a else ovF g r m z:=rfl
theorem Ov.form:∀ {ns:List Str} {m₀ m:Str -> Option Value},Ov ns m₀ m -> m=ovF m ns m₀:=by
 have key:∀ (ns:List Str) (m₀ m:Str -> Option Value) (z:Str),(z∉ns -> m z=m₀ z) -> m z=ovF m ns m₀ z:=by
  intro ns;induction ns with
  | nil=>intro m₀ m z h;exact h (fun h=>nomatch h)
  | cons a r ih =>
   intro m₀ m z h;show m z=if z=a then m a else ovF m r m₀ z
   by_cases hz:z=a
   ·rw [if_pos hz,hz]
   ·rw [if_neg hz]
    exact ih m₀ m z fun hr=>h fun hm=>by
     rcases List.mem_cons.mp hm with e | e
     ·exact hz e
     ·exact hr e
 intro ns m₀ m h;funext z
 exact key ns m₀ m z (h z)
theorem Ov.refl {ns:List Str} {m:Str -> Option Value}:Ov ns m m:=fun _ _=>rfl
theorem Ov.set {ns:List Str} {m₀ m:Str -> Option Value} {x:Str} {v:Option Value} (h:Ov ns m₀ m) (hx:x∈ns):Ov ns m₀ (fun z=>if z=x then v else m z):=fun z hz=>by
 show (if z=x then v else m z)=m₀ z
 have hn:¬ z=x:=fun e=>hz (by rw [e];exact hx)
 rw [if_neg hn]
 exact h z hz
theorem ov_self {ns:List Str} {g m₀:Str -> Option Value}:Ov ns m₀ (ovF g ns m₀):=by
 induction ns with
 | nil=>exact fun _ _=>rfl
 | cons a r ih =>
  intro z hz;show (if z=a then g a else ovF g r m₀ z)=m₀ z
  rw [if_neg (fun e=>hz (by rw [e];exact List.mem_cons_self))]
  exact ih z fun h=>hz (List.mem_cons_of_mem _ h)
theorem fr_form {h₀ h:Heap} {L:Addr} {x:Str} {v:Option Value} {ns:List Str} {m₀ m₁:Str -> Option Value} (o:Ov ns m₀ m₁) (F:Fr h₀ L h (fun z=>if z=x then v else m₁ z)):∃ g,Fr h₀ L h (fun z=>if z=x then v else ovF g ns m₀ z):=⟨m₁,by
 have e:=o.form
 rw [e] at F
 exact F⟩
theorem fr_formK {h₀ h:Heap} {L:Addr} {x:Str} {v:Option Value} {ns:List Str} {m₀ m₁:Str -> Option Value} (o:Ov ns m₀ m₁) (F:Fr h₀ L h (fun z=>if z=x then v else m₁ z)):Fr h₀ L h (fun z=>if z=x then v else ovF m₁ ns m₀ z):=by
 have e:=o.form
 rw [<- e]
 exact F
theorem fr_form0 {h₀ h:Heap} {L:Addr} {ns:List Str} {m₀ m₁:Str -> Option Value} (o:Ov ns m₀ m₁) (F:Fr h₀ L h m₁):∃ g,Fr h₀ L h (fun z=>ovF g ns m₀ z):=⟨m₁,by
 have e:=o.form
 rw [e] at F
 exact F⟩
section
variable {M:Model} {prog:Program} {w:World} {A:Around} {env:Env} {E:Value -> Shared -> Prop} {Q:Value -> Shared -> Prop} {h:Heap} {g:Array GenState} {d:Drawn} {tk:Nat} {o:OsState}
theorem cintL {i:Int} {k:Nat} {pos:Pos} (H:∀ t tk',Q (.int i t) ⟨h,g,d,tk',o⟩):wpAny M A (eval (.Constant (.int i) k pos) env) Q E ⟨h,g,d,tk,o⟩:=wpAny_Constant_int (H _ _)
theorem addL {a b:Int} {t u:Tok} (H:∀ t tk',Q (.int (a+b) t) ⟨h,g,d,tk',o⟩):wpAny (model prog w) A (binaryOp .Add (.int a t) (.int b u)) Q E ⟨h,g,d,tk,o⟩:=PyProof.Rows.add_int (H _ _)
theorem subL {a b:Int} {t u:Tok} (H:∀ t tk',Q (.int (a - b) t) ⟨h,g,d,tk',o⟩):wpAny (model prog w) A (binaryOp .Sub (.int a t) (.int b u)) Q E ⟨h,g,d,tk,o⟩:=PyProof.Rows.sub_int (H _ _)
end
inductive GrowJ (g₀:Array GenState) (names:List Str) (m₀:Str -> Option Value) (news:List (Addr×Obj)) (rows:Addr) (R:Nat -> List Value -> Prop) (k:Nat) (m₁:Str -> Option Value) (nw:List (Addr×Obj)) (g:Array GenState):Prop
 | mk (a1:g=g₀) (a2:Ov names m₀ m₁) (vs:List Value) (n:Nat) (a3:nw=(rows,W.listOf vs.toArray n)::news) (a4:R k vs)
noncomputable def StrsR (f:Nat -> List Str) (k:Nat) (vs:List Value):Prop:=∃ rl:List (Str×Tok),vs=strValues rl /\ rl.map (·.1)=f k
theorem StrsR.zero {f:Nat -> List Str} (h:f 0=[]):StrsR f 0 []:=⟨[],rfl,h.symm⟩
open PySem.Builtin PySem.Builtin.Str in
theorem idx_clamp {n a j:Nat} (h:n <= j):strSliceIndices (some (a:Int)) (some (j:Int)) 1 n=strSliceIndices (some (a:Int)) (some (n:Int)) 1 n:=by
 have h0:∀ a:Nat,¬ ((a:Int) < 0):=fun a=>Int.not_lt.mpr (Int.natCast_nonneg a)
 have h2:(1:Int) > 0:=by decide
 have h4:(n:Int) <= (j:Int):=Int.ofNat_le.mpr h
 simp only [strSliceIndices,h0,h2,if_false,if_true,Int.min_eq_right h4,Int.min_self]
theorem slice_cut {x:Str} {a t:Nat} (h:a <= x.cps.size):(Txt.slice x (some (a:Int)) (some ((a:Int)+(t:Int)))).cps.toList=(x.cps.toList.drop a).take t:=by
 have hl:x.cps.toList.length=x.cps.size:=Array.length_toList
 by_cases hj:a+t <= x.cps.size
 ·have e:=eq_of_beq (slice_closes (x:=x) (i:=(a:Int)) (j:=(a:Int)+(t:Int)) ⟨by omega,by omega,by rw [hl];omega⟩)
  rw [e]
  show ((x.cps.toList.drop (a:Int).toNat).take ((a:Int)+(t:Int) - (a:Int)).toNat).toArray.toList=_
  rw [Int.add_comm,Int.add_sub_cancel,Int.toNat_natCast,Int.toNat_natCast]
 ·have e2:Txt.slice x (some (a:Int)) (some ((a:Int)+(t:Int)))=Txt.slice x (some (a:Int)) (some (x.cps.size:Int)):=by
   unfold Txt.slice
   rw [<- Int.natCast_add,show x.length=x.cps.size from rfl,idx_clamp (Nat.le_of_not_le hj)]
  have e:=eq_of_beq (slice_closes (x:=x) (i:=(a:Int)) (j:=(x.cps.size:Int)) ⟨by omega,by omega,by rw [hl];omega⟩)
  rw [e2,e]
  show ((x.cps.toList.drop (a:Int).toNat).take ((x.cps.size:Int) - (a:Int)).toNat).toArray.toList=_
  rw [Int.toNat_natCast,Int.toNat_sub,List.take_of_length_le (by rw [List.length_drop,hl];exact Nat.le_refl _),List.take_of_length_le (by rw [List.length_drop,hl];exact Nat.sub_le_of_le_add (Nat.add_comm a t▸Nat.le_of_not_le hj))]
theorem one_beq (c d:Nat):((⟨#[c]⟩:Str) == (⟨#[d]⟩:Str))=(c == d):=by
 by_cases h:c=d
 ·subst h;simp
 ·have h1:(c == d)=false:=by simpa using h
  rw [h1,Bool.eq_false_iff]
  intro h9;have h8:=congrArg (fun z:Str=>z.cps.getD 0 0) (eq_of_beq h9)
  exact h h8
theorem one_bne (c d:Nat):((⟨#[c]⟩:Str) != (⟨#[d]⟩:Str))=(c != d):=by
 rw [bne,one_beq];rfl
theorem ne_objs {h₀ h:Heap} {L x y:Addr} {o o':Obj} {led:List (Addr×Obj)} (N:News h₀ L h led) (h1:(x,o)∈led) (h2:(y,o')∈led) (hne:o.cls≠o'.cls):@Ne Nat x y:=fun e=>by
 have e1:=N.get h1
 have e2:=N.get h2
 rw [e,e2] at e1
 exact hne (by rw [<- Option.some.inj e1])
theorem cls_ne {o o':Obj} {x y:String} (h1:o.cls=.type x) (h2:o'.cls=.type y) (h:x≠y):o.cls≠o'.cls:=fun e=>by
 rw [h1,h2] at e
 injection e with e
 exact h e
theorem add_small {x y:Str} (h:x.cps.size <= 100000) (h2:y.cps.size <= 100000):x.length+y.length <= sizeLine:=by
 rw [sizeLine_eq]
 show x.cps.size+y.cps.size <= _
 omega
section
variable {prog:Program} {w:World} {A:Around} {E:Value -> Shared -> Prop} {s:Shared} {h₀:Heap} {L:Addr} {m:Str -> Option Value} {led:List (Addr×Obj)} {g:Obj -> List (Addr×Obj)}
theorem lst_appendV {ln:Addr} {vs:List Value} {n:Nat} {v:Value} {Q:Value -> Shared -> Prop} (F:Fr h₀ L s.heap m) (N:News h₀ L s.heap led) (U:UpdF ln (W.listOf vs.toArray n) led g) (hsz:vs.length <= 1000)
  (h:∀ h',Fr h₀ L h' m -> News h₀ L h' (g (W.listOf (vs ++ [v]).toArray (n+1))) -> Q .none { s with heap:=h' }) :
  wpAny (model prog w) A (call (.builtin "list.append") [.ref ln,v]) Q E s:=by
 have U':=updF_upd U (W.listOf (vs ++ [v]).toArray (n+1))
 have hx:=upd_get N U'
 have hT:s.TypeIs (.ref ln) "list":=⟨_,hx,rfl⟩
 refine wpAny_call_entry PySem.F.slot_list_append hT PySem.F.entry_list_append ?_ (PySem.F.args_list_append_2 _ _)
 show wpAny _ _ (updateSeq ln (·.push v) >>= fun _=>ret .none) _ _ s
 refine wpAny_bind (wpAny_updateSeq hx rfl ?_ (by simp [sizeLine_eq];omega) (by simp [sizeLine_eq];omega))
 have e:Obj.mapSeq (fun xs=>xs.push v) (W.listOf vs.toArray n)=W.listOf (vs ++ [v]).toArray (n+1):=by
  simp [Obj.mapSeq,Array.size_push]
 obtain ⟨F',N'⟩:=upd_news F N U' (Heap.SameBut.update (f:=Obj.mapSeq fun xs=>xs.push v) ..) (by rw [Heap.get?_update_self _ hx (by rw [e];rfl),e])
 exact wpAny_pure ⟨.none,rfl,h _ F' N'⟩
theorem list_in {ax:Addr} {vs:Array Value} {n:Nat} {h:Heap} (N:News h₀ L h led) (hm:(ax,W.listOf vs n)∈led):h.IsList ax vs:=⟨_,N.get hm,rfl,_,rfl⟩
theorem len_listV {ax:Addr} {vs:Array Value} {n:Nat} {Q:Value -> Shared -> Prop} (N:News h₀ L s.heap led) (hm:(ax,W.listOf vs n)∈led) (hz:vs.size <= 100000)
  (h:Q (.int (vs.size:Nat) (s.toks+1)) { s with toks:=s.toks+1+1 }):wpAny (model prog w) A (call (.builtin "len") [.ref ax]) Q E s :=
 len_list ⟨_,N.get hm,rfl,_,rfl⟩ (by omega) h
theorem len_strsV {ax:Addr} {l:List (Str×Tok)} {n:Nat} {Q:Value -> Shared -> Prop} (N:News h₀ L s.heap led) (hm:(ax,W.listOf (strValues l).toArray n)∈led) (hz:l.length <= 100000)
  (h:Q (.int (l.length:Nat) (s.toks+1)) { s with toks:=s.toks+1+1 }):wpAny (model prog w) A (call (.builtin "len") [.ref ax]) Q E s:=by
 have e:(strValues l).toArray.size=l.length:=by simp [strValues]
 exact len_listV N hm (by rw [e];exact hz) (by rw [e];exact h)
theorem len_intsV {ax:Addr} {vs:List Value} {cs:List Int} {n:Nat} {Q:Value -> Shared -> Prop} (N:News h₀ L s.heap led) (hm:(ax,W.listOf vs.toArray n)∈led) (hi:IntsAre vs cs) (hz:cs.length <= 100000)
  (h:Q (.int (cs.length:Nat) (s.toks+1)) { s with toks:=s.toks+1+1 }):wpAny (model prog w) A (call (.builtin "len") [.ref ax]) Q E s:=by
 have e:vs.toArray.size=cs.length:=by simp [hi.length]
 exact len_listV N hm (by rw [e];exact hz) (by rw [e];exact h)
theorem item_pick {ax:Addr} {vs:Array Value} {n:Nat} {k:Int} {t:Tok} {Q:Value -> Shared -> Prop} {value slice:PySem.Expr} (P:List (Addr×Obj) -> Value -> Prop)
  (N:News h₀ L s.heap led) (hm:(ax,W.listOf vs n)∈led) (h0:0 <= k) (hk:k < 2 ^ 63) (hP:∃ v,vs[k.toNat]?=some v /\ P led v) (h:∀ v,P led v -> Q v s)
  (hs:subscripted slice false (.ref ax) (.int k t)=operate [.ref ax,.int k t] (getItem (.ref ax) (.int k t)):=by with_unfolding_all rfl) :
  wpAny (model prog w) A (subscriptTail value slice (.ref ax) (.int k t)) Q E s:=by
 obtain ⟨v,hv,hp⟩:=hP
 have hl:s.heap.IsList ax vs:=⟨_,N.get hm,rfl,_,rfl⟩
 exact tail_any hl.typeIs slot_list_getitem.lookup (wpAny_getItem_list hl h0 hk hv (h v hp)) hs
theorem item_intsLast {ax:Addr} {vs:List Value} {cs:List Int} {n:Nat} {t:Tok} {Q:Value -> Shared -> Prop} {value slice:PySem.Expr}
  (N:News h₀ L s.heap led) (hm:(ax,W.listOf vs.toArray n)∈led) (hi:IntsAre vs cs) (h1:1 <= cs.length) (hz:cs.length <= 100000) (h:∀ t',Q (.int (cs.getD (cs.length - 1) 0) t') s)
  (hs:subscripted slice false (.ref ax) (.int (-1) t)=operate [.ref ax,.int (-1) t] (getItem (.ref ax) (.int (-1) t)):=by with_unfolding_all rfl) :
  wpAny (model prog w) A (subscriptTail value slice (.ref ax) (.int (-1) t)) Q E s:=by
 have hl:s.heap.IsList ax vs.toArray:=⟨_,N.get hm,rfl,_,rfl⟩
 have el:=hi.length
 have es:vs.toArray.size=cs.length:=by simp [el]
 have hlt:cs.length - 1 < vs.length:=by rw [el];exact Nat.sub_lt h1 Nat.one_pos
 obtain ⟨k,u,e1,e2⟩:=IntsAre.at hi (cs.length - 1) vs[cs.length - 1] (List.getElem?_eq_getElem hlt)
 have e3:cs.getD (cs.length - 1) 0=k:=by rw [List.getD_eq_getElem?_getD,e2];rfl
 have h':=h u
 rw [e3] at h'
 refine tail_any hl.typeIs slot_list_getitem.lookup (wpAny_getItem_list_neg (x:=.int k u) hl (by decide) (by rw [es];omega) (by decide) ?_ h') hs
 rw [es,tnm,List.getElem?_toArray,List.getElem?_eq_getElem hlt,e1]
theorem item_str {ax:Addr} {l:List (Str×Tok)} {n i:Nat} {k:Int} {t:Tok} {Q:Value -> Shared -> Prop} {value slice:PySem.Expr}
  (N:News h₀ L s.heap led) (hm:(ax,W.listOf (strValues l).toArray n)∈led) (e:k=(i:Nat)) (hk:i < l.length) (hz:l.length <= 100000) (h:∀ t',Q (.str ((l.map (·.1)).getD i "") t') s)
  (hs:subscripted slice false (.ref ax) (.int k t)=operate [.ref ax,.int k t] (getItem (.ref ax) (.int k t)):=by with_unfolding_all rfl) :
  wpAny (model prog w) A (subscriptTail value slice (.ref ax) (.int k t)) Q E s:=by
 subst e;refine item_pick (fun _ v=>∃ t',v=.str ((l.map (·.1)).getD i "") t') N hm (by omega) (by omega) ⟨_,by rw [Int.toNat_natCast];simp [strValues,List.getElem?_eq_getElem hk];rfl,⟨l[i].2,?_⟩⟩ ?_ hs
 ·rw [List.getD_eq_getElem?_getD,List.getElem?_map,List.getElem?_eq_getElem hk];rfl
 ·rintro v ⟨t',rfl⟩;exact h t'
theorem len_strT {x:Str} {t:Tok} {Q:Value -> Shared -> Prop} (hz:x.cps.size <= 100000) (h:Q (.int (x.cps.size:Nat) (s.toks+1)) { s with toks:=s.toks+1+1 }):wpAny (model prog w) A (call (.builtin "len") [.str x t]) Q E s :=
 PyProof.Rows.len_str (by show ¬ ((x.cps.size:Nat):Int) ≥ 2 ^ 63;omega) h
noncomputable def JoinS (y:Str) (s:Shared) (v:Value) (s':Shared):Prop:=∃ u tk,v=.str y u /\ s'={ s with toks:=tk }
theorem join_str {t:Sem Value} {Q:Value -> Shared -> Prop} (y:Str) (h:wpAny (model prog w) A t (JoinS y s) E s) (k:∀ u tk,Q (.str y u) { s with toks:=tk }):wpAny (model prog w) A t Q E s :=
 wpAny_mono h (fun v s' ⟨u,tk,e1,e2⟩=>by rw [e1,e2];exact k u tk) fun _ _ e=>e
noncomputable def JoinI (y:Int) (s:Shared) (v:Value) (s':Shared):Prop:=∃ u tk,v=.int y u /\ s'={ s with toks:=tk }
theorem join_int {t:Sem Value} {Q:Value -> Shared -> Prop} (y:Int) (h:wpAny (model prog w) A t (JoinI y s) E s) (k:∀ u tk,Q (.int y u) { s with toks:=tk }):wpAny (model prog w) A t Q E s :=
 wpAny_mono h (fun v s' ⟨u,tk,e1,e2⟩=>by rw [e1,e2];exact k u tk) fun _ _ e=>e
theorem news_back {a:Addr×Obj} {own nw:List (Addr×Obj)} {h:Heap} (N:News h₀ L h (a::(own ++ nw))):News h₀ L h (own ++ a::nw):=fun p hp=>N p (by
 revert p;w_head)
theorem news_swap {a:Addr×Obj} {own nw:List (Addr×Obj)} {h:Heap} (N:News h₀ L h (own ++ a::nw)):News h₀ L h (a::(own ++ nw)):=fun p hp=>N p (by
 revert p;w_head)
theorem rangeG2 {env:Env} {Q:Flow -> Shared -> Prop} {E:Value -> Shared -> Prop} {x:Str} {body orelse:List Stmt} {r:Addr} {a₀ b₀ c₀:Int} {t₀ u₀ v₀:Tok} {n:Nat} {m:Str -> Option Value} {news:List (Addr×Obj)}
  (hh:A.handled=none) (hr:IsRange s.heap r a₀ b₀ c₀ t₀ u₀ v₀) (hsmall:Builtin.Range.small a₀ b₀ c₀=true) (hn:Builtin.Range.rangeSize a₀ b₀ c₀=(n:Int)) (F:Fr h₀ env.locals s.heap m) (N:News h₀ env.locals s.heap news)
  (J:Nat -> (Str -> Option Value) -> List (Addr×Obj) -> Array GenState -> Prop) (h0:J 0 m news s.gens)
  (step:∀ (i:Nat) u m₁ news₁ h tk g own it,i < n -> J i m₁ news₁ g -> (∀ p∈news₁,p.1≠it) -> (∀ p∈own,p.1=it) -> (∃ o,(it,o)∈own /\ o.cls≠.type "tuple") →
   Fr h₀ env.locals h (fun z=>if z=x then some (.int (a₀+i * c₀) u) else m₁ z) -> News h₀ env.locals h (own ++ news₁) →
   wpAny (model prog w) A (execs body env) (StepG h₀ env.locals [it] own (J (i+1)) { s with heap:=h,toks:=tk,gens:=g } (fun v s'=>Q (.ret v) s') fun s'=>Q .next s') E { s with heap:=h,toks:=tk,gens:=g })
  (done:∀ h' tk g' m' news',Fr h₀ env.locals h' m' -> News h₀ env.locals h' news' -> J n m' news' g' -> wpAny (model prog w) A (execs orelse env) Q E { s with heap:=h',toks:=tk,gens:=g' }) :
  wpAny (model prog w) A (pyIter (.ref r)) (fun it s₂=>LoopAtG prog w A h₀ env x body orelse Q E it s₂) E s:=by
 refine wpAny_pyIter_range hr hsmall ?_
 have W:Walks prog w A s.heap.objs.size [s.heap.objs.size] [s.heap.objs.size] n (fun i v=>i < n /\ ∃ t,v=.int (a₀+i * c₀) t)
   (fun i h=>IsRangeIter h s.heap.objs.size (a₀+(i:Nat) * c₀) ((n:Int) - (i:Nat)) c₀):=(Walks.range hh _ a₀ c₀ n).bound
 refine ⟨_,_,_,_,_,_,m,news,J,rfl,W,(new_off F).1,(new_off F).2,news_off N,(by show IsRangeIter _ _ _ _ _;rw [hn];simpa using Heap.get?_push_size _ rfl),F.push _,fun p hp=>⟨Heap.get?_push_of_some _ (N p hp).1,(N p hp).2⟩,h0,?_,?_⟩
 ·rintro i v m₁ news₁ s₁ own ⟨h,tk,g,rfl⟩ hi ⟨_,u,rfl⟩ hJ hoff hown hmem hst₁ F₁ N₁
  exact step i u m₁ news₁ h tk g own _ hi hJ (fun p hp e=>hoff p hp (by rw [e];exact List.mem_singleton.mpr rfl)) (fun p hp=>List.mem_singleton.mp (hown p hp)) ⟨_,hmem _ (List.mem_singleton.mpr rfl) ((new_off F).2 _ (List.mem_singleton.mpr rfl)) _ hst₁,fun h=>by injection h with h;exact absurd h (by decide)⟩ F₁ N₁
 ·intro h' tk g' m' news' F' N' _ hJ
  exact done h' tk g' m' news' F' N' hJ
end
end
section
inductive NextC (ca:Addr) (h₀:Heap) (L:Addr) (wr:List Addr) (own:List (Addr×Obj)) (Jn:(Str -> Option Value) -> List (Addr×Obj) -> Array GenState -> Prop) (s₁ s₂:Shared):Prop
 | mk (h':Heap) (tk:Tok) (g':Array GenState) (m₂:Str -> Option Value) (news₂:List (Addr×Obj)) (a1:s₂={ s₁ with heap:=h',toks:=tk,gens:=g' }) (a2:Fr h₀ L h' m₂) (a3:∃ o₂ v₂,o₂.data=.cell v₂ /\ News h₀ L h' (own ++ (ca,o₂)::news₂)) (a4:∀ p∈news₂,p.1∉wr /\ p.1≠ca) (a5:Jn m₂ news₂ g')
noncomputable def StepC (ca:Addr) (h₀:Heap) (L:Addr) (wr:List Addr) (own:List (Addr×Obj)) (Jn:(Str -> Option Value) -> List (Addr×Obj) -> Array GenState -> Prop) (s₁:Shared) (Qr:Value -> Shared -> Prop) (Qb:Shared -> Prop) (f:Flow) (s₂:Shared):Prop :=
 match f with
 | .ret v=>Qr v s₂
 | .brk=>Qb s₂
 | _=>NextC ca h₀ L wr own Jn s₁ s₂
inductive CLJ (ca:Addr) (h₀:Heap) (L:Addr) (s:Shared) (wr:List Addr) (n:Nat) (St:Nat -> Heap -> Prop) (J:Nat -> (Str -> Option Value) -> List (Addr×Obj) -> Array GenState -> Prop) (k:Nat) (s':Shared):Prop
 | mk (h':Heap) (tk:Tok) (g':Array GenState) (m':Str -> Option Value) (news':List (Addr×Obj)) (o':Obj) (v':Option Value) (i:Nat) (a1:s'={ s with heap:=h',toks:=tk,gens:=g' }) (a2:St i h') (a3:Fr h₀ L h' m') (a9:o'.data=.cell v') (a4:News h₀ L h' ((ca,o')::news')) (a5:∀ p∈news',p.1∉wr /\ p.1≠ca) (a6:J i m' news' g') (a7:i <= n) (a8:k=n+1 - i)
section
variable {prog:Program} {w:World} {A:Around} {s:Shared} {env:Env} {h₀:Heap}
theorem forLoopC {R:Result -> Shared -> Prop} {x:Str} {px:Pos} {body orelse:List Stmt} {I ca:Addr} {fp wr:List Addr} {n:Nat} {P:Nat -> Value -> Prop} {St:Nat -> Heap -> Prop} {m:Str -> Option Value}
  {news:List (Addr×Obj)} {o₀:Obj} {v₀:Option Value} (W:Walks prog w A I fp wr n P St) (hk:env.scope.kind=.function) (hx:env.kindOf x=some .cell) (hc:env.cells.lookup x=some ca)
  (hLf:env.locals∉fp) (hcf:ca∉fp) (hwr:∀ b∈wr,h₀.get? b=none) (hnw:∀ p∈news,p.1∉wr /\ p.1≠ca)
  (hst:St 0 s.heap) (F:Fr h₀ env.locals s.heap m) (hd:o₀.data=.cell v₀) (N:News h₀ env.locals s.heap ((ca,o₀)::news))
  (J:Nat -> (Str -> Option Value) -> List (Addr×Obj) -> Array GenState -> Prop) (h0:J 0 m news s.gens)
  (step:∀ i v m₁ news₁ s₁ own o₁,(∃ h tk g,s₁={ s with heap:=h,toks:=tk,gens:=g }) -> i < n -> P i v -> J i m₁ news₁ s₁.gens -> (∀ p∈news₁,p.1∉wr /\ p.1≠ca) -> (∀ p∈own,p.1∈fp) -> (∀ b∈fp,h₀.get? b=none -> ∀ o,s₁.heap.get? b=some o -> (b,o)∈own) -> St (i+1) s₁.heap →
   Fr h₀ env.locals s₁.heap m₁ -> o₁.data=.cell (some v) -> News h₀ env.locals s₁.heap (own ++ (ca,o₁)::news₁) →
   wpAny (model prog w) A (execs body env) (StepC ca h₀ env.locals wr own (J (i+1)) s₁ (fun v s'=>R (.ok (.ret v)) s') fun s'=>R (.ok .next) s') (notedBy (model prog w) A env fun e s'=>R (.error e) s') s₁)
  (hR:∀ h' tk g' m' news' o' v',Fr h₀ env.locals h' m' -> o'.data=.cell v' -> News h₀ env.locals h' ((ca,o')::news') -> (∀ p∈news',p.1∉wr /\ p.1≠ca) -> J n m' news' g' →
   wpAny (model prog w) A (execs orelse env) (fun f s₃=>R (.ok f) s₃) (notedBy (model prog w) A env fun e s'=>R (.error e) s') { s with heap:=h',toks:=tk,gens:=g' }) :
  codeAny (model prog w) A (.forLoop (.Name x px) (.ref I) body orelse env) R s:=by
 have hLw:env.locals∉wr:=fun h=>hLf (W.sub _ h)
 have hcw:ca∉wr:=fun h=>hcf (W.sub _ h)
 have old:∀ b o,h₀.get? b=some o -> b∉wr:=fun b o e hb=>by rw [hwr b hb] at e;cases e
 refine codeAny_forLoop
  (CLJ ca h₀ env.locals s wr n St J) ?_ (n+1)
  ⟨s.heap,s.toks,s.gens,m,news,o₀,v₀,0,rfl,hst,F,hd,N,hnw,h0,Nat.zero_le _,rfl⟩
 rintro k s' ⟨h',tk,g',m',news',o',v',i,rfl,hst',F',hd',N',hnw',hJ,hi,rfl⟩
 have next:∀ h₁:Heap,(∀ b o,b∉wr -> h'.get? b=some o -> h₁.get? b=some o) -> Fr h₀ env.locals h₁ m' /\ News h₀ env.locals h₁ ((ca,o')::news'):=fun h₁ hk₁ =>
  ⟨⟨F'.ns.at' fun o e=>hk₁ _ o hLw e,fun b o e=>hk₁ b o (old b o e) (F'.keep b o e),F'.above⟩,fun p hp=>⟨hk₁ _ _ (by
   rcases List.mem_cons.mp hp with h | h
   ·rw [h];exact hcw
   ·exact (hnw' p h).1) (N' p hp).1,(N' p hp).2⟩⟩
 by_cases hlt:i < n
 ·refine W.item i _ _ _ hlt hst' fun v h₁ tk₁ hP hst₁ hk₁=>?_
  obtain ⟨F₁,N₁⟩:=next h₁ hk₁
  have hcm:=N₁ _ List.mem_cons_self
  refine wpAny_assign_Name (wpAny_storeName_cell hk hx hc ⟨o',hcm.1,hd'⟩ (fun h₂ hv₂ hs₂=>?_))
  obtain ⟨o₁,ho₁,hd₁⟩:=hv₂
  have F₂:Fr h₀ env.locals h₂ m':=⟨F₁.ns.sameBut hs₂ (Ne.symm hcm.2.1),fun b ob e=>(hs₂.2 b (fun q=>by rw [q,hcm.2.2] at e;cases e)).trans (F₁.keep b ob e),F₁.above⟩
  have Nown:News h₀ env.locals h₂ (ownOf h₀ fp h₂):=news_ownOf hLf
  have hst₂:St (i+1) h₂:=W.frame _ _ _ hst₁ fun b hb o e=>(hs₂.2 b fun q=>hcf (q▸hb)).trans e
  have N₂:News h₀ env.locals h₂ ((ca,o₁)::news'):=fun p hp=>by
   rcases List.mem_cons.mp hp with h | h
   ·rw [h];exact ⟨ho₁,hcm.2⟩
   ·exact ⟨(hs₂.2 _ (hnw' p h).2).trans (N₁ p (List.mem_cons_of_mem _ h)).1,(N₁ p (List.mem_cons_of_mem _ h)).2⟩
  refine wpAny_mono (step i v m' news' _ (ownOf h₀ fp h₂) o₁ ⟨_,_,_,rfl⟩ hlt hP hJ hnw' ownOf_sub (fun b hb hn o e=>mem_ownOf hb hn e) hst₂ F₂ hd₁ (Nown.append N₂)) (fun f s₃ h₃=>?_) fun _ _ e=>e
  have fin:NextC ca h₀ env.locals wr (ownOf h₀ fp h₂) (J (i+1)) ({ s with heap:=h₂,toks:=tk₁,gens:=g' }:Shared) s₃ →
    ∃ m,m < n+1 - i /\ CLJ ca h₀ env.locals s wr n St J m s₃:=by
   rintro ⟨h₃',tk₃,g₃,m₂,news₂,rfl,F₃,⟨o₂,v₂,hd₂,N₃⟩,ha₃,hJ₃⟩
   refine ⟨n+1 - (i+1),by omega,h₃',tk₃,g₃,m₂,news₂,o₂,v₂,i+1,rfl,?_,F₃,hd₂,N₃.right,ha₃,hJ₃,hlt,rfl⟩
   refine W.frame _ _ _ hst₁ fun b hb o e=>?_
   have e₂:h₂.get? b=some o:=(hs₂.2 b fun q=>hcf (q▸hb)).trans e
   cases hn:h₀.get? b with
   | some o₀ =>
    have:o₀=o:=by have:=F₂.keep b o₀ hn;rw [e₂] at this;exact (Option.some.inj this).symm
    exact this▸F₃.keep b o₀ hn
   | none=>exact (N₃ _ (List.mem_append_left _ (mem_ownOf hb hn e₂))).1
  cases f with
  | ret v=>exact h₃
  | brk=>exact h₃
  | cont=>exact fin h₃
  | next=>exact fin h₃
 ·have hin:i=n:=by omega
  subst hin;refine W.done _ _ _ hst' fun h₁ tk₁ hk₁=>?_
  obtain ⟨F₁,N₁⟩:=next h₁ hk₁
  exact hR h₁ tk₁ g' m' news' o' v' F₁ hd' N₁ hnw' hJ
inductive LoopAtC (prog:Program) (w:World) (A:Around) (h₀:Heap) (env:Env) (x:Str) (body orelse:List Stmt) (Q:Flow -> Shared -> Prop) (E:Value -> Shared -> Prop) (it:Value) (s₂:Shared):Prop
 | mk (I ca:Addr) (fp wr:List Addr) (n:Nat) (P:Nat -> Value -> Prop) (St:Nat -> Heap -> Prop) (m:Str -> Option Value) (news:List (Addr×Obj)) (o₀:Obj) (v₀:Option Value) (J:Nat -> (Str -> Option Value) -> List (Addr×Obj) -> Array GenState -> Prop)
  (k0:it=.ref I)
  (k1:Walks prog w A I fp wr n P St)
  (k2:env.cells.lookup x=some ca)
  (k3:env.locals∉fp)
  (k4:ca∉fp)
  (k5:(∀ b∈wr,h₀.get? b=none))
  (k6:(∀ p∈news,p.1∉wr /\ p.1≠ca))
  (k7:St 0 s₂.heap)
  (k8:Fr h₀ env.locals s₂.heap m)
  (k9:o₀.data=.cell v₀)
  (k10:News h₀ env.locals s₂.heap ((ca,o₀)::news))
  (k11:J 0 m news s₂.gens)
  (k12:(∀ i v m₁ news₁ s₁ own o₁,(∃ h tk g,s₁={ s₂ with heap:=h,toks:=tk,gens:=g }) -> i < n -> P i v -> J i m₁ news₁ s₁.gens -> (∀ p∈news₁,p.1∉wr /\ p.1≠ca) -> (∀ p∈own,p.1∈fp) -> (∀ b∈fp,h₀.get? b=none -> ∀ o,s₁.heap.get? b=some o -> (b,o)∈own) -> St (i+1) s₁.heap →
   Fr h₀ env.locals s₁.heap m₁ -> o₁.data=.cell (some v) -> News h₀ env.locals s₁.heap (own ++ (ca,o₁)::news₁) →
   wpAny (model prog w) A (execs body env) (StepC ca h₀ env.locals wr own (J (i+1)) s₁ (fun v s'=>Q (.ret v) s') fun s'=>Q .next s') E s₁))
  (k13:∀ h' tk g' m' news' o' v',Fr h₀ env.locals h' m' -> o'.data=.cell v' -> News h₀ env.locals h' ((ca,o')::news') -> (∀ p∈news',p.1∉wr /\ p.1≠ca) -> J n m' news' g' -> wpAny (model prog w) A (execs orelse env) Q E { s₂ with heap:=h',toks:=tk,gens:=g' })
theorem For_C {E:Value -> Shared -> Prop} {Q:Flow -> Shared -> Prop} {x:Str} {px pos:Pos} {iter:Expr} {body orelse:List Stmt} (h₀:Heap) (hk:env.scope.kind=.function) (hx:env.kindOf x=some .cell)
  (h:wpAny (model prog w) A (eval iter env) (fun xv s₁=>wpAny (model prog w) A (pyIter xv) (fun it s₂=>LoopAtC prog w A h₀ env x body orelse Q E it s₂) E s₁) E s)
  (hs:∀ x,foldedSetIterable iter env x=pure x:=by intro _;rfl)
  (hE:PassesOwn (model prog w) A env E:=by passes_own) :
  wpAny (model prog w) A (exec (.For (.Name x px) iter body orelse pos) env) Q E s:=by
 refine wpAny_For (wpAny_mono h (fun xv s₁ h₁=>wpAny_mono h₁ (fun it s₂ h₂=>?_) fun _ _ e=>e) fun _ _ e=>e) hs
 obtain ⟨I,ca,fp,wr,n,P,St,m,news,o₀,v₀,J,rfl,W,hc,hLf,hcf,hwr,hnw,hst,F,hd,N,h0,step,hQ⟩:=h₂
 exact forLoopC (R:=fun r s'=>match r with | .ok f=>Q f s' | .error e=>cameBackBy (model prog w) A env E e s') W hk hx hc hLf hcf hwr hnw hst F hd N J h0 (by intros;exact wpAny_passesOwn hE (by apply step<;>assumption))
  (by intros;exact wpAny_passesOwn hE (by apply hQ<;>assumption))
theorem For_C' {E:Value -> Shared -> Prop} {Q:Flow -> Shared -> Prop} {x:Str} {px pos:Pos} {iter:Expr} {body orelse:List Stmt} {m:Str -> Option Value} (F:Fr h₀ env.locals s.heap m) (hk:env.scope.kind=.function) (hx:env.kindOf x=some .cell)
  (h:wpAny (model prog w) A (eval iter env) (fun xv s₁=>wpAny (model prog w) A (pyIter xv) (fun it s₂=>LoopAtC prog w A h₀ env x body orelse Q E it s₂) E s₁) E s)
  (hs:∀ x,foldedSetIterable iter env x=pure x:=by intro _;rfl)
  (hE:PassesOwn (model prog w) A env E:=by passes_own) :
  wpAny (model prog w) A (exec (.For (.Name x px) iter body orelse pos) env) Q E s:=For_C h₀ hk hx h hs hE
theorem rangeC {Q:Flow -> Shared -> Prop} {E:Value -> Shared -> Prop} {x:Str} {body orelse:List Stmt} {r ca:Addr} {a₀ b₀ c₀:Int} {t₀ u₀ v₀:Tok} {n:Nat} {m:Str -> Option Value} {news:List (Addr×Obj)} {o₀:Obj} {w₀:Option Value}
  (hh:A.handled=none) (hc:env.cells.lookup x=some ca) (hr:IsRange s.heap r a₀ b₀ c₀ t₀ u₀ v₀) (hsmall:Builtin.Range.small a₀ b₀ c₀=true) (hn:Builtin.Range.rangeSize a₀ b₀ c₀=(n:Int)) (F:Fr h₀ env.locals s.heap m) (hd:o₀.data=.cell w₀) (N:News h₀ env.locals s.heap ((ca,o₀)::news)) (hca:∀ p∈news,p.1≠ca)
  (J:Nat -> (Str -> Option Value) -> List (Addr×Obj) -> Array GenState -> Prop) (h0:J 0 m news s.gens)
  (step:∀ (i:Nat) u m₁ news₁ h tk g own it o₁,i < n -> J i m₁ news₁ g -> (∀ p∈news₁,p.1≠it /\ p.1≠ca) -> (∀ p∈own,p.1=it) -> (∃ o,(it,o)∈own /\ o.cls=.type "range_iterator") -> it≠ca →
   Fr h₀ env.locals h m₁ -> o₁.data=.cell (some (.int (a₀+i * c₀) u)) -> News h₀ env.locals h (own ++ (ca,o₁)::news₁) →
   wpAny (model prog w) A (execs body env) (StepC ca h₀ env.locals [it] own (J (i+1)) { s with heap:=h,toks:=tk,gens:=g } (fun v s'=>Q (.ret v) s') fun s'=>Q .next s') E { s with heap:=h,toks:=tk,gens:=g })
  (done:∀ h' tk g' m' news' o' v',Fr h₀ env.locals h' m' -> o'.data=.cell v' -> News h₀ env.locals h' ((ca,o')::news') -> (∀ p∈news',p.1≠ca) -> J n m' news' g' -> wpAny (model prog w) A (execs orelse env) Q E { s with heap:=h',toks:=tk,gens:=g' }) :
  wpAny (model prog w) A (pyIter (.ref r)) (fun it s₂=>LoopAtC prog w A h₀ env x body orelse Q E it s₂) E s:=by
 refine wpAny_pyIter_range hr hsmall ?_
 have W:Walks prog w A s.heap.objs.size [s.heap.objs.size] [s.heap.objs.size] n (fun i v=>i < n /\ ∃ t,v=.int (a₀+i * c₀) t)
   (fun i h=>IsRangeIter h s.heap.objs.size (a₀+(i:Nat) * c₀) ((n:Int) - (i:Nat)) c₀):=(Walks.range hh _ a₀ c₀ n).bound
 have hI:s.heap.objs.size≠ca:=fun e=>absurd (Heap.lt_size (N _ List.mem_cons_self).1) (e▸Nat.lt_irrefl _)
 refine ⟨_,ca,_,_,_,_,_,m,news,o₀,w₀,J,rfl,W,hc,(new_off F).1,(fun h=>hI (List.mem_singleton.mp h).symm),(new_off F).2,fun p hp=>⟨news_off N p (List.mem_cons_of_mem _ hp),hca p hp⟩,(by show IsRangeIter _ _ _ _ _;rw [hn];simpa using Heap.get?_push_size _ rfl),F.push _,hd,fun p hp=>⟨Heap.get?_push_of_some _ (N p hp).1,(N p hp).2⟩,h0,?_,?_⟩
 ·rintro i v m₁ news₁ s₁ own o₁ ⟨h,tk,g,rfl⟩ hi ⟨_,u,rfl⟩ hJ hoff hown hmem hst₁ F₁ hd₁ N₁
  exact step i u m₁ news₁ h tk g own _ o₁ hi hJ (fun p hp=>⟨fun e=>(hoff p hp).1 (by rw [e];exact List.mem_singleton.mpr rfl),(hoff p hp).2⟩) (fun p hp=>List.mem_singleton.mp (hown p hp)) ⟨_,hmem _ (List.mem_singleton.mpr rfl) ((new_off F).2 _ (List.mem_singleton.mpr rfl)) _ hst₁,rfl⟩ hI F₁ hd₁ N₁
 ·intro h' tk g' m' news' o' v' F' hd' N' hnw' hJ
  exact done h' tk g' m' news' o' v' F' hd' N' (fun p hp=>(hnw' p hp).2) hJ
end
end
section
open PySem PySem.W PyProof.Rows PySem.Spec PySem.Calls PyProof.Rows.LCg
section
variable {prog:Program} {w:World} {A:Around} {E:Value -> Shared -> Prop} {s:Shared} {h₀:Heap} {L:Addr} {m:Str -> Option Value} {env:Env}
inductive Item3 (prog:Program) (w:World) (A:Around) (h₀:Heap) (L:Addr) (m:Str -> Option Value) (env:Env) (ct elt:Expr) (x₁ x₂ x₃:Str) (scope:Scope) (cl:List (Str×Addr)) (s:Shared) (S:List (Addr×Obj) -> Prop) (J:Nat -> List Value -> List (Addr×Obj) -> Prop) (i:Nat) (v:Value) (ys:List Value) (news:List (Addr×Obj)):Prop
 | mk (t:Addr) (ot:Obj) (v₁ v₂ v₃:Value) (nt:Nat) (a1:v=.ref t) (a2:(t,ot)∈news) (a3:ot.cls=.type "tuple") (a4:ot.data=.seq #[v₁,v₂,v₃] nt)
  (a5:∀ I oI C oC D m₂ h tk (E':Value -> Shared -> Prop),NsObj oC m₂ -> m₂ x₁=some v₁ -> m₂ x₂=some v₂ -> m₂ x₃=some v₃ -> Fr h₀ L h m -> News h₀ L h ((I,oI)::(C,oC)::(D,lst ys)::news) -> Off3 I C D news -> ((@Ne Nat I C) /\ (@Ne Nat I D) /\ (@Ne Nat C D)) →
   wpAny (model prog w) A (isTrue ct (compEnvC scope cl C env) (eval ct (compEnvC scope cl C env))) (fun ok s'=>if ok=true then
    wpAny (model prog w) A (eval elt (compEnvC scope cl C env)) (CompEnd h₀ L m { s with heap:=h,toks:=tk } I oI C oC D (lst ys) S (fun y news'=>J (i+1) (ys ++ [y]) news')) E' s'
    else CompEnd h₀ L m { s with heap:=h,toks:=tk } I oI C oC D (lst ys) S (fun _ news'=>J (i+1) ys news') Value.none s') E' { s with heap:=h,toks:=tk })
noncomputable def Turn3 (prog:Program) (w:World) (A:Around) (h₀:Heap) (L:Addr) (m:Str -> Option Value) (env:Env) (ct elt:Expr) (x₁ x₂ x₃:Str) (scope:Scope) (cl:List (Str×Addr)) (s:Shared) (S:List (Addr×Obj) -> Prop) (P:Nat -> Value -> Prop) (J:Nat -> List Value -> List (Addr×Obj) -> Prop) (n:Nat):Prop :=
 ∀ i v ys news,i < n -> P i v -> J i ys news -> Item3 prog w A h₀ L m env ct elt x₁ x₂ x₃ scope cl s S J i v ys news
inductive B3J (h₀:Heap) (L:Addr) (m:Str -> Option Value) (n:Nat) (St:Nat -> Heap -> Prop) (S:List (Addr×Obj) -> Prop) (J:Nat -> List Value -> List (Addr×Obj) -> Prop) (s₂:Shared) (I C D:Addr) (k:Nat) (s':Shared):Prop
 | mk (h':Heap) (tk:Tok) (i:Nat) (ys:List Value) (m':Str -> Option Value) (nw:List (Addr×Obj)) (a1:s'={ s₂ with heap:=h',toks:=tk }) (a2:i <= n) (a3:k=n+1 - i) (a4:ys.length <= i) (a5:St i h') (a6:Fr h₀ L h' m) (a7:h'.Ns C m')
  (a8:News h₀ L h' ((D,lst ys)::nw)) (a9:Off3 I C D nw) (b1:S nw) (b2:J i ys nw)
theorem end_parts {I C D:Addr} {oI oC oD:Obj} {h:Heap} {nw:List (Addr×Obj)} (N:News h₀ L h ((I,oI)::(C,oC)::(D,oD)::nw)):h.get? I=some oI /\ h.get? C=some oC /\ h.get? D=some oD /\ News h₀ L h nw /\ News h₀ L h ((D,oD)::nw) :=
 ⟨(N _ (.head _)).1,(N _ nx1).1,(N _ nx2).1,fun p hp=>N p (.tail _ (.tail _ (.tail _ hp))),fun p hp=>N p (.tail _ (.tail _ hp))⟩
noncomputable def S_block_three {ct elt iter:Expr} {x₁ x₂ x₃:Str} {p₁ p₂ p₃ tp:Pos} {tk:Nat} {scope:Scope} {cl:List (Str×Addr)} {pos:Pos} {s₂:Shared} {I:Addr} {fp:List Addr} {n:Nat} {P:Nat -> Value -> Prop} {St:Nat -> Heap -> Prop} {S:List (Addr×Obj) -> Prop} {news:List (Addr×Obj)} {J:Nat -> List Value -> List (Addr×Obj) -> Prop} {RR:Value -> Addr -> Result -> Shared -> Prop}:Prop:=∀ (W:Walks prog w A I fp [I] n P St) (hsz:n <= sizeLine) (hh:A.handled=none) (hLI:∀ i h,St i h -> ∃ l j,h.IsListIter I l j) (hSt:∀ i h h' o nw,St i h -> h.get? I=some o -> h'.get? I=some o -> (∀ b o,h₀.get? b=some o -> h'.get? b=some o) -> News h₀ L h' nw -> S nw -> St i h') (hcell:∀ y∈scope.names,y.2≠.cell) (hkind:scope.kind=.function) (hx₁:scope.names.lookup x₁=some .local) (hx₂:scope.names.lookup x₂=some .local) (hx₃:scope.names.lookup x₃=some .local) (h12:x₁≠x₂) (h13:x₁≠x₃) (h23:x₂≠x₃) (hst:St 0 s₂.heap) (hfp:∀ b∈fp,b < s₂.heap.objs.size) (F:Fr h₀ L s₂.heap m) (N:News h₀ L s₂.heap news) (hIL:L≠I) (hI₀:h₀.get? I=none) (off:∀ p∈news,p.1≠I) (hS:S news) (h0:J 0 [] news) (R:Turn3 prog w A h₀ L m env ct elt x₁ x₂ x₃ scope cl s₂ S P J n) (hRR:∀ D C h tk m' ys news',Fr h₀ L h m -> News h₀ L h ((D,lst ys)::news') -> Off1 D news' -> h.Ns C m' -> h₀.get? C=none -> h₀.get? D=none -> C≠L -> D≠L -> C≠D -> (∀ p∈news',p.1≠C) -> J n ys news' -> RR (.ref D) C (.ok .next) { s₂ with heap:=h,toks:=tk }),wpAny (model prog w) A (newList []) (fun acc s₃=>wpAny (model prog w) A (newFunctionEnv scope env.globals cl [] env.qual none .none (some env)) (fun cenv s₄ =>
   codeAny (model prog w) A (.compStart (.ListComp elt [⟨.Tuple [.Name x₁ p₁,.Name x₂ p₂,.Name x₃ p₃] tk tp,iter,[ct],0⟩] scope pos) 0 (.ref I) acc { cenv with scope:=relabel scope env }) (RR acc cenv.locals) s₄) E s₃) E s₂
namespace e_block_three
noncomputable abbrev Sd:=fun z:(((((_×_)×_×_)×(_×_)×_×_)×((_×_)×_×_)×(_×_)×_×_)×(((_×_)×_×_)×(_×_)×_×_)×((_×_)×_×_)×(_×_)×_×_)=>@S_block_three z.1.1.1.1.1 z.1.1.1.1.2 z.1.1.1.2.1 z.1.1.1.2.2 z.1.1.2.1.1 z.1.1.2.1.2 z.1.1.2.2.1 z.1.1.2.2.2 z.1.2.1.1.1 z.1.2.1.1.2 z.1.2.1.2.1 z.1.2.1.2.2 z.1.2.2.1.1 z.1.2.2.1.2 z.1.2.2.2.1 z.1.2.2.2.2 z.2.1.1.1.1 z.2.1.1.1.2 z.2.1.1.2.1 z.2.1.1.2.2 z.2.1.2.1.1 z.2.1.2.1.2 z.2.1.2.2.1 z.2.1.2.2.2 z.2.2.1.1.1 z.2.2.1.1.2 z.2.2.1.2.1 z.2.2.1.2.2 z.2.2.2.1.1 z.2.2.2.1.2 z.2.2.2.2.1 z.2.2.2.2.2
@[irreducible] def κ:=pick (by k_extra "ne") Sd
def h₀_:=κ.1.1.2.1.1
def L_:=κ.1.1.2.1.2
def tk_:=κ.2.1.1.2.1
def s₂_:=κ.2.1.2.2.1
def I_:=κ.2.1.2.2.2
def n_:=κ.2.2.1.1.2
noncomputable abbrev Sc:=@S_block_three κ.1.1.1.1.1 κ.1.1.1.1.2 κ.1.1.1.2.1 κ.1.1.1.2.2 h₀_ L_ κ.1.1.2.2.1 κ.1.1.2.2.2 κ.1.2.1.1.1 κ.1.2.1.1.2 κ.1.2.1.2.1 κ.1.2.1.2.2 κ.1.2.2.1.1 κ.1.2.2.1.2 κ.1.2.2.2.1 κ.1.2.2.2.2 κ.2.1.1.1.1 κ.2.1.1.1.2 tk_ κ.2.1.1.2.2 κ.2.1.2.1.1 κ.2.1.2.1.2 s₂_ I_ κ.2.2.1.1.1 n_ κ.2.2.1.2.1 κ.2.2.1.2.2 κ.2.2.2.1.1 κ.2.2.2.1.2 κ.2.2.2.2.1 κ.2.2.2.2.2
theorem core:Sc:=by
 unfold Sc S_block_three
 intro W hsz hh hLI hSt hcell hkind hx₁ hx₂ hx₃ h12 h13 h23 hst hfp F N hIL hI₀ off hS h0 R hRR;refine wpAny_newObj_type (wpAny_newFunctionEnv hcell (by intro y hy;simp at hy) (fun h₁ hns₁ hsb₁=>?_) hkind)
 dsimp only at hns₁ hsb₁ ⊢
 generalize hH:s₂_.heap.push { cls:=.type "list",dict:=none,data:=.seq ([]:List Value).toArray }=H at hns₁ hsb₁ ⊢
 have hC:H.objs.size=s₂_.heap.objs.size+1:=by rw [<- hH,Heap.size_push]
 have lt1:∀ b,b < s₂_.heap.objs.size -> b≠H.objs.size:=fun b hb=>by rw [hC];exact Nat.ne_of_lt (Nat.lt_succ_of_lt hb)
 have hCD:H.objs.size≠s₂_.heap.objs.size:=by rw [hC];exact Nat.succ_ne_self _
 have hDf:s₂_.heap.objs.size∉κ.2.2.1.1.1:=fun h=>Nat.lt_irrefl _ (hfp _ h)
 have hCf:H.objs.size∉κ.2.2.1.1.1:=fun h=>lt1 _ (hfp _ h) rfl
 have hIlt:I_ < s₂_.heap.objs.size:=hfp I_ (W.sub I_ (List.mem_singleton.mpr rfl))
 have up:∀ b o,s₂_.heap.get? b=some o -> h₁.get? b=some o:=fun b o e=>hsb₁.extBut b o (lt1 b (Heap.lt_size e)) (Heap.get?_push_of_some _ (hH▸Heap.get?_push_of_some _ e))
 have hacc:h₁.get? s₂_.heap.objs.size=some (lst []):=hsb₁.extBut _ _ (Ne.symm hCD) (Heap.get?_push_of_some _ (hH▸Heap.get?_push_size _ rfl))
 have fresh:∀ a,s₂_.heap.objs.size <= a -> h₀_.get? a=none:=fun a ha=>by
  cases e:h₀_.get? a with
  | none=>rfl
  | some o'=>exact absurd (Heap.lt_size (F.keep a o' e)) (Nat.not_lt.mpr ha)
 have hD₀:=fresh _ (Nat.le_refl _)
 have hC₀:h₀_.get? H.objs.size=none:=fresh _ (by rw [hC];exact Nat.le_succ _)
 have hDL:s₂_.heap.objs.size≠L_:=Ne.symm (Nat.ne_of_lt F.ns.lt)
 have hCL:H.objs.size≠L_:=Ne.symm (lt1 L_ F.ns.lt)
 have hIC:I_≠H.objs.size:=lt1 I_ hIlt
 have hID:I_≠s₂_.heap.objs.size:=Nat.ne_of_lt hIlt
 have hn0:News h₀_ L_ h₁ ((s₂_.heap.objs.size,lst [])::κ.2.2.2.1.2):=fun p hp=>by
  rcases List.mem_cons.mp hp with rfl | hp
  ·exact ⟨hacc,hDL,hD₀⟩
  ·exact ⟨up _ _ (N p hp).1,(N p hp).2⟩
 have off0:Off3 I_ H.objs.size s₂_.heap.objs.size κ.2.2.2.1.2:=Off3.of fun p hp=>⟨off p hp,lt1 _ (Heap.lt_size (N p hp).1),Nat.ne_of_lt (Heap.lt_size (N p hp).1)⟩
 have loop:∀ s₃:Shared,s₃={ s₂_ with heap:=h₁,toks:=s₂_.toks+([]:List (Str×Value)).length } →
   codeAny (model κ.1.1.1.1.1 κ.1.1.1.1.2) κ.1.1.1.2.1 (.compLoop (.ListComp κ.1.2.1.1.2 [⟨.Tuple [.Name κ.1.2.1.2.2 κ.1.2.2.2.1,.Name κ.1.2.2.1.1 κ.1.2.2.2.2,.Name κ.1.2.2.1.2 κ.2.1.1.1.1] tk_ κ.2.1.1.1.2,κ.1.2.1.2.1,[κ.1.2.1.1.1],0⟩] κ.2.1.1.2.2 κ.2.1.2.1.2) 0 (.ref I_) (.ref s₂_.heap.objs.size) (compEnvC κ.2.1.1.2.2 κ.2.1.2.1.1 H.objs.size κ.1.1.2.2.2))
    (κ.2.2.2.2.2 (.ref s₂_.heap.objs.size) H.objs.size) s₃:=by
  rintro s₃ rfl
  refine kct_loop
   (B3J h₀_ L_ κ.1.1.2.2.1 n_ κ.2.2.1.2.2 κ.2.2.2.1.1 κ.2.2.2.2.1 s₂_ I_ H.objs.size s₂_.heap.objs.size) ?_ (n_+1)
   ⟨h₁,_,0,[],_,κ.2.2.2.1.2,rfl,Nat.zero_le _,rfl,Nat.le_refl _,W.frame _ _ _ hst fun b _ o e=>up b o e,F.keeps up,hns₁,hn0,off0,hS,h0⟩
  rintro k s' ⟨h',tk_,i,ys,m',nw,rfl,hi,rfl,hyl,hst',F',hn',N',off',hS',hJ⟩
  have o3:=off'.mem
  have keepN:∀ {hx:Heap},(∀ b o,b∉[I_] -> h'.get? b=some o -> hx.get? b=some o) -> News h₀_ L_ hx ((s₂_.heap.objs.size,lst ys)::nw):=fun hk=>news_but N' hk fun p hp=>by
   rcases List.mem_cons.mp hp with rfl | hp
   ·exact Ne.symm hID
   ·exact (o3 p hp).1
  by_cases hlt:i < n_
  ·refine W.item i _ _ _ hlt hst' fun v h₂ tk₂ hPv hst₂ hk₂=>?_
   refine via ?_
   intro gV yV;obtain ⟨t,ot,v₁,v₂,v₃,nt,rfl,hmt,hct,hdt,R'⟩:=R i v ys nw hlt hPv hJ
   refine yV ?_
   clear yV gV;have N₂:=keepN hk₂
   refine via ?_
   intro gV yV;obtain ⟨lI,jI,hLi⟩:=hLI _ _ hst₂
   refine yV ?_
   clear yV gV;refine wpAny_letOwnedTupleGo_listiter hLi ?_
   refine assign_Tuple_tuple (items:=#[v₁,v₂,v₃]) hh ⟨ot,(N₂ _ (List.mem_cons_of_mem _ hmt)).1,hct,nt,hdt⟩ rfl rfl fun h₃ he=>?_
   have k3:∀ b o,h₂.get? b=some o -> h₃.get? b=some o:=fun b o e=>he b o (Nat.ne_of_lt (Heap.lt_size e)) e
   have fn:(compEnvC κ.2.1.1.2.2 κ.2.1.2.1.1 H.objs.size κ.1.1.2.2.2).scope.kind=.function:=by simp [compEnvC,relabel,hkind]
   refine assignInOrder_cons (wpAny_assign_Name (wpAny_storeName_local (lookup_relabel_local hx₁) ((hn'.at' fun o e=>hk₂ _ o (by simpa using Ne.symm hIC) e).at' fun o e=>k3 _ o e) (fun h₄ hn₄ hs₄=>?_) (by simp [compEnvC,relabel,hkind])))
   refine assignInOrder_cons (wpAny_assign_Name (wpAny_storeName_local (lookup_relabel_local hx₂) hn₄ (fun h₅ hn₅ hs₅=>?_) (by simp [compEnvC,relabel,hkind])))
   refine assignInOrder_cons (wpAny_assign_Name (wpAny_storeName_local (lookup_relabel_local hx₃) hn₅ (fun h₆ hn₆ hs₆=>?_) (by simp [compEnvC,relabel,hkind])))
   refine assignInOrder_nil ?_
   have k6:∀ b o,b≠H.objs.size -> h₂.get? b=some o -> h₆.get? b=some o:=fun b o hb e=>hs₆.extBut b o hb (hs₅.extBut b o hb (hs₄.extBut b o hb (k3 b o e)))
   have hst₆:κ.2.2.1.2.2 (i+1) h₆:=W.frame _ _ _ hst₂ fun b hb o e=>k6 b o (fun q=>hCf (q▸hb)) e
   obtain ⟨oI,heI⟩:∃ o,h₆.get? I_=some o:=by
    refine via ?_
    intro gV yV;obtain ⟨_,_,o,e,_⟩:=hLI _ _ hst₆
    refine yV ?_
    clear yV gV;exact ⟨o,e⟩
   refine via ?_
   intro gV yV;obtain ⟨oC,heC,hoC⟩:=ns_obj hn₆
   refine yV ?_
   clear yV gV;have F₆:Fr h₀_ L_ h₆ κ.1.1.2.2.1:=((((fr_but F' hk₂ hIL hI₀).keeps k3).change hs₄ hCL hC₀).change hs₅ hCL hC₀).change hs₆ hCL hC₀
   have N₆:News h₀_ L_ h₆ ((I_,oI)::(H.objs.size,oC)::(s₂_.heap.objs.size,lst ys)::nw):=fun p hp=>by
    rcases List.mem_cons.mp hp with rfl | hp
    ·exact ⟨heI,Ne.symm hIL,hI₀⟩
    ·rcases List.mem_cons.mp hp with rfl | hp
     ·exact ⟨heC,hCL,hC₀⟩
     ·refine ⟨k6 _ _ ?_ (N₂ p hp).1,(N₂ p hp).2⟩
      rcases List.mem_cons.mp hp with rfl | hp
      ·exact Ne.symm hCD
      ·exact (o3 p hp).2.1
   refine wpAny_mono (R' I_ oI H.objs.size oC s₂_.heap.objs.size _ h₆ _ _ hoC (by simp [h12,h13]) (by simp [h23]) (by simp) F₆ N₆ off' ⟨hIC,hID,hCD⟩) (fun ok s₄ h₄=>?_) fun _ _ e=>e
   cases ok with
   | true =>
    simp only [if_true] at h₄ ⊢
    refine wpAny_mono h₄ (fun y s₅ hq=>?_) fun _ _ e=>e
    refine via ?_
    intro gV yV;obtain ⟨h₇,tk₇,nw₇,rfl,F₇,N₇,off₇,hS₇,hJ₇⟩:=hq
    refine yV ?_
    clear yV gV;refine via ?_
    intro gV yV;obtain ⟨zI,zC,zD,N₇',_⟩:=end_parts N₇
    refine yV ?_
    clear yV gV;have hst₇:κ.2.2.1.2.2 (i+1) h₇:=hSt _ _ _ _ _ hst₆ heI zI F₇.keep N₇' hS₇
    refine append_at (hsz:=by show ys.toArray.size <= sizeLine;rw [List.size_toArray];exact Nat.le_trans (Nat.le_trans hyl hi) hsz) zD fun h₈ hs₈ hD₈=>?_
    have o7:=off₇.mem
    refine ⟨n_+1 - (i+1),by omega,h₈,tk₇,i+1,ys ++ [y],_,nw₇,rfl,hlt,rfl,by rw [List.length_append,List.length_singleton];exact Nat.succ_le_succ hyl,W.frame _ _ _ hst₇ fun b hb o e=>hs₈.extBut b o (fun q=>hDf (q▸hb)) e,F₇.change hs₈ hDL hD₀,
     (hoC.ns zC).sameBut hs₈ hCD,fun p hp=>?_,off₇,hS₇,hJ₇⟩
    rcases List.mem_cons.mp hp with rfl | hp
    ·exact ⟨hD₈.trans (congrArg some (lst_snoc ys y)),hDL,hD₀⟩
    ·exact ⟨hs₈.extBut _ _ (o7 p hp).2.2 (N₇' p hp).1,(N₇' p hp).2⟩
   | false =>
    simp only [Bool.false_eq_true,if_false] at h₄ ⊢
    refine via ?_
    intro gV yV;obtain ⟨h₇,tk₇,nw₇,rfl,F₇,N₇,off₇,hS₇,hJ₇⟩:=h₄
    refine yV ?_
    clear yV gV;refine via ?_
    intro gV yV;obtain ⟨zI,zC,zD,N₇',N₇''⟩:=end_parts N₇
    refine yV ?_
    clear yV gV;exact ⟨n_+1 - (i+1),by omega,h₇,tk₇,i+1,ys,_,nw₇,rfl,hlt,rfl,Nat.le_succ_of_le hyl,hSt _ _ _ _ _ hst₆ heI zI F₇.keep N₇' hS₇,F₇,hoC.ns zC,N₇'',off₇,hS₇,hJ₇⟩
  ·obtain rfl:i=n_:=Nat.le_antisymm hi (Nat.not_lt.mp hlt)
   refine W.done _ _ _ hst' fun h₂ tk₂ hk₂=>?_
   exact hRR _ _ h₂ tk₂ _ ys nw (fr_but F' hk₂ hIL hI₀) (keepN hk₂) off'.one (hn'.at' fun o e=>hk₂ _ o (by simpa using Ne.symm hIC) e) hC₀ hD₀ hCL hDL hCD (fun p hp=>(o3 p hp).2.1) hJ
 have hst₁:κ.2.2.1.2.2 0 h₁:=W.frame _ _ _ hst fun b _ o e=>up b o e
 exact codeAny_compStart_list (loop _ rfl) (W.self 0 _ _ _ hst₁ (loop _ rfl))
end e_block_three
theorem block_three {ct elt iter:Expr} {x₁ x₂ x₃:Str} {p₁ p₂ p₃ tp:Pos} {tk:Nat} {scope:Scope} {cl:List (Str×Addr)} {pos:Pos} {s₂:Shared} {I:Addr} {fp:List Addr} {n:Nat} {P:Nat -> Value -> Prop} {St:Nat -> Heap -> Prop} {S:List (Addr×Obj) -> Prop} {news:List (Addr×Obj)} {J:Nat -> List Value -> List (Addr×Obj) -> Prop} {RR:Value -> Addr -> Result -> Shared -> Prop}:@S_block_three prog w A E h₀ L m env ct elt iter x₁ x₂ x₃ p₁ p₂ p₃ tp tk scope cl pos s₂ I fp n P St S news J RR:=@pick_all _ _ e_block_three.Sd (by with_unfolding_all exact e_block_three.core) (((((_,_),_,_),(_,_),_,_),((_,_),_,_),(_,_),_,_),(((_,_),_,_),(_,_),_,_),((_,_),_,_),(_,_),_,_)
noncomputable def Src3 (prog:Program) (w:World) (A:Around) (h₀:Heap) (L:Addr) (m:Str -> Option Value) (env:Env) (ct elt:Expr) (x₁ x₂ x₃:Str) (scope:Scope) (cl:List (Str×Addr)) (Fin:Shared -> List Value -> List (Addr×Obj) -> Prop) (xv:Value) (s₁:Shared):Prop :=
 ∃ ax its news,xv=.ref ax /\ A.handled=none /\ Fr h₀ L s₁.heap m /\ News h₀ L s₁.heap news /\ SrcAt h₀ ax its news /\ its.size <= sizeLine ∧
  ∀ g,∃ J,J 0 [] news /\ Turn3 prog w A h₀ L m env ct elt x₁ x₂ x₃ scope cl { s₁ with heap:=g } (SrcAt h₀ ax its) (fun i v=>its[i]?=some v) J its.size /\ ∀ ys nw,J its.size ys nw -> Fin { s₁ with heap:=g } ys nw
theorem Assign_three {ct elt iter:Expr} {x₁ x₂ x₃ y:Str} {p₁ p₂ p₃ tp py:Pos} {tk:Nat} {scope:Scope} {cl:List (Str×Addr)} {pos spos:Pos} {Q:Flow -> Shared -> Prop} (F₀:Fr h₀ L s.heap m) (hLe:env.locals=L)
  (hsw:swapsWith (.ListComp elt [⟨.Tuple [.Name x₁ p₁,.Name x₂ p₂,.Name x₃ p₃] tk tp,iter,[ct],0⟩] scope pos) (some (.Name y py)) spos.line env=pure true)
  (hclos:closureFor scope env=pure cl) (hcell:∀ z∈scope.names,z.2≠.cell) (hkind:scope.kind=.function)
  (hnames:∀ z∈scope.names,z.2=.local -> scope.names.lookup z.1=some .local) (hx₁:scope.names.lookup x₁=some .local) (hx₂:scope.names.lookup x₂=some .local) (hx₃:scope.names.lookup x₃=some .local) (h12:x₁≠x₂) (h13:x₁≠x₃) (h23:x₂≠x₃)
  (hy:env.kindOf y=some .local) (hp:(env.scope.kind == .class || (env.scope.kind == .module && env.locals != env.globals))=false)
  (h:wpAny (model prog w) A (eval iter env) (Src3 prog w A h₀ L m env ct elt x₁ x₂ x₃ scope cl (fun s₂=>FinA h₀ L m s₂ y Q)) E s)
  (hs:∀ x,foldedSetIterable iter env x=pure x:=by intro _;rfl) :
  wpAny (model prog w) A (exec (.Assign [.Name y py] (.ListComp elt [⟨.Tuple [.Name x₁ p₁,.Name x₂ p₂,.Name x₃ p₃] tk tp,iter,[ct],0⟩] scope pos) spos) env) Q E s:=by
 subst hLe;rw [exec_Assign_Name_used _ _ _ _ hsw]
 refine wpAny_bind (wpAny_standAt (wpAny_bind ?_))
 show wpAny _ A (do let _ <- comprehension (.ListComp elt [⟨.Tuple [.Name x₁ p₁,.Name x₂ p₂,.Name x₃ p₃] tk tp,iter,[ct],0⟩] scope pos) scope env _ (newList []) false (eval iter env) (some (assign (.Name y py) env))) _ _ s
 refine wpAny_bind (wpAny_mono (wpAny_comprehension_free (use:=some (assign (.Name y py) env)) (Q:=fun _ s'=>Q .next s') rfl hs hclos hkind hnames
  (wpAny_mono h (fun xv s₁ h₁=>?_) fun _ _ e=>e)) (fun _ s' hq=>wpAny_pure (wpAny_pure hq)) fun _ _ e=>e)
 refine via ?_
 intro gV yV;obtain ⟨ax,its,news,rfl,hh,F,N,hsrc,hsz,R⟩:=h₁
 refine yV ?_
 clear yV gV;have hl:=hsrc.list F.keep N
 have hlt:ax < s₁.heap.objs.size:=by obtain ⟨_,e,_⟩:=hl;exact Heap.lt_size e
 refine wpAny_pyIter_list hl ?_
 have up:∀ b o,s₁.heap.get? b=some o -> (s₁.heap.push { cls:=.type "list_iterator",data:=.fields #[.ref ax,.int 0 0] }).get? b=some o:=fun b o e=>Heap.get?_push_of_some _ e
 refine via ?_
 intro gV yV;obtain ⟨J,hJ0,hR,hfin⟩:=R (s₁.heap.push { cls:=.type "list_iterator",data:=.fields #[.ref ax,.int 0 0] })
 refine yV ?_
 clear yV gV;refine block_three (Walks.list hh s₁.heap.objs.size ax (Nat.ne_of_lt hlt) its) hsz hh (fun i h st=>⟨_,_,st.1⟩) list_st hcell hkind hx₁ hx₂ hx₃ h12 h13 h23 ⟨⟨_,Heap.get?_push_size _ rfl,rfl,rfl⟩,hl.push _⟩ (fun b hb=>?_)
  (F.keeps up) (N.grown up) (Nat.ne_of_lt F.ns.lt) (next_is_new F) (fun p hp=>Nat.ne_of_lt (Heap.lt_size (N p hp).1)) hsrc hJ0 hR ?_
 ·show b < (s₁.heap.push _).objs.size
  rw [Heap.size_push]
  rcases List.mem_cons.mp hb with rfl | hb
  ·exact Nat.lt_succ_self _
  ·rw [List.mem_singleton.mp hb];exact Nat.lt_succ_of_lt hlt
 ·intro D C h' tk m' ys news' F' N' o1 hn hC₀ hD₀ hCL hDL hCD offC hJ
  have fin:=hfin ys news' hJ
  show wpAny _ A (assign (.Name y py) env (.ref D)) _ _ _
  refine wpAny_assign_Name (wpAny_storeName_local hy F'.ns (fun h₂ hn₂ hs₂=>?_) hp)
  have hL₀:h₀.get? env.locals=none:=Heap.get?_none_of_le F'.above
  have F₂:Fr h₀ env.locals h₂ (fun z=>if z=y then some (.ref D) else m z):=⟨hn₂,fun b o e=>hs₂.extBut b o (fun q=>by rw [q,hL₀] at e;cases e) (F'.keep b o e),F'.above⟩
  refine ⟨m',hn.sameBut hs₂ hCL,fun h'' hs''=>fin D h'' _ (F₂.change hs'' hCL hC₀) (fun p hp=>?_) o1⟩
  refine ⟨hs''.extBut _ _ ?_ (hs₂.extBut _ _ (N' p hp).2.1 (N' p hp).1),(N' p hp).2⟩
  rcases List.mem_cons.mp hp with rfl | hp
  ·exact Ne.symm hCD
  ·exact offC p hp
end
end
section
noncomputable def preW (cur:List Nat):List (List Nat)×List Nat -> List (List Nat)×List Nat
 | ([],p)=>([],cur ++ p)
 | (w::ws,p)=>((cur ++ w)::ws,p)
noncomputable def wordsW:List Nat -> List (List Nat)×List Nat
 | []=>([],[])
 | c::r=>if c=59 then ([]::(wordsW r).1,(wordsW r).2) else preW [c] (wordsW r)
theorem preW_nil (x:List (List Nat)×List Nat):preW [] x=x:=by
 obtain ⟨ws,p⟩:=x
 cases ws<;>rfl
theorem preW_app (a b:List Nat) (x:List (List Nat)×List Nat):preW (a ++ b) x=preW a (preW b x):=by
 obtain ⟨ws,p⟩:=x
 cases ws<;>simp [preW]
noncomputable def chunksOf (t:Nat) (l:List Nat):List (List Nat):=(List.range ((l.length+t - 1) / t)).map fun i=>(l.drop (i * t)).take t
theorem chunks_cons {t:Nat} (ht:1 <= t) {cur m:List Nat} (h:cur.length=t):chunksOf t (cur ++ m)=cur::chunksOf t m:=by
 unfold chunksOf
 have e:((cur ++ m).length+t - 1) / t=(m.length+t - 1) / t+1:=by
  rw [List.length_append,h,Nat.add_comm t,Nat.sub_add_comm (Nat.le_trans ht (Nat.le_add_left _ _)),Nat.add_div_right _ ht]
 rw [e,List.range_succ_eq_map,List.map_cons,List.map_map]
 congr 1
 ·rw [Nat.zero_mul,List.drop_zero,<- h,List.take_left]
 ·refine List.map_congr_left fun i _=>?_
  show List.take t (List.drop ((i+1) * t) (cur ++ m))=_
  rw [Nat.succ_mul,Nat.add_comm,<- List.drop_drop,<- h,List.drop_left]
theorem chunks_nil (t:Nat) (ht:1 <= t):chunksOf t []=[]:=by
 unfold chunksOf
 rw [List.length_nil,Nat.zero_add,Nat.div_eq_of_lt (Nat.sub_lt ht Nat.one_pos)]
 rfl
theorem chunks_one {t:Nat} (ht:1 <= t) {cur:List Nat} (h:cur.length <= t) (h0:cur≠[]):chunksOf t cur=[cur]:=by
 have h1:1 <= cur.length:=List.length_pos_iff.mpr h0
 unfold chunksOf
 rw [show (cur.length+t - 1) / t=1 from Nat.div_eq_of_lt_le (Nat.le_sub_of_add_le (by rw [Nat.one_mul,Nat.add_comm];exact Nat.add_le_add_right h1 t)) (Nat.lt_of_lt_of_le (Nat.sub_lt (Nat.lt_of_lt_of_le ht (Nat.le_add_left _ _)) Nat.one_pos) (by rw [Nat.succ_mul,Nat.one_mul];exact Nat.add_le_add_right h t))]
 show [List.take t (List.drop (0 * t) cur)]=_
 rw [Nat.zero_mul,List.drop_zero,List.take_of_length_le h]
noncomputable def rowsW (t:Nat) (x:List (List Nat)×List Nat):List (List Nat):=(x.1.map fun w=>chunksOf t (w ++ [59])).flatten ++ chunksOf t x.2
noncomputable def rowsL (t:Nat):List Nat -> List Nat -> List (List Nat)
 | cur,[]=>if cur=[] then [] else [cur]
 | cur,c::r=>if cur.length+1 <= t then (if c=59 then (cur ++ [c])::rowsL t [] r else rowsL t (cur ++ [c]) r) else cur::(if c=59 then [c]::rowsL t [] r else rowsL t [c] r)
theorem rowsW_full {t:Nat} (ht:1 <= t) {cur:List Nat} (h:cur.length=t) (x:List (List Nat)×List Nat):rowsW t (preW cur x)=cur::rowsW t x:=by
 obtain ⟨ws,p⟩:=x
 cases ws with
 | nil=>simp [rowsW,preW,chunks_cons ht h]
 | cons w ws=>simp [rowsW,preW,List.append_assoc,chunks_cons ht h]
theorem rowsL_words {t:Nat} (ht:1 <= t):∀ (l cur:List Nat),cur.length <= t -> rowsL t cur l=rowsW t (preW cur (wordsW l))
 | [],cur,h=>by
  unfold rowsL
  show _=rowsW t ([],cur ++ [])
  rw [List.append_nil]
  split
  ·next e=>rw [e];simp [rowsW,chunks_nil t ht]
  ·next e=>simp [rowsW,chunks_one ht h e]
 | c::r,cur,h=>by
  unfold rowsL wordsW
  by_cases hc:c=59
  ·subst hc
   rw [if_pos rfl,if_pos rfl,if_pos rfl,rowsL_words ht r [] (Nat.zero_le _),preW_nil]
   split
   ·next hf=>simp [rowsW,preW,chunks_one ht (cur:=cur ++ [59]) (by simp;omega) (by simp)]
   ·next hf =>
    have e:cur.length=t:=by omega
    simp [rowsW,preW,chunks_cons ht e,chunks_one ht (cur:=[59]) (by simp;omega) (by simp)]
  ·rw [if_neg hc,if_neg hc,if_neg hc,<- preW_app]
   split
   ·next hf=>exact rowsL_words ht r _ (by simp;omega)
   ·next hf =>
    have e:cur.length=t:=by omega
    rw [rowsL_words ht r [c] (by simp;omega),preW_app,rowsW_full ht e]
theorem words_free:∀ (l:List Nat),(∀ w∈(wordsW l).1,59∉w) /\ 59∉(wordsW l).2
 | []=>by simp [wordsW]
 | c::r=>by
  have ih:=words_free r
  unfold wordsW
  split
  ·exact ⟨fun w hw=>by
    rcases List.mem_cons.mp hw with h | h
    ·rw [h];simp
    ·exact ih.1 w h,ih.2⟩
  ·next hc =>
   generalize wordsW r=x at ih
   obtain ⟨ws,p⟩:=x
   cases ws with
   | nil=>exact ⟨by simp [preW],by simp [preW];exact ⟨fun e=>hc e.symm,ih.2⟩⟩
   | cons w ws =>
    refine ⟨fun w' hw=>?_,ih.2⟩
    rcases List.mem_cons.mp hw with h | h
    ·rw [h];simp;exact ⟨fun e=>hc e.symm,ih.1 w (.head _)⟩
    ·exact ih.1 w' (.tail _ h)
theorem words_join:∀ l:List Nat,((wordsW l).1.map fun w=>w ++ [59]).flatten ++ (wordsW l).2=l
 | []=>rfl
 | c::r=>by
  have ih:=words_join r
  unfold wordsW
  split
  ·next h =>
   subst h;show _=59::r
   conv=>rhs;rw [<- ih]
   simp
  ·conv=>rhs;rw [<- ih]
   generalize wordsW r=x
   obtain ⟨ws,p⟩:=x
   cases ws<;>simp [preW]
theorem words_free_app {w:List Nat} (h:59∉w) (x:List Nat):wordsW (w ++ x)=preW w (wordsW x):=by
 induction w with
 | nil=>rw [preW_nil];rfl
 | cons c w ih =>
  have h1:c≠59:=fun e=>h (by rw [e];exact .head _)
  rw [List.cons_append,wordsW,if_neg h1,ih (fun e=>h (.tail _ e)),<- preW_app]
  rfl
theorem chunks_len {t:Nat} (l:List Nat):(chunksOf t l).length=(l.length+t - 1) / t:=by simp [chunksOf]
theorem chunks_end {t:Nat} (ht:1 <= t) (l:List Nat):(chunksOf t (l ++ [59])).length=l.length / t+1:=by
 rw [chunks_len,List.length_append,List.length_singleton,Nat.add_right_comm,Nat.add_sub_cancel,Nat.add_div_right _ ht]
theorem rowsW_len {t:Nat} (ht:1 <= t) (ws:List (List Nat)) (p:List Nat):(rowsW t (ws,p)).length=(ws.map fun w=>w.length / t).sum+ws.length+(p.length+t - 1) / t:=by
 unfold rowsW
 rw [List.length_append,chunks_len,List.length_flatten,List.map_map]
 congr 1
 induction ws with
 | nil=>rfl
 | cons w ws ih =>
  rw [List.map_cons,List.map_cons,List.sum_cons,List.sum_cons,ih,Function.comp,chunks_end ht]
  simp;omega
theorem chunks_flat {t:Nat} (ht:1 <= t):∀ (n:Nat) (l:List Nat),l.length <= n -> (chunksOf t l).flatten=l
 | 0,l,h=>by rw [List.length_eq_zero_iff.mp (Nat.le_zero.mp h),chunks_nil t ht];rfl
 | n+1,l,h=>by
  by_cases h1:l.length <= t
  ·by_cases h0:l=[]
   ·rw [h0,chunks_nil t ht];rfl
   ·rw [chunks_one ht h1 h0];simp
  ·have e:l=l.take t ++ l.drop t:=(List.take_append_drop t l).symm
   rw [e,chunks_cons ht (by rw [List.length_take,Nat.min_eq_left (Nat.le_of_not_le h1)]),List.flatten_cons,chunks_flat ht n _ (by rw [List.length_drop];exact Nat.sub_le_of_le_add (Nat.le_trans h (Nat.add_le_add_left ht n)))]
theorem rowsW_flat {t:Nat} (ht:1 <= t) (l:List Nat):(rowsW t (wordsW l)).flatten=l:=by
 unfold rowsW
 rw [List.flatten_append,chunks_flat ht _ _ (Nat.le_refl _)]
 conv=>rhs;rw [<- words_join l]
 congr 1
 generalize (wordsW l).1=ws
 induction ws with
 | nil=>rfl
 | cons w ws ih=>simp only [List.map_cons,List.flatten_cons,List.flatten_append,ih,chunks_flat ht _ _ (Nat.le_refl _)]
theorem chunks_last {t:Nat} (ht:1 <= t) {p:List Nat} (hp:p≠[]):∃ a r,chunksOf t p=a ++ [r] /\ t * a.length+r.length=p.length /\ r≠[]:=by
 have:∀ (n:Nat) (p:List Nat),p.length <= n -> p≠[] -> ∃ a r,chunksOf t p=a ++ [r] /\ t * a.length+r.length=p.length /\ r≠[]:=by
  intro n;induction n with
  | zero=>exact fun p h h0=>absurd (List.length_eq_zero_iff.mp (Nat.le_zero.mp h)) h0
  | succ n ih =>
   intro p h h0;by_cases h1:p.length <= t
   ·exact ⟨[],p,by rw [chunks_one ht h1 h0];rfl,by simp,h0⟩
   ·have e:p=p.take t ++ p.drop t:=(List.take_append_drop t p).symm
    obtain ⟨a,r,e1,e2,e3⟩:=ih (p.drop t) (by rw [List.length_drop];exact Nat.sub_le_of_le_add (Nat.le_trans h (Nat.add_le_add_left ht n))) (fun e=>h1 (List.drop_eq_nil_iff.mp e))
    refine ⟨p.take t::a,r,?_,?_,e3⟩
    ·conv=>lhs;rw [e]
     rw [chunks_cons ht (by rw [List.length_take,Nat.min_eq_left (Nat.le_of_not_le h1)]),e1];rfl
    ·rw [List.length_drop] at e2
     rw [List.length_cons,Nat.mul_succ,Nat.add_right_comm,e2,Nat.sub_add_cancel (Nat.le_of_not_le h1)]
 exact this _ p (Nat.le_refl _) hp
theorem rowsW_ne {t:Nat} (ht:1 <= t) {l:List Nat} (h:∀ c∈l,c=c):∀ r∈rowsW t (wordsW l),r≠[]:=by
 have hc:∀ q:List Nat,∀ r∈chunksOf t q,r≠[]:=by
  intro q r hr;unfold chunksOf at hr
  obtain ⟨i,hi,rfl⟩:=List.mem_map.mp hr
  have h2:=List.mem_range.mp hi
  intro e;have e2:=congrArg List.length e
  rw [List.length_take,List.length_drop,List.length_nil] at e2
  have h3:(i+1) * t <= q.length+t - 1:=(Nat.le_div_iff_mul_le ht).mp h2
  rw [Nat.succ_mul] at h3
  have h4:i * t < q.length:=Nat.lt_of_add_lt_add_right (Nat.lt_of_le_of_lt h3 (Nat.sub_lt (Nat.lt_of_lt_of_le ht (Nat.le_add_left _ _)) Nat.one_pos))
  exact Nat.ne_of_gt (Nat.lt_min.mpr ⟨ht,Nat.sub_pos_of_lt h4⟩) e2
 intro r hr;unfold rowsW at hr
 rcases List.mem_append.mp hr with h | h
 ·obtain ⟨q,hq,hr⟩:=List.mem_flatten.mp h
  obtain ⟨w,_,rfl⟩:=List.mem_map.mp hq
  exact hc _ r hr
 ·exact hc _ r h
end
theorem reg26:True:=by
 w_top off
 k_with "A"=>skip
 k_with "b"=>fail_if_success k_extra "B"
 trivial
section
structure WTok where
 k1:Tok
 k2:Tok
 k3:Tok
 k4:Tok
 k5:Tok
 v1:Tok
 v2:Tok
 v3:Tok
noncomputable abbrev wsO (P:Params) (raw:Str) (n nt:Int) (nm:Addr) (simple:Bool) (t:WTok):Obj:=dictOf [⟨PyData.keyHash P "raw",.str "raw" t.k1,.str raw t.v1⟩,⟨PyData.keyHash P "n",.str "n" t.k2,.int n t.v2⟩,⟨PyData.keyHash P "nt",.str "nt" t.k3,.int nt t.v3⟩,
 ⟨PyData.keyHash P "norm",.str "norm" t.k4,.ref nm⟩,⟨PyData.keyHash P "is_simple",.str "is_simple" t.k5,.bool simple⟩] 5
noncomputable abbrev tup2 (a b:Value):Obj:=⟨.type "tuple",none,.seq #[a,b] 0,#[]⟩
noncomputable abbrev tupOf (vs:List Value):Obj:=⟨.type "tuple",none,.seq vs.toArray 0,#[]⟩
theorem len_tupN {prog:Program} {w:World} {A:Around} {E:Value -> Shared -> Prop} {s:Shared} {h₀:Heap} {L ct:Addr} {news:List (Addr×Obj)} {vs:List Value} {cs:List Int} {Q:Value -> Shared -> Prop} (N:News h₀ L s.heap news) (hm:(ct,tupOf vs)∈news) (hi:IntsAre vs cs) (hl:cs.length <= 1000)
  (h:Q (.int cs.length (s.toks+1)) { s with toks:=s.toks+1+1 }):wpAny (model prog w) A (call (.builtin "len") [.ref ct]) Q E s:=by
 have e:=hi.length
 have e2:vs.toArray.size=cs.length:=by simp [e]
 exact len_tuple (items:=vs.toArray) ⟨_,N.get hm,rfl,0,rfl⟩ (by rw [e2];omega) (by rw [e2];exact h)
theorem reg27:True:=by
 w_top off
 k_with "call builtin:len"=>(k_extra "b";k_here;k_dflt (refine' len_tupN (by k_asm) ?hm ?hi ?hl ?_;(case hm=>k_mem);(case hi=>assumption);(case hl=>assumption)))
 trivial
noncomputable def indS (ts:Int) (cs:List Int) (pre:List Int):Int:=(pre.map fun i=>i.fdiv ts * cs.getD i.toNat 0).sum
theorem indS_snoc {ts:Int} {cs pre:List Int} {il k:Int} (h:il=indS ts cs pre):il+k.fdiv ts * cs.getD k.toNat 0=indS ts cs (pre ++ [k]):=by
 simp [indS,h]
noncomputable def rangeFrom (a:Int) (n:Nat):List Int:=rangeKs a ((n:Int) - a).toNat
section
variable
 {news:List (Addr×Obj)} {raw:Str} {n nt b:Int} {nm ct ws wd:Addr} {simple:Bool} {t:WTok} {tb:Tok} {vs:List Value} {cs:List Int}
variable (B:Below A₀ base outer h₀) (F:Fr h₀ L s.heap m) (X:(KK w.params).In h₀) (T:Top p loose mean mg mb h₀) (hk:cs₀.kind=.function) (hd:dp+2 < recursionLimit) (hu:un+12 < cLine)
 (N:News h₀ L s.heap news) (hw:(ws,instObj 315 wd)∈news) (hwd:(wd,wsO w.params raw n nt nm simple t)∈news) (hnm:(nm,tup2 (.ref ct) (.int b tb))∈news) (hct:(ct,tupOf vs)∈news) (hi:IntsAre vs cs)
 (hlen:cs.length <= 1000) (hb0:0 <= b) (hb1:b <= 1000)
include B F X T hk hd hu N hw hwd hnm hct hi hlen hb0 hb1
omit B F X T hk hd hu N hw hwd hnm hct hi hlen hb0 hb1 in
theorem mulOk_getD {a:Int} {i:Nat} (h:∀ c∈cs,0 <= c /\ c <= 1000):IntMulOk a (cs.getD i 0):=by
 have:0 <= cs.getD i 0 /\ cs.getD i 0 <= 1000:=by
  rw [List.getD_eq_getElem?_getD]
  cases e:cs[i]? with
  | none=>simp
  | some c=>exact h c (List.mem_of_getElem? e)
 exact PySem.IntMulOk.of_right (PySem.intBits_le_64 (by omega) (by omega))
local macro_rules | `(tactic| mul_fits)=>`(tactic| k_extra "mul_fits3")
theorem ws_longest (hret:∀ (t:Tok) (h':Heap) (tk':Nat),Fr h₀ L h' m -> News h₀ L h' news -> Q (.int (max ((cs.length:Int) - 1) b) t) { s with heap:=h',toks:=tk' }) :
  wpAny (model rw_rw0127_01.row.prog w) (ktrTop dp un gd cn cs₀ L a ccd cl outer) (call (.ref 277) [.ref ws]) Q E s:=by
 revert X;k_fill;intro X;refine wpAny_call ?_;(k_extra "eD";intro g' L' h' FG' F' N' B' X' T';k_extra "tl")
 k_steps;have e9:max ((cs.length:Int) - 1) b=if b > ↑cs.length - 1 then b else ↑cs.length - 1:=by
  by_cases h9:b > (cs.length:Int) - 1
  ·rw [if_pos h9];omega
  ·rw [if_neg h9];omega
 rw [e9] at hret
 exact hret _ _ _ (by assumption) (by assumption)
omit B F X T hk hd hu N hw hwd hnm hct hi hlen hb0 hb1 in
noncomputable def S_ws_indent {ts:Int} {tt:Tok}:Prop:=∀ (B:Below A₀ base outer h₀) (F:Fr h₀ L s.heap m) (X:(KK w.params).In h₀) (T:Top p loose mean mg mb h₀) (hk:cs₀.kind=.function) (hd:dp+2 < recursionLimit) (hu:un+12 < cLine) (N:News h₀ L s.heap news) (hw:(ws,instObj 315 wd)∈news) (hwd:(wd,wsO w.params raw n nt nm simple t)∈news) (hnm:(nm,tup2 (.ref ct) (.int b tb))∈news) (hct:(ct,tupOf vs)∈news) (hi:IntsAre vs cs) (hlen:cs.length <= 1000) (hb0:0 <= b) (hb1:b <= 1000) (hcs:∀ c∈cs,0 <= c /\ c <= 1000) (h1:1 <= ts) (h2:ts <= 1000) (hret:∀ (t:Tok) (h':Heap) (tk':Nat),Fr h₀ L h' m -> News h₀ L h' news -> Q (.int (b+ts * (indS ts cs (rangeFrom ts cs.length)+nt)) t) { s with heap:=h',toks:=tk' }),wpAny (model rw_rw0127_01.row.prog w) (ktrTop dp un gd cn cs₀ L a ccd cl outer) (call (.ref 284) [.ref ws,.int ts tt]) Q E s
namespace e_ws_indent
omit B F X T hk hd hu N hw hwd hnm hct hi hlen hb0 hb1 in
noncomputable abbrev Sd:=fun z:(((((_×_)×_×_)×(_×_)×_×_×_)×((_×_)×_×_×_)×(_×_)×_×_×_)×(((_×_)×_×_×_)×(_×_)×_×_×_)×((_×_)×_×_×_)×(_×_)×_×_×_)=>@S_ws_indent z.1.1.1.1.1 z.1.1.1.1.2 z.1.1.1.2.1 z.1.1.1.2.2 z.1.1.2.1.1 z.1.1.2.1.2 z.1.1.2.2.1 z.1.1.2.2.2.1 z.1.1.2.2.2.2 z.1.2.1.1.1 z.1.2.1.1.2 z.1.2.1.2.1 z.1.2.1.2.2.1 z.1.2.1.2.2.2 z.1.2.2.1.1 z.1.2.2.1.2 z.1.2.2.2.1 z.1.2.2.2.2.1 z.1.2.2.2.2.2 z.2.1.1.1.1 z.2.1.1.1.2 z.2.1.1.2.1 z.2.1.1.2.2.1 z.2.1.1.2.2.2 z.2.1.2.1.1 z.2.1.2.1.2 z.2.1.2.2.1 z.2.1.2.2.2.1 z.2.1.2.2.2.2 z.2.2.1.1.1 z.2.2.1.1.2 z.2.2.1.2.1 z.2.2.1.2.2.1 z.2.2.1.2.2.2 z.2.2.2.1.1 z.2.2.2.1.2 z.2.2.2.2.1 z.2.2.2.2.2.1 z.2.2.2.2.2.2
omit B F X T hk hd hu N hw hwd hnm hct hi hlen hb0 hb1 in
@[irreducible] def κ:=pick (by k_extra "ne") Sd
def ts_:=κ.2.2.2.2.2.1
omit B F X T hk hd hu N hw hwd hnm hct hi hlen hb0 hb1 in
noncomputable abbrev Sc:=@S_ws_indent κ.1.1.1.1.1 κ.1.1.1.1.2 κ.1.1.1.2.1 κ.1.1.1.2.2 κ.1.1.2.1.1 κ.1.1.2.1.2 κ.1.1.2.2.1 κ.1.1.2.2.2.1 κ.1.1.2.2.2.2 κ.1.2.1.1.1 κ.1.2.1.1.2 κ.1.2.1.2.1 κ.1.2.1.2.2.1 κ.1.2.1.2.2.2 κ.1.2.2.1.1 κ.1.2.2.1.2 κ.1.2.2.2.1 κ.1.2.2.2.2.1 κ.1.2.2.2.2.2 κ.2.1.1.1.1 κ.2.1.1.1.2 κ.2.1.1.2.1 κ.2.1.1.2.2.1 κ.2.1.1.2.2.2 κ.2.1.2.1.1 κ.2.1.2.1.2 κ.2.1.2.2.1 κ.2.1.2.2.2.1 κ.2.1.2.2.2.2 κ.2.2.1.1.1 κ.2.2.1.1.2 κ.2.2.1.2.1 κ.2.2.1.2.2.1 κ.2.2.1.2.2.2 κ.2.2.2.1.1 κ.2.2.2.1.2 κ.2.2.2.2.1 ts_ κ.2.2.2.2.2.2
omit B F X T hk hd hu N hw hwd hnm hct hi hlen hb0 hb1 in
noncomputable def seg:PSigma fun P:Heap -> Addr -> Heap -> Prop=>(∀ g L h,P g L h) -> Sc:=⟨_,by
 intro hP;unfold Sc S_ws_indent
 intro B F X T hk hd hu N hw hwd hnm hct hi hlen hb0 hb1 hcs h1 h2 hret;revert X;k_fill;intro X;refine wpAny_call ?_;(k_extra "eD";intro g' L' h' FG' F' N' B' X' T';revert B F T hk hd hu N hw hwd hnm hct hi hlen hb0 hb1 hcs h1 h2 hret X FG' F' N' B' X' T';exact hP g' L' h')⟩
omit B F X T hk hd hu N hw hwd hnm hct hi hlen hb0 hb1 in
@[irreducible] def σ:=pick (inferInstance:Nonempty (Heap×Addr×Heap)) fun d=>seg.1 d.1 d.2.1 d.2.2
omit B F X T hk hd hu N hw hwd hnm hct hi hlen hb0 hb1 in
theorem body:seg.1 σ.1 σ.2.1 σ.2.2:=by
 intro B F T hk hd hu N hw hwd hnm hct hi hlen hb0 hb1 hcs h1 h2 hret X FG' F' N' B' X' T';(k_extra "tl")
 k_with "pyIter ref"=>(k_extra "b";k_state (fun pre il=>il=indS ts_ κ.2.2.2.2.1 pre) "il")
 k_with "state"=>exact indS_snoc (by assumption)
 k_steps;(rename _=indS _ _ _=>e9);rw [show indS ts_ κ.2.2.2.2.1 (rangeFrom ts_ κ.2.2.2.2.1.length)=_ from e9.symm] at hret
 exact hret _ _ _ (by assumption) (by assumption)
omit B F X T hk hd hu N hw hwd hnm hct hi hlen hb0 hb1 in
theorem core:Sc:=seg.2 fun g L h=>pick_all (P:=fun d:Heap×Addr×Heap=>seg.1 d.1 d.2.1 d.2.2) (by with_unfolding_all exact body) (g,L,h)
end e_ws_indent
omit B F X T hk hd hu N hw hwd hnm hct hi hlen hb0 hb1 in
theorem ws_indent {ts:Int} {tt:Tok}:@S_ws_indent w mean mg mb p loose dp un gd cn cs₀ a ccd cl outer A₀ base h₀ L m s Q E news raw n nt b nm ct ws wd simple t tb vs cs ts tt:=@pick_all _ _ e_ws_indent.Sd (by with_unfolding_all exact e_ws_indent.core) (((((_,_),_,_),(_,_),_,_,_),((_,_),_,_,_),(_,_),_,_,_),(((_,_),_,_,_),(_,_),_,_,_),((_,_),_,_,_),(_,_),_,_,_)
end
end
theorem reg28:True:=by
 w_top off
 k_with "B"=>skip
 k_with "c"=>fail_if_success k_extra "C"
 k_with "ite"=>(k_extra "c";k_here;with_reducible first | refine ite_p (by with_unfolding_all rfl) ?_ | refine ite_n (by with_unfolding_all exact Bool.false_ne_true) ?_)
 k_with "exec If"=>(k_extra "c";k_here;k_dflt (refine wpAny_If ?_))
 k_with "call builtin:len"=>(k_extra "c";k_here;k_dflt (refine' len_strsV (by k_asm) ?hm ?hl ?_;(case hm=>k_mem);(case hl=>omega)))
 k_with "call builtin:len"=>(k_extra "c";k_here;k_dflt (refine' len_strT ?hz ?_;(case hz=>omega)))
 trivial
section
theorem mem_small {l:List (Str×Tok)} {ls:List Str} {j:Nat} {y':Str} (h:∀ z∈ls,z.cps.size <= 10000) (e:l.map (·.1)=ls) (e8:(l.map (·.1))[j]?=some y'):y'.cps.size <= 10000:=h _ (by rw [<- e];exact List.mem_of_getElem? e8)
theorem reg29:True:=by
 w_top off
 k_with "call builtin:str.split"=>(k_extra "c";k_here;k_dflt (refine' KSpl.split1 (by k_asm) (by k_asm) (by decide) ?_ ?sz;(case sz=>(rw [sizeLine_eq];show Array.size _+2 <= _;omega)));intro D'z l'z h'z k'z e'z a'z F'z N'z l1z;have e9:=congrArg List.length e'z;rw [List.length_map] at e9)
 k_with "subscriptTail"=>(k_extra "c";k_extra "hg")
 trivial
noncomputable def placeN (ls:List Str) (hdd t:Nat) (c:Bool):Nat:=if c=true then t * ls.length else t * (ls.length - 1)+(ls.getD (ls.length - 1) "").cps.size / 2+(if ls.length=1 then hdd else 0)
theorem place_int {ls:List Str} {l:List (Str×Tok)} {hdd t:Nat} {c:Bool} {y:Str} (h1:1 <= ls.length) (e:l.map (·.1)=ls) (hc:c=false) (e8:(l.map (·.1))[(-1+(l.length:Int)).toNat]?=some y) {d:Int} (hd:d=((if ls.length=1 then hdd else 0:Nat):Int)) :
  (t:Int) * ((l.length:Int) - 1)+((y.cps.size:Nat):Int).fdiv 2+d=((placeN ls hdd t c:Nat):Int):=by
 have e9:l.length=ls.length:=by rw [<- e,List.length_map]
 rw [e,tnm,e9] at e8
 have e4:ls.getD (ls.length - 1) ""=y:=by rw [List.getD_eq_getElem?_getD,e8];rfl
 have hf:((y.cps.size:Nat):Int).fdiv 2=((y.cps.size / 2:Nat):Int):=by rw [Int.fdiv_eq_ediv_of_nonneg _ (by decide)];rfl
 rw [hf,e9,pred1 h1,hd]
 unfold placeN
 rw [hc,if_neg (show ¬ (false=true) from Bool.false_ne_true),e4,Int.natCast_add,Int.natCast_add,Int.natCast_mul]
section
variable
 {news:List (Addr×Obj)} {y:Str} {t hdd:Nat} {c:Bool} {t1 t2 t3:Tok}
variable (B:Below A₀ base outer h₀) (F:Fr h₀ L s.heap m) (X:(KK w.params).In h₀) (T:Top p loose mean mg mb h₀) (hk:cs₀.kind=.function) (hd:dp+40 < recursionLimit) (hu:un+250 < cLine)
 (N:News h₀ L s.heap news)
noncomputable def S_law_place :Prop:=∀ (B:Below A₀ base outer h₀) (F:Fr h₀ L s.heap m) (X:(KK w.params).In h₀) (T:Top p loose mean mg mb h₀) (hk:cs₀.kind=.function) (hd:dp+40 < recursionLimit) (hu:un+250 < cLine) (N:News h₀ L s.heap news) (hy:y.cps.size <= 10000) (ht:t <= 1000) (hh:hdd <= 1000) (hl:(Txt.split y "\n").length <= 1000) (hl1 : 1 <= (Txt.split y "\n").length) (hls : ∀ z ∈ Txt.split y "\n", z.cps.size <= 10000) (hret : ∀ (t' : Tok) (h' : Heap) (tk' : Nat), Fr h₀ L h' m -> News h₀ L h' news -> Q (.int (placeN (Txt.split y "\n") hdd t c:Nat) t') { s with heap:=h',toks:=tk' }),wpAny (model rw_rw0127_01.row.prog w) (ktrTop dp un gd cn cs₀ L a ccd cl outer) (call (.ref 355) [.str y t1,.int (hdd:Nat) t2,.int (t:Nat) t3,.bool c]) Q E s
namespace e_law_place
noncomputable abbrev Sd:=fun z:((((_×_×_)×(_×_)×_×_)×((_×_)×_×_)×(_×_)×_×_)×(((_×_)×_×_)×(_×_)×_×_)×((_×_)×_×_)×(_×_)×_×_)=>@S_law_place z.1.1.1.1 z.1.1.1.2.1 z.1.1.1.2.2 z.1.1.2.1.1 z.1.1.2.1.2 z.1.1.2.2.1 z.1.1.2.2.2 z.1.2.1.1.1 z.1.2.1.1.2 z.1.2.1.2.1 z.1.2.1.2.2 z.1.2.2.1.1 z.1.2.2.1.2 z.1.2.2.2.1 z.1.2.2.2.2 z.2.1.1.1.1 z.2.1.1.1.2 z.2.1.1.2.1 z.2.1.1.2.2 z.2.1.2.1.1 z.2.1.2.1.2 z.2.1.2.2.1 z.2.1.2.2.2 z.2.2.1.1.1 z.2.2.1.1.2 z.2.2.1.2.1 z.2.2.1.2.2 z.2.2.2.1.1 z.2.2.2.1.2 z.2.2.2.2.1 z.2.2.2.2.2
@[irreducible] def κ:=pick (by k_extra "ne") Sd
def t_:=κ.2.2.1.2.1
def hdd_:=κ.2.2.1.2.2
noncomputable abbrev Sc:=@S_law_place κ.1.1.1.1 κ.1.1.1.2.1 κ.1.1.1.2.2 κ.1.1.2.1.1 κ.1.1.2.1.2 κ.1.1.2.2.1 κ.1.1.2.2.2 κ.1.2.1.1.1 κ.1.2.1.1.2 κ.1.2.1.2.1 κ.1.2.1.2.2 κ.1.2.2.1.1 κ.1.2.2.1.2 κ.1.2.2.2.1 κ.1.2.2.2.2 κ.2.1.1.1.1 κ.2.1.1.1.2 κ.2.1.1.2.1 κ.2.1.1.2.2 κ.2.1.2.1.1 κ.2.1.2.1.2 κ.2.1.2.2.1 κ.2.1.2.2.2 κ.2.2.1.1.1 κ.2.2.1.1.2 t_ hdd_ κ.2.2.2.1.1 κ.2.2.2.1.2 κ.2.2.2.2.1 κ.2.2.2.2.2
omit B F X T hk hd hu N in
noncomputable def seg:PSigma fun P:Heap -> Addr -> Heap -> Prop=>(∀ g L h,P g L h) -> Sc:=⟨_,by
 intro hP;unfold Sc S_law_place
 intro B F X T hk hd hu N hy ht hh hl hl1 hls hret;revert X;k_fill;intro X;refine wpAny_call ?_;(k_extra "eD";intro g' L' h' FG' F' N' B' X' T';revert B F T hk hd hu N hy ht hh hl hl1 hls hret X FG' F' N' B' X' T';exact hP g' L' h')⟩
@[irreducible] def σ:=pick (inferInstance:Nonempty (Heap×Addr×Heap)) fun d=>seg.1 d.1 d.2.1 d.2.2
theorem body:seg.1 σ.1 σ.2.1 σ.2.2:=by
 intro B F T hk hd hu N hy ht hh hl hl1 hls hret X FG' F' N' B' X' T';(k_extra "tl")
 k_steps
 ·have e5:∀ n:Nat,n=(Txt.split κ.2.2.1.1.2 "\n").length -> (t_ : Int) * (n : Int) = ((placeN (Txt.split κ.2.2.1.1.2 "\n") hdd_ t_ κ.2.2.2.1.1:Nat):Int):=fun n hn=>by
   rw [hn];unfold placeN;rw [if_pos (by assumption),Int.natCast_mul]
  rw [e5 _ (by assumption)]
  (rename News _ _ _ _=>kN9);exact hret _ _ _ (by assumption) (fun p hp=>kN9 p (List.mem_cons_of_mem _ hp))
 ·refine unhalt ?_
  (rename News _ _ _ _=>lN');k_dflt (refine' item_strsTneg (list_in lN' ?hm) ?h0 ?hk ?hf ?_)
  case hm=>k_mem
  case h0=>decide
  case hk=>omega
  case hf=>decide
  intro y' t' e8;have e7:=mem_small (by assumption) (by assumption) e8
  k_steps
  ·rw [place_int (hdd:=hdd_) hl1 (by assumption) (by assumption) e8 (by rw [if_pos (by omega)])]
   (rename News _ _ _ _=>kN9);exact hret _ _ _ (by assumption) (fun p hp=>kN9 p (List.mem_cons_of_mem _ hp))
  ·rw [place_int (hdd:=hdd_) hl1 (by assumption) (by assumption) e8 (by rw [if_neg (by omega)];rfl)]
   (rename News _ _ _ _=>kN9);exact hret _ _ _ (by assumption) (fun p hp=>kN9 p (List.mem_cons_of_mem _ hp))
theorem core:Sc:=seg.2 fun g L h=>pick_all (P:=fun d:Heap×Addr×Heap=>seg.1 d.1 d.2.1 d.2.2) (by with_unfolding_all exact body) (g,L,h)
end e_law_place
theorem law_place :@S_law_place w mean mg mb p loose dp un gd cn cs₀ a ccd cl outer A₀ base h₀ L m s Q E news y t hdd c t1 t2 t3:=@pick_all _ _ e_law_place.Sd (by with_unfolding_all exact e_law_place.core) ((((_,_,_),(_,_),_,_),((_,_),_,_),(_,_),_,_),(((_,_),_,_),(_,_),_,_),((_,_),_,_),(_,_),_,_)
end
end
theorem reg30:True:=by
 w_top off
 k_with "C"=>skip
 k_with "d"=>fail_if_success k_extra "D"
 k_with "ite"=>(k_extra "d";k_here;with_reducible first | refine ite_p (by with_unfolding_all rfl) ?_ | refine ite_n (by with_unfolding_all exact Bool.false_ne_true) ?_)
 k_with "exec If"=>(k_extra "d";k_here;k_dflt (refine wpAny_If ?_))
 trivial
section
noncomputable def basesL:List Int:=[65,119808,119860,119912,120016,120172,120224,120276,120328,120380,120432]
noncomputable def besideL:List Int:=[172,174,846,848,6149,6151,6154,8206,8289,65023,65040,65278,65280]
noncomputable def hiddenL:List Int:=[173,847,6150,6155,6156,6157,8203,8204,8205,8288,65279]
noncomputable def pair1 (n:Int):Str×Str:=if n.fmod 12 < 11 then (one (basesL.getD (n.fmod 12).toNat 0+(n.fdiv 12).fmod 26).toNat,one (97+(n.fdiv 12).fmod 26).toNat)
 else (one (besideL.getD ((n.fdiv 12).fmod 13).toNat 0).toNat,one (besideL.getD ((n.fdiv 12).fmod 13).toNat 0).toNat)
noncomputable def pair3 (n:Int):Str×Str:=(if n.fmod 27 < 11 then one (hiddenL.getD (n.fmod 27).toNat 0).toNat else one (65013+n.fmod 27).toNat,("":Str))
theorem getD_rng (l:List Int) (h:∀ z∈l,0 <= z /\ z <= 200000) (k:Nat):0 <= l.getD k 0 /\ l.getD k 0 <= 200000:=by
 rw [List.getD_eq_getElem?_getD]
 cases e:l[k]? with
 | none=>simp
 | some c=>exact h c (List.mem_of_getElem? e)
noncomputable def severalL:List (Str×Str):=[(⟨#[64257]⟩,⟨#[102,105]⟩),(⟨#[223]⟩,⟨#[115,115]⟩),(⟨#[8360]⟩,⟨#[114,115]⟩),(⟨#[13201]⟩,⟨#[107,104,122]⟩),(⟨#[64259]⟩,⟨#[102,102,105]⟩),(⟨#[8481]⟩,⟨#[116,101,108]⟩),(⟨#[13255]⟩,⟨#[99,111,46]⟩),(⟨#[8470]⟩,⟨#[110,111]⟩),(⟨#[7830]⟩,⟨#[104,817]⟩),(⟨#[912]⟩,⟨#[953,776,769]⟩),(⟨#[8064]⟩,⟨#[7936,953]⟩),(⟨#[1415]⟩,⟨#[1381,1410]⟩)]
noncomputable def pair2 (n:Int):Str×Str:=severalL.getD (n.fmod 12).toNat (("":Str),("":Str))
section
variable
 {news:List (Addr×Obj)} {n:Int} {t1 t2:Tok}
variable (B:Below A₀ base outer h₀) (F:Fr h₀ L s.heap m) (X:(KK w.params).In h₀) (T:Top p loose mean mg mb h₀) (hk:cs₀.kind=.function) (hd:dp+40 < recursionLimit) (hu:un+250 < cLine)
 (N:News h₀ L s.heap news)
include B F X T hk hd hu N
theorem pair_1a (h9:n.fmod 12 < 11) (h1:0 <= n) (h2:n <= 10000) (hret:∀ (T:Addr) (ta tb:Tok) (h':Heap) (tk':Nat),Fr h₀ L h' m -> News h₀ L h' ((T,tup2 (.str (pair1 n).1 ta) (.str (pair1 n).2 tb))::news) -> Q (.ref T) { s with heap:=h',toks:=tk' }) :
  wpAny (model rw_rw0127_01.row.prog w) (ktrTop dp un gd cn cs₀ L a ccd cl outer) (call (.ref 326) [.int 1 t1,.int n t2]) Q E s:=by
 have c1:0 <= (n.fdiv 12).fmod 26:=Int.fmod_nonneg_of_pos _ (by decide)
 have c2:(n.fdiv 12).fmod 26 < 26:=Int.fmod_lt_of_pos _ (by decide)
 have d1:=getD_rng [65,119808,119860,119912,120016,120172,120224,120276,120328,120380,120432] (by decide) (n.fmod 12).toNat
 have f1:=Int.add_nonneg d1.1 c1
 have f2:=Int.le_trans (Int.add_le_add d1.2 (Int.le_of_lt c2)) (show (200000:Int)+26 <= 1114111 by decide)
 have f3:=Int.add_nonneg (show (0:Int) <= 97 by decide) c1
 have f4:=Int.le_trans (Int.add_le_add (Int.le_refl 97) (Int.le_of_lt c2)) (show (97:Int)+26 <= 1114111 by decide)
 obtain ⟨d2,d3⟩:=getD_rng [172,174,846,848,6149,6151,6154,8206,8289,65023,65040,65278,65280] (by decide) ((n.fdiv 12).fmod 13).toNat
 revert X;k_fill;intro X;refine wpAny_call ?_;(k_extra "eD";intro g' L' h' FG' F' N' B' X' T';k_extra "tl")
 k_steps;all_goals (rename Fr _ _ _ _=>kF9)
 all_goals (rename News _ _ _ _=>kN9)
 have e9:pair1 n=(⟨#[(([65,119808,119860,119912,120016,120172,120224,120276,120328,120380,120432]:List Int).getD (n.fmod 12).toNat 0+(n.fdiv 12).fmod 26).toNat]⟩,⟨#[(97+(n.fdiv 12).fmod 26).toNat]⟩):=by
  unfold pair1;rw [if_pos (by assumption)];rfl
 rw [e9] at hret
 exact hret _ _ _ _ _ kF9 (news_skip1 kN9)
theorem pair_1b (h9:¬ n.fmod 12 < 11) (h1:0 <= n) (h2:n <= 10000) (hret:∀ (T:Addr) (ta tb:Tok) (h':Heap) (tk':Nat),Fr h₀ L h' m -> News h₀ L h' ((T,tup2 (.str (pair1 n).1 ta) (.str (pair1 n).2 tb))::news) -> Q (.ref T) { s with heap:=h',toks:=tk' }) :
  wpAny (model rw_rw0127_01.row.prog w) (ktrTop dp un gd cn cs₀ L a ccd cl outer) (call (.ref 326) [.int 1 t1,.int n t2]) Q E s:=by
 have c1:0 <= (n.fdiv 12).fmod 26:=Int.fmod_nonneg_of_pos _ (by decide)
 have c2:(n.fdiv 12).fmod 26 < 26:=Int.fmod_lt_of_pos _ (by decide)
 have d1:=getD_rng [65,119808,119860,119912,120016,120172,120224,120276,120328,120380,120432] (by decide) (n.fmod 12).toNat
 have f1:=Int.add_nonneg d1.1 c1
 have f2:=Int.le_trans (Int.add_le_add d1.2 (Int.le_of_lt c2)) (show (200000:Int)+26 <= 1114111 by decide)
 have f3:=Int.add_nonneg (show (0:Int) <= 97 by decide) c1
 have f4:=Int.le_trans (Int.add_le_add (Int.le_refl 97) (Int.le_of_lt c2)) (show (97:Int)+26 <= 1114111 by decide)
 obtain ⟨d2,d3⟩:=getD_rng [172,174,846,848,6149,6151,6154,8206,8289,65023,65040,65278,65280] (by decide) ((n.fdiv 12).fmod 13).toNat
 revert X;k_fill;intro X;refine wpAny_call ?_;(k_extra "eD";intro g' L' h' FG' F' N' B' X' T';k_extra "tl")
 k_steps;all_goals (rename Fr _ _ _ _=>kF9)
 all_goals (rename News _ _ _ _=>kN9)
 have e9:pair1 n=(⟨#[(([172,174,846,848,6149,6151,6154,8206,8289,65023,65040,65278,65280]:List Int).getD ((n.fdiv 12).fmod 13).toNat 0).toNat]⟩,⟨#[(([172,174,846,848,6149,6151,6154,8206,8289,65023,65040,65278,65280]:List Int).getD ((n.fdiv 12).fmod 13).toNat 0).toNat]⟩):=by
  unfold pair1;rw [if_neg (by assumption)];rfl
 rw [e9] at hret
 have k1:=news_skip1 kN9
 have k2:=news_skip1 k1
 clear kN9 k1;exact hret _ _ _ _ _ kF9 k2
theorem pair_1 (h1:0 <= n) (h2:n <= 10000) (hret:∀ (T:Addr) (ta tb:Tok) (h':Heap) (tk':Nat),Fr h₀ L h' m -> News h₀ L h' ((T,tup2 (.str (pair1 n).1 ta) (.str (pair1 n).2 tb))::news) -> Q (.ref T) { s with heap:=h',toks:=tk' }) :
  wpAny (model rw_rw0127_01.row.prog w) (ktrTop dp un gd cn cs₀ L a ccd cl outer) (call (.ref 326) [.int 1 t1,.int n t2]) Q E s:=by
 by_cases h9:n.fmod 12 < 11
 ·exact pair_1a B F X T hk hd hu N h9 h1 h2 hret
 ·exact pair_1b B F X T hk hd hu N h9 h1 h2 hret
theorem reg31:True:=by
 w_top off
 k_with "spliced"=>(k_extra "d";k_here;with_reducible show wpAny _ _ (spliced (backTo _ (starEach (Expr.Tuple _ _ _::_) _))) _ _ _;with_reducible refine Halt.go ?_)
 trivial
omit B F X T hk hd hu N in
noncomputable def S_pair_2 :Prop:=∀ (B:Below A₀ base outer h₀) (F:Fr h₀ L s.heap m) (X:(KK w.params).In h₀) (T:Top p loose mean mg mb h₀) (hk:cs₀.kind=.function) (hd:dp+40 < recursionLimit) (hu:un+250 < cLine) (N:News h₀ L s.heap news) (h1:0 <= n) (h2:n <= 10000) (hret:∀ (T:Addr) (ta tb:Tok) (h':Heap) (tk':Nat),Fr h₀ L h' m -> News h₀ L h' ((T,tup2 (.str (pair2 n).1 ta) (.str (pair2 n).2 tb))::news) -> Q (.ref T) { s with heap:=h',toks:=tk' }),wpAny (model rw_rw0127_01.row.prog w) (ktrTop dp un gd cn cs₀ L a ccd cl outer) (call (.ref 326) [.int 2 t1,.int n t2]) Q E s
namespace e_pair_2
omit B F X T hk hd hu N in
noncomputable abbrev Sd:=fun z:((((_×_×_)×_×_×_)×(_×_×_)×(_×_)×_×_)×((_×_×_)×(_×_)×_×_)×(_×_×_)×(_×_)×_×_)=>@S_pair_2 z.1.1.1.1 z.1.1.1.2.1 z.1.1.1.2.2 z.1.1.2.1 z.1.1.2.2.1 z.1.1.2.2.2 z.1.2.1.1 z.1.2.1.2.1 z.1.2.1.2.2 z.1.2.2.1.1 z.1.2.2.1.2 z.1.2.2.2.1 z.1.2.2.2.2 z.2.1.1.1 z.2.1.1.2.1 z.2.1.1.2.2 z.2.1.2.1.1 z.2.1.2.1.2 z.2.1.2.2.1 z.2.1.2.2.2 z.2.2.1.1 z.2.2.1.2.1 z.2.2.1.2.2 z.2.2.2.1.1 z.2.2.2.1.2 z.2.2.2.2.1 z.2.2.2.2.2
omit B F X T hk hd hu N in
@[irreducible] def κ:=pick (by k_extra "ne") Sd
def n_:=κ.2.2.2.1.2
omit B F X T hk hd hu N in
noncomputable abbrev Sc:=@S_pair_2 κ.1.1.1.1 κ.1.1.1.2.1 κ.1.1.1.2.2 κ.1.1.2.1 κ.1.1.2.2.1 κ.1.1.2.2.2 κ.1.2.1.1 κ.1.2.1.2.1 κ.1.2.1.2.2 κ.1.2.2.1.1 κ.1.2.2.1.2 κ.1.2.2.2.1 κ.1.2.2.2.2 κ.2.1.1.1 κ.2.1.1.2.1 κ.2.1.1.2.2 κ.2.1.2.1.1 κ.2.1.2.1.2 κ.2.1.2.2.1 κ.2.1.2.2.2 κ.2.2.1.1 κ.2.2.1.2.1 κ.2.2.1.2.2 κ.2.2.2.1.1 n_ κ.2.2.2.2.1 κ.2.2.2.2.2
omit B F X T hk hd hu N in
noncomputable def seg:PSigma fun P:Heap -> Addr -> Heap -> Prop=>(∀ g L h,P g L h) -> Sc:=⟨_,by
 intro hP;unfold Sc S_pair_2
 intro B F X T hk hd hu N h1 h2 hret;revert X;k_fill;intro X;refine wpAny_call ?_;(k_extra "eD";intro g' L' h' FG' F' N' B' X' T';revert B F T hk hd hu N h1 h2 hret X FG' F' N' B' X' T';exact hP g' L' h')⟩
omit B F X T hk hd hu N in
@[irreducible] def σ:=pick (inferInstance:Nonempty (Heap×Addr×Heap)) fun d=>seg.1 d.1 d.2.1 d.2.2
omit B F X T hk hd hu N in
theorem body:seg.1 σ.1 σ.2.1 σ.2.2:=by
 intro B F T hk hd hu N h1 h2 hret X FG' F' N' B' X' T';(k_extra "tl")
 have c1:0 <= n_.fmod 12:=Int.fmod_nonneg_of_pos _ (by decide)
 have c2:n_.fmod 12 < 12:=Int.fmod_lt_of_pos _ (by decide)
 k_steps;refine unhalt ?_;(rename Fr _ _ _ _=>lF');(rename News _ _ _ _=>lN');(with_reducible refine' argsP (ps:=severalL) ?hp lF' lN' ?_)
 case hp=>exact prs_of (by repeat constructor) (by kernel_rfl)
 intro Ts nw h5 tk5 hT hp hs F5 N5;clear lF' lN';try dsimp only
 k_dflt (refine newList_K F5 N5 (fun l h6 F6 N6 hl=>?_) (by rw [List.length_map,hT,sizeLine_eq];exact Nat.le_of_ble_eq_true rfl))
 clear F5 N5;try dsimp only
 k_steps;(rename Fr _ _ _ _=>lF');(rename News _ _ _ _=>lN');k_dflt (refine' item_pick (fun nw v=>∃ T ta tb,v=.ref T /\ (T,tup2 (.str (pair2 n_).1 ta) (.str (pair2 n_).2 tb))∈nw) lN' ?hm c1 ?hk ?hP ?_;(case hm=>k_mem);(case hk=>omega))
 case hP =>
  have hlt:(n_.fmod 12).toNat < severalL.length:=tnlt (k:=12) c1 c2
  obtain ⟨T,ta,tb,e1,e2⟩:=hp (n_.fmod 12).toNat (pair2 n_).1 (pair2 n_).2 (by unfold pair2;rw [List.getD_eq_getElem?_getD,List.getElem?_eq_getElem hlt];rfl)
  refine ⟨.ref T,?_,T,ta,tb,rfl,.tail _ e2⟩
  rw [List.getElem?_toArray,List.getElem?_map,e1];rfl
 rintro v ⟨T9,ta,tb,rfl,hm9⟩
 k_steps;(rename Fr _ _ _ _=>kF9);(rename News _ _ _ _=>kN9);exact hret _ _ _ _ _ kF9 (fc (kN9 _ hm9) fun q e=>kN9 _ (.tail _ (hs _ e)))
omit B F X T hk hd hu N in
theorem core:Sc:=seg.2 fun g L h=>pick_all (P:=fun d:Heap×Addr×Heap=>seg.1 d.1 d.2.1 d.2.2) (by with_unfolding_all exact body) (g,L,h)
end e_pair_2
omit B F X T hk hd hu N in
theorem pair_2 :@S_pair_2 w mean mg mb p loose dp un gd cn cs₀ a ccd cl outer A₀ base h₀ L m s Q E news n t1 t2:=@pick_all _ _ e_pair_2.Sd (by with_unfolding_all exact e_pair_2.core) ((((_,_,_),_,_,_),(_,_,_),(_,_),_,_),((_,_,_),(_,_),_,_),(_,_,_),(_,_),_,_)
omit B F X T hk hd hu N in
noncomputable def S_pair_3 :Prop:=∀ (B:Below A₀ base outer h₀) (F:Fr h₀ L s.heap m) (X:(KK w.params).In h₀) (T:Top p loose mean mg mb h₀) (hk:cs₀.kind=.function) (hd:dp+40 < recursionLimit) (hu:un+250 < cLine) (N:News h₀ L s.heap news) (h1:0 <= n) (h2:n <= 10000) (hret:∀ (T:Addr) (ta tb:Tok) (h':Heap) (tk':Nat),Fr h₀ L h' m -> News h₀ L h' ((T,tup2 (.str (pair3 n).1 ta) (.str (pair3 n).2 tb))::news) -> Q (.ref T) { s with heap:=h',toks:=tk' }),wpAny (model rw_rw0127_01.row.prog w) (ktrTop dp un gd cn cs₀ L a ccd cl outer) (call (.ref 326) [.int 3 t1,.int n t2]) Q E s
namespace e_pair_3
omit B F X T hk hd hu N in
noncomputable abbrev Sd:=fun z:((((_×_×_)×_×_×_)×(_×_×_)×(_×_)×_×_)×((_×_×_)×(_×_)×_×_)×(_×_×_)×(_×_)×_×_)=>@S_pair_3 z.1.1.1.1 z.1.1.1.2.1 z.1.1.1.2.2 z.1.1.2.1 z.1.1.2.2.1 z.1.1.2.2.2 z.1.2.1.1 z.1.2.1.2.1 z.1.2.1.2.2 z.1.2.2.1.1 z.1.2.2.1.2 z.1.2.2.2.1 z.1.2.2.2.2 z.2.1.1.1 z.2.1.1.2.1 z.2.1.1.2.2 z.2.1.2.1.1 z.2.1.2.1.2 z.2.1.2.2.1 z.2.1.2.2.2 z.2.2.1.1 z.2.2.1.2.1 z.2.2.1.2.2 z.2.2.2.1.1 z.2.2.2.1.2 z.2.2.2.2.1 z.2.2.2.2.2
omit B F X T hk hd hu N in
@[irreducible] def κ:=pick (by k_extra "ne") Sd
def n_:=κ.2.2.2.1.2
omit B F X T hk hd hu N in
noncomputable abbrev Sc:=@S_pair_3 κ.1.1.1.1 κ.1.1.1.2.1 κ.1.1.1.2.2 κ.1.1.2.1 κ.1.1.2.2.1 κ.1.1.2.2.2 κ.1.2.1.1 κ.1.2.1.2.1 κ.1.2.1.2.2 κ.1.2.2.1.1 κ.1.2.2.1.2 κ.1.2.2.2.1 κ.1.2.2.2.2 κ.2.1.1.1 κ.2.1.1.2.1 κ.2.1.1.2.2 κ.2.1.2.1.1 κ.2.1.2.1.2 κ.2.1.2.2.1 κ.2.1.2.2.2 κ.2.2.1.1 κ.2.2.1.2.1 κ.2.2.1.2.2 κ.2.2.2.1.1 n_ κ.2.2.2.2.1 κ.2.2.2.2.2
omit B F X T hk hd hu N in
noncomputable def seg:PSigma fun P:Heap -> Addr -> Heap -> Prop=>(∀ g L h,P g L h) -> Sc:=⟨_,by
 intro hP;unfold Sc S_pair_3
 intro B F X T hk hd hu N h1 h2 hret;revert X;k_fill;intro X;refine wpAny_call ?_;(k_extra "eD";intro g' L' h' FG' F' N' B' X' T';revert B F T hk hd hu N h1 h2 hret X FG' F' N' B' X' T';exact hP g' L' h')⟩
omit B F X T hk hd hu N in
@[irreducible] def σ:=pick (inferInstance:Nonempty (Heap×Addr×Heap)) fun d=>seg.1 d.1 d.2.1 d.2.2
omit B F X T hk hd hu N in
theorem body:seg.1 σ.1 σ.2.1 σ.2.2:=by
 intro B F T hk hd hu N h1 h2 hret X FG' F' N' B' X' T';(k_extra "tl")
 have c1:0 <= n_.fmod 27:=Int.fmod_nonneg_of_pos _ (by decide)
 have c2:n_.fmod 27 < 27:=Int.fmod_lt_of_pos _ (by decide)
 obtain ⟨d1,d3⟩:=getD_rng [173,847,6150,6155,6156,6157,8203,8204,8205,8288,65279] (by decide) (n_.fmod 27).toNat
 k_steps;all_goals (rename Fr _ _ _ _=>kF9)
 all_goals (rename News _ _ _ _=>kN9)
 ·have e9:pair3 n_=(⟨#[(([173,847,6150,6155,6156,6157,8203,8204,8205,8288,65279]:List Int).getD (n_.fmod 27).toNat 0).toNat]⟩,("":Str)):=by
   unfold pair3;rw [if_pos (by assumption)];rfl
  rw [e9] at hret
  exact hret _ _ _ _ _ kF9 (news_skip1 kN9)
 ·have e9:pair3 n_=(⟨#[(65013+n_.fmod 27).toNat]⟩,("":Str)):=by
   unfold pair3;rw [if_neg (by assumption)];rfl
  rw [e9] at hret
  exact hret _ _ _ _ _ kF9 (news_skip1 kN9)
omit B F X T hk hd hu N in
theorem core:Sc:=seg.2 fun g L h=>pick_all (P:=fun d:Heap×Addr×Heap=>seg.1 d.1 d.2.1 d.2.2) (by with_unfolding_all exact body) (g,L,h)
end e_pair_3
omit B F X T hk hd hu N in
theorem pair_3 :@S_pair_3 w mean mg mb p loose dp un gd cn cs₀ a ccd cl outer A₀ base h₀ L m s Q E news n t1 t2:=@pick_all _ _ e_pair_3.Sd (by with_unfolding_all exact e_pair_3.core) ((((_,_,_),_,_,_),(_,_,_),(_,_),_,_),((_,_,_),(_,_),_,_),(_,_,_),(_,_),_,_)
theorem pair_0 (hret:∀ (T:Addr) (ta tb:Tok) (h':Heap) (tk':Nat),Fr h₀ L h' m -> News h₀ L h' ((T,tup2 (.str ("":Str) ta) (.str ("":Str) tb))::news) -> Q (.ref T) { s with heap:=h',toks:=tk' }) :
  wpAny (model rw_rw0127_01.row.prog w) (ktrTop dp un gd cn cs₀ L a ccd cl outer) (call (.ref 326) [.int 0 t1,.int n t2]) Q E s:=by
 revert X;k_fill;intro X;refine wpAny_call ?_;(k_extra "eD";intro g' L' h' FG' F' N' B' X' T';k_extra "tl")
 k_steps;(rename Fr _ _ _ _=>kF9);(rename News _ _ _ _=>kN9);exact hret _ _ _ _ _ kF9 kN9
end
end
theorem reg32:True:=by
 w_top off
 k_with "D"=>skip
 k_with "e"=>fail_if_success k_extra "E"
 k_with "ite"=>(k_extra "e";k_here;with_reducible first | refine ite_p (by with_unfolding_all rfl) ?_ | refine ite_n (by with_unfolding_all exact Bool.false_ne_true) ?_)
 k_with "exec If"=>(k_extra "e";k_here;k_dflt (refine wpAny_If ?_))
 k_with "eval ListComp"=>(k_extra "e";k_here;(with_reducible show wpAny _ _ (eval (Expr.ListComp _ [⟨_,_,[],_⟩] _ _) _) _ _ _);k_dflt (refine LC_text (F₀:=by k_asm) (by with_unfolding_all rfl) (by decide) (by rfl) (by decide) (by rfl) ?_))
 k_with "eval ListComp"=>(k_extra "e";k_here;(with_reducible show wpAny _ _ (eval (Expr.ListComp _ [⟨_,_,[_],_⟩] _ _) _) _ _ _);k_dflt (refine LC_textT (F₀:=by k_asm) (by with_unfolding_all rfl) (by decide) (by rfl) (by decide) (by rfl) ?_))
 k_with "exec For"=>(k_extra "e";k_extra "hg")
 k_with "exec For Name Call cons nil"=>(k_extra "e";k_extra "hg")
 k_with "exec For Name Name cons nil"=>(k_extra "e";k_extra "hg")
 k_with "exec For Name Attribute cons nil"=>(k_extra "e";k_extra "hg")
 k_with "eval IfExp"=>(k_extra "e";k_extra "hg")
 k_with "call builtin:len"=>(k_extra "e";k_here;k_dflt (refine' len_strsV (by k_asm) ?hm ?hl ?_;(case hm=>k_mem);(case hl=>omega)))
 k_with "subscriptTail"=>(k_extra "e";k_here;(with_reducible show wpAny _ _ (subscriptTail _ _ (Value.ref _) (Value.int _ _)) _ _ _);k_dflt (refine' item_str (by k_asm) ?hm ?e ?hk ?hl ?_;(case hm=>k_mem);(case e=>exact rfl);(case hk=>omega);(case hl=>omega));intro t'z)
 k_with "call builtin:len"=>(k_extra "e";k_here;k_dflt (refine' len_strT ?hz ?_;(case hz=>omega)))
 k_with "binaryOp Add str str"=>(k_extra "e";k_here;k_dflt (refine PyProof.Rows.add_str (hsz:=add_small (by first | assumption | (show Array.size _ <= _;omega)) (by first | assumption | decide | (show Array.size _ <= _;omega))) ?_);intro t'z tk'z)
 k_with "call builtin:list.append"=>(k_extra "e";k_here;k_dflt (refine' lst_append ?F ?N ?U ?z ?_;(case F=>k_asm);(case N=>k_asm);(case U=>k_updF);(case z=>first | assumption | omega);k_whole);intro h'z F'z N'z;(try dsimp only at N'z);(try k_sweep);(try dsimp only))
 trivial
section
noncomputable def cellT (c:Nat):Str:=(" ":Str) ++ one c
noncomputable def cellsOf (ls:List Str) (k:Nat):Str:=if k+1 < ls.length then ls.getD k "" ++ (";":Str) else ls.getD k ""
noncomputable def rowOf (cells:Str) (t i:Nat):Str:=Txt.join ("":Str) ((((cells.cps.toList.drop (i * t)).take t).filter (fun c=>c != 124)).map cellT)
noncomputable def rowsOf (cells:Str) (t:Nat):List Str:=(List.range ((cells.cps.size+t - 1) / t)).map (rowOf cells t)
noncomputable def rowsAll (ls:List Str) (t k:Nat):List Str:=((List.range k).map fun j=>rowsOf (cellsOf ls j) t).flatten
noncomputable def cutS (ls:List Str) (t:Nat):Str:=Txt.join ("\n":Str) (rowsAll ls t ls.length)
theorem rowsAll_succ (ls:List Str) (t k:Nat):rowsAll ls t (k+1)=rowsAll ls t k ++ rowsOf (cellsOf ls k) t:=by
 unfold rowsAll
 rw [List.range_succ,List.map_append,List.flatten_append]
 simp
theorem rowsOf_length (c:Str) (t:Nat):(rowsOf c t).length=(c.cps.size+t - 1) / t:=by simp [rowsOf]
theorem range_up {n t:Nat} (ht:1 <= t):Builtin.Range.rangeSize 0 (n:Int) (t:Int)=(((n+t - 1) / t:Nat):Int):=by
 rw [rangeSize_pos (Int.natCast_pos.mpr ht) (Int.natCast_nonneg n),<- Int.natCast_add,pred1 (Nat.le_trans ht (Nat.le_add_left _ _))]
 rfl
theorem small_up {n t:Nat} (hn:n <= 100000) (ht:1 <= t) (h2:t <= 100000):Builtin.Range.small 0 (n:Int) (t:Int)=true:=by
 have hq:(n+t - 1) / t <= 1000000:=Nat.le_trans (Nat.div_le_self _ _) (Nat.le_trans (Nat.sub_le _ _) (Nat.le_trans (Nat.add_le_add hn h2) (by decide)))
 unfold Builtin.Range.small
 rw [range_up ht]
 simp only [Builtin.Range.rangeFitsLong,Bool.and_eq_true,Bool.or_eq_true,decide_eq_true_eq,beq_iff_eq,if_pos (show (t:Int) > 0 from Int.natCast_pos.mpr ht)]
 have ft:=pred1 ht
 have fr:=fitN (n:=n+(t - 1)) (Nat.le_trans (Nat.add_le_add hn (Nat.le_trans (Nat.sub_le _ _) h2)) (by decide))
 rw [Int.natCast_add,<- ft] at fr
 exact ⟨⟨⟨⟨by decide,fitN (Nat.le_trans hn (by decide))⟩,fitN (Nat.le_trans h2 (by decide))⟩,fitN hq⟩,.inr fr⟩
theorem sum_twos {α:Type} (f:α -> Str) (h:∀ a,(f a).length=2):∀ l:List α,((l.map f).map (·.length)).sum=2 * l.length
 | []=>rfl
 | a::l=>by rw [List.map_cons,List.map_cons,List.sum_cons,h,sum_twos f h l,List.length_cons];omega
theorem cellT_len (c:Nat):(cellT c).length=2:=rfl
section
variable
 {news:List (Addr×Obj)} {ps:Addr} {l:List (Str×Tok)} {t:Nat} {t1:Tok} {nl:Nat}
variable (B:Below A₀ base outer h₀) (F:Fr h₀ L s.heap m) (X:(KK w.params).In h₀) (T:Top p loose mean mg mb h₀) (hk:cs₀.kind=.function) (hd:dp+40 < recursionLimit) (hu:un+250 < cLine)
 (N:News h₀ L s.heap news)
noncomputable def S_law_cut :Prop:=∀ (B:Below A₀ base outer h₀) (F:Fr h₀ L s.heap m) (X:(KK w.params).In h₀) (T:Top p loose mean mg mb h₀) (hk:cs₀.kind=.function) (hd:dp+40 < recursionLimit) (hu:un+250 < cLine) (N:News h₀ L s.heap news) (hp:(ps,W.listOf (strValues l).toArray nl)∈news) (h1:1 <= t) (h2:t <= 1000) (hl:l.length <= 300) (hb:∀ k,(rowsAll (l.map (·.1)) t k).length <= 900) (hc:∀ k,((l.map (·.1):List Str).getD k "").cps.size <= 900) (hw:((rowsAll (l.map (·.1)) t l.length).map (·.length)).sum+(rowsAll (l.map (·.1)) t l.length).length <= 1048576) (hret:∀ (t':Tok) (h':Heap) (tk':Nat),Fr h₀ L h' m -> News h₀ L h' news -> Q (.str (cutS (l.map (·.1)) t) t') { s with heap:=h',toks:=tk' }),wpAny (model rw_rw0127_01.row.prog w) (ktrTop dp un gd cn cs₀ L a ccd cl outer) (call (.ref 348) [.ref ps,.int (t:Nat) t1]) Q E s
namespace e_law_cut
noncomputable abbrev Sd:=fun z:((((_×_×_)×(_×_)×_×_)×(_×_×_)×(_×_)×_×_)×((_×_×_)×(_×_)×_×_)×((_×_)×_×_)×(_×_)×_×_)=>@S_law_cut z.1.1.1.1 z.1.1.1.2.1 z.1.1.1.2.2 z.1.1.2.1.1 z.1.1.2.1.2 z.1.1.2.2.1 z.1.1.2.2.2 z.1.2.1.1 z.1.2.1.2.1 z.1.2.1.2.2 z.1.2.2.1.1 z.1.2.2.1.2 z.1.2.2.2.1 z.1.2.2.2.2 z.2.1.1.1 z.2.1.1.2.1 z.2.1.1.2.2 z.2.1.2.1.1 z.2.1.2.1.2 z.2.1.2.2.1 z.2.1.2.2.2 z.2.2.1.1.1 z.2.2.1.1.2 z.2.2.1.2.1 z.2.2.1.2.2 z.2.2.2.1.1 z.2.2.2.1.2 z.2.2.2.2.1 z.2.2.2.2.2
@[irreducible] def κ:=pick (by k_extra "ne") Sd
def l_:=κ.2.2.2.1.1
def t_:=κ.2.2.2.1.2
def nl_:=κ.2.2.2.2.2
noncomputable abbrev Sc:=@S_law_cut κ.1.1.1.1 κ.1.1.1.2.1 κ.1.1.1.2.2 κ.1.1.2.1.1 κ.1.1.2.1.2 κ.1.1.2.2.1 κ.1.1.2.2.2 κ.1.2.1.1 κ.1.2.1.2.1 κ.1.2.1.2.2 κ.1.2.2.1.1 κ.1.2.2.1.2 κ.1.2.2.2.1 κ.1.2.2.2.2 κ.2.1.1.1 κ.2.1.1.2.1 κ.2.1.1.2.2 κ.2.1.2.1.1 κ.2.1.2.1.2 κ.2.1.2.2.1 κ.2.1.2.2.2 κ.2.2.1.1.1 κ.2.2.1.1.2 κ.2.2.1.2.1 κ.2.2.1.2.2 l_ t_ κ.2.2.2.2.1 nl_
omit B F X T hk hd hu N in
noncomputable def seg:PSigma fun P:Heap -> Addr -> Heap -> Prop=>(∀ g L h,P g L h) -> Sc:=⟨_,by
 intro hP;unfold Sc S_law_cut
 intro B F X T hk hd hu N hp h1 h2 hl hb hc hw hret;revert X;k_fill;intro X;refine wpAny_call ?_;(k_extra "eD";intro g' L' h' FG' F' N' B' X' T';revert B F T hk hd hu N hp h1 h2 hl hb hc hw hret X FG' F' N' B' X' T';exact hP g' L' h')⟩
@[irreducible] def σ:=pick (inferInstance:Nonempty (Heap×Addr×Heap)) fun d=>seg.1 d.1 d.2.1 d.2.2
omit B F X T hk hd hu N in
noncomputable def seg_A:PSigma fun P:Addr -> Heap -> Heap -> Nat -> Heap -> Nat -> Tok -> Tok -> Tok -> Nat -> Tok -> (Str -> Option Value) -> Heap -> Nat -> (List (Addr×Obj)) -> Addr -> Nat -> (List (Str×Tok)) -> (Str -> Option Value) -> Prop=>(∀ a b c d e f g h i j k l m n o p q r s,P a b c d e f g h i j k l m n o p q r s) -> seg.1 σ.1 σ.2.1 σ.2.2:=⟨_,by
 intro hP;intro B F T hk hd hu N hp h1 h2 hl hb hc hw hret X FG' F' N' B' X' T';(k_extra "tl")
 k_steps;refine unhalt ?_;k_dflt (refine' For_G σ.1 ?k1 ?k2 ?_;(case k1=>exact rfl);(case k2=>exact rfl))
 k_steps;(rename Fr _ _ _ _=>lF');(rename News _ _ _ _=>lN');(rename IsRange _ _ _ _ _ _ _ _=>lR');rename ∀ p:Addr×Obj,p∈κ.2.2.1.2.1 -> p.1 < _=>l9
 k_dflt (refine' rangeG (n:=l_.length) rfl lR' ?sm ?sz lF' lN' (GrowJ κ.2.1.2.2.2.gens ["k","cells","i"] _ κ.2.2.1.2.1 _ (StrsR (rowsAll (l_.map (·.1)) t_))) ⟨rfl,Ov.refl,[],0,rfl,StrsR.zero rfl⟩ (fun i u m₁ news₁ h tk g own it hi hJ hoff hown F' N'=>?_) (fun h' tk' g'' m' news' F' N' hJ=>?_))
 case sm=>exact small_one (by omega) (by omega) (by omega) (by omega)
 case sz=>rw [rangeSize_nat];omega
 ·k_fold
  obtain ⟨rfl,hov,vs,n,rfl,rl,rfl,hrl⟩:=hJ
  obtain ⟨gm,F''⟩:=fr_form hov F'
  simp only [ovF_n,ovF_c] at F''
  rw [show (0:Int)+(i:Int) * 1=(i:Nat) by omega] at F''
  have hci:=hc i
  have hcz:(cellsOf (l_.map (·.1)) i).cps.size <= 1000:=by
   unfold cellsOf
   split
   ·show (((l_.map (fun x:Str×Tok=>x.1)).getD i ("":Str)).cps ++ #[59]).size <= 1000
    rw [Array.size_append]
    have:#[(59:Nat)].size=1:=rfl
    omega
   ·omega
  clear F' lF' lN' lR' hov;have N'':=news_swap N'
  clear N';have hne:∀ p∈own ++ κ.2.2.1.2.1,p.1≠_:=fun p hp=>by
   rcases List.mem_append.mp hp with h | h
   ·rw [hown p h];exact fun e=>hoff _ List.mem_cons_self e.symm
   ·exact Nat.ne_of_lt (l9 p h)
  have hmp:(κ.2.2.1.2.2,W.listOf (strValues l_).toArray nl_)∈own ++ κ.2.2.1.2.1:=List.mem_append_right _ hp
  rename_i x20_A x21_A x22_A x23_A x25_A x26_A x27_A x28_A x29_A x30_A x31_A x32_A x33_A x34_A;revert B F T hk hd hu N hp h1 h2 hl hb hc hw hret X FG' B' X' T' x20_A x21_A l9 x26_A x27_A x34_A hi hown ek qk hrl hoff F'' hci hcz N'' hne hmp
  exact hP x22_A x23_A x25_A x28_A x29_A x30_A x31_A x32_A x33_A i u m₁ h tk own it n rl gm
 ·obtain ⟨rfl,hov,vs,n,rfl,rl,rfl,hrl⟩:=hJ
  obtain ⟨gm,F2⟩:=fr_form0 hov F'
  simp only [ovF_n,ovF_c] at F2
  clear F' lF' lN' lR' hov;k_steps;(rename Fr _ _ _ _=>lF');(rename News _ _ _ _=>lN');k_dflt (refine' join_listW (ys:=rowsAll (l_.map (·.1)) t_ l_.length) (items:=(strValues rl).toArray) ⟨_,News.get lN' (by k_mem),rfl,_,rfl⟩ ?hi ?hs ?hz (fun t' k'=>?_);(case hi=>rw [<- hrl];simpa using strsAre_of_values rl);(case hs=>decide +kernel);(case hz=>exact hw))
  have ect:cutS (l_.map (·.1)) t_=Txt.join ("\n":Str) (rowsAll (l_.map (·.1)) t_ l_.length):=by unfold cutS;rw [List.length_map]
  rw [ect] at hret
  k_steps;(rename News _ _ _ _=>kN9);exact hret _ _ _ (by assumption) (fun p hp=>kN9 p (List.mem_cons_of_mem _ hp))⟩
noncomputable abbrev SA:=fun z:((((Addr×Heap)×Heap×Nat)×(Heap×Nat)×Tok×Tok×Tok)×((Nat×Tok)×(Str -> Option Value)×Heap×Nat)×((List (Addr×Obj))×Addr)×Nat×(List (Str×Tok))×(Str -> Option Value))=>seg_A.1 z.1.1.1.1 z.1.1.1.2 z.1.1.2.1 z.1.1.2.2 z.1.2.1.1 z.1.2.1.2 z.1.2.2.1 z.1.2.2.2.1 z.1.2.2.2.2 z.2.1.1.1 z.2.1.1.2 z.2.1.2.1 z.2.1.2.2.1 z.2.1.2.2.2 z.2.2.1.1 z.2.2.1.2 z.2.2.2.1 z.2.2.2.2.1 z.2.2.2.2.2
@[irreducible] def σA:=pick (by k_extra "ne") SA
def i_A:=σA.2.1.1.1
def u_A:=σA.2.1.1.2
def m₁_A:=σA.2.1.2.1
def h_A:=σA.2.1.2.2.1
def tk_A:=σA.2.1.2.2.2
theorem body_A:seg_A.1 σA.1.1.1.1 σA.1.1.1.2 σA.1.1.2.1 σA.1.1.2.2 σA.1.2.1.1 σA.1.2.1.2 σA.1.2.2.1 σA.1.2.2.2.1 σA.1.2.2.2.2 i_A u_A m₁_A h_A tk_A σA.2.2.1.1 σA.2.2.1.2 σA.2.2.2.1 σA.2.2.2.2.1 σA.2.2.2.2.2:=by
  intro B F T hk hd hu N hp h1 h2 hl hb hc hw hret X FG' B' X' T' x20_A x21_A l9 x26_A x27_A x34_A hi hown ek qk hrl hoff F'' hci hcz N'' hne hmp;k_steps;refine unhalt ?_;k_dflt (refine join_str (cellsOf (l_.map (·.1)) i_A) ?_ (fun u' tk'=>?_))
  ·k_dflt (refine wpAny_IfExp ?_)
   k_steps
   ·(rename (_:Int)+1 < _=>e9)
    exact ⟨_,_,by unfold cellsOf;rw [if_pos (by rw [List.length_map];omega)],rfl⟩
   ·(rename ¬ _=>e9)
    exact ⟨_,_,by unfold cellsOf;rw [if_neg (by rw [List.length_map];omega)],rfl⟩
  ·k_steps
   refine unhalt ?_;k_dflt (refine' For_G σ.1 ?k1 ?k2 ?_;(case k1=>exact rfl);(case k2=>exact rfl))
   k_steps;(rename Fr _ _ _ _=>lF');(rename News _ _ _ _=>lN');(rename IsRange _ _ _ _ _ _ _ _=>lR');k_dflt (refine' rangeG (n:=((cellsOf (l_.map (·.1)) i_A).cps.size+t_ - 1) / t_) rfl lR' ?sm ?sz lF' lN' (GrowJ κ.2.1.2.2.2.gens ["i"] _ (σA.2.2.1.1 ++ κ.2.2.1.2.1) _ (StrsR (fun j=>rowsAll (l_.map (·.1)) t_ i_A ++ (List.range j).map (rowOf (cellsOf (l_.map (·.1)) i_A) t_)))) ⟨rfl,Ov.refl,_,_,rfl,σA.2.2.2.2.1,rfl,by rw [hrl];simp⟩ (fun j u_A m₁_A news₁ h_A tk_A g own2 it2 hj hJ hoff2 hown2 F' N'=>?_) (fun h' tk' g'' m' news' F' N' hJ=>?_))
   case sm=>exact small_up (by omega) h1 (by omega)
   case sz=>exact range_up h1
   ·k_fold
    obtain ⟨rfl,hov2,vs2,n2,rfl,rl2,rfl,hrl2⟩:=hJ
    obtain ⟨gm2,F2⟩:=fr_form hov2 F'
    simp only [ovF_n,ovF_c] at F2
    rw [show (0:Int)+(j:Int) * (t_:Int)=((j * t_:Nat):Int) by push_cast;omega] at F2
    clear F' lF' lN' lR' hov2;have N2:=news_swap N'
    clear N';have hne2:∀ p∈own2 ++ (σA.2.2.1.1 ++ κ.2.2.1.2.1),p.1≠_:=fun p hp=>by
     rcases List.mem_append.mp hp with h_A | h_A
     ·rw [hown2 p h_A];exact fun e=>hoff2 _ List.mem_cons_self e.symm
     ·exact hne p h_A
    have hjt:j * t_ <= (cellsOf (l_.map (·.1)) i_A).cps.size:=by
     have h3:j+1 <= ((cellsOf (l_.map (·.1)) i_A).cps.size+t_ - 1) / t_:=hj
     have h4:=Nat.mul_le_of_le_div _ _ _ h3
     rw [Nat.add_mul,Nat.one_mul] at h4
     omega
    have hrow:((((cellsOf (l_.map (·.1)) i_A).cps.toList.drop (j * t_)).take t_).filter (fun c=>c != 124)).length <= 1000 :=
     Nat.le_trans (List.length_filter_le _ _) (Nat.le_trans (List.length_take_le _ _) h2)
    have hrl3:rl2.length <= 1000:=by
     have e1:=congrArg List.length hrl2
     have e2:=hb (i_A+1)
     rw [rowsAll_succ,List.length_append,rowsOf_length] at e2
     rw [List.length_map,List.length_append,List.length_map,List.length_range] at e1
     omega
    k_steps;(rename Fr _ _ _ _=>lF');(rename News _ _ _ _=>lN');have esl:=slice_cut (t:=t_) hjt
    k_dflt (refine' TSrcT.intro rfl lF' lN' ?z (fun g=>restT_pure (l:=((cellsOf (l_.map (·.1)) i_A).cps.toList.drop (j * t_)).take t_) IsSign (IsText cellT) (fun c=>c != 124) ?ln ?sg ?turn ?fin))
    case z=>exact Nat.le_trans (PyProof.Txt.length_slice_le _ _ _) (by rw [sizeLine_eq];show Array.size _ <= _;omega)
    case ln=>rw [<- esl,Array.length_toList]
    case sg=>rw [<- esl];exact signs_of
    case turn =>
     rintro c v I oI C oC D m₂ ys h_A tk_A E' hc ⟨u_A,rfl⟩ hC hx F' N' off ne
     (try clear lF');(try clear lN')
     k_steps
     ·(rename (_ != _)=true=>e9)
      exact (ce_mk (by assumption) (by assumption) off trivial ⟨(one_bne c 124).symm.trans e9,rfl,_,rfl⟩)
     ·(rename (_ != _)=false=>e9)
      exact (ce_mk (by assumption) (by assumption) off trivial ⟨(one_bne c 124).symm.trans e9,rfl⟩)
    case fin =>
     intro ys hp;have hs:=strs_paired hp
     (try clear lF');(try clear lN')
     k_steps;(rename Fr _ _ _ _=>lF');(rename News _ _ _ _=>lN');k_dflt (refine' join_listW (ys:=((((cellsOf (l_.map (·.1)) i_A).cps.toList.drop (j * t_)).take t_).filter (fun c=>c != 124)).map cellT) (items:=ys.toArray) ⟨_,News.get lN' (by k_mem),rfl,_,rfl⟩ ?hi ?hs ?hz (fun t' k'=>?_);(case hi=>simpa using hs);(case hs=>decide +kernel);(case hz=>rw [sum_twos _ cellT_len,List.length_map];omega))
     k_steps;dsimp only [StepG]
     (try clear lN')
     (rename News _ _ _ _=>lN');have N9:=news_back (fun p hp=>lN' p (List.mem_cons_of_mem _ hp))
     exact ⟨_,_,_,_,_,rfl,by assumption,N9,fun p hp hq=>by
      rcases List.mem_cons.mp hp with h_A | h_A
      ·rw [h_A] at hq;exact hoff2 _ List.mem_cons_self (List.mem_singleton.mp hq)
      ·exact hoff2 _ (List.mem_cons_of_mem _ h_A) (List.mem_singleton.mp hq),rfl,ov_self.set (by decide +kernel),_,_,rfl,_,rfl,by rw [List.map_append,hrl2];dsimp only;rw [List.range_succ,List.map_append,<- List.append_assoc];rfl⟩
   ·obtain ⟨rfl,hov2,vs2,n2,rfl,rl2,rfl,hrl2⟩:=hJ
    obtain ⟨gm2,F2⟩:=fr_form0 hov2 F'
    simp only [ovF_n,ovF_c] at F2
    clear F' lF' lN' lR' hov2;k_steps;dsimp only [StepG]
    exact ⟨_,_,_,_,_,rfl,by assumption,news_back N',fun p hp hq=>by
      rcases List.mem_cons.mp hp with h_A | h_A
      ·rw [h_A] at hq;exact hoff _ List.mem_cons_self (List.mem_singleton.mp hq)
      ·exact hoff _ (List.mem_cons_of_mem _ h_A) (List.mem_singleton.mp hq),rfl,(((ov_self.set (by decide +kernel)).set (by decide +kernel)).set (by decide +kernel)),_,_,rfl,_,rfl,by rw [rowsAll_succ];exact hrl2⟩
theorem body:seg.1 σ.1 σ.2.1 σ.2.2:=seg_A.2 fun a b c d e f g h i j k l m n o p q r s=>pick_all (P:=SA) (by with_unfolding_all exact body_A) ((((a,b),c,d),(e,f),g,h,i),((j,k),l,m,n),(o,p),q,r,s)
theorem core:Sc:=seg.2 fun g L h=>pick_all (P:=fun d:Heap×Addr×Heap=>seg.1 d.1 d.2.1 d.2.2) (by with_unfolding_all exact body) (g,L,h)
end e_law_cut
theorem law_cut :@S_law_cut w mean mg mb p loose dp un gd cn cs₀ a ccd cl outer A₀ base h₀ L m s Q E news ps l t t1 nl:=@pick_all _ _ e_law_cut.Sd (by with_unfolding_all exact e_law_cut.core) ((((_,_,_),(_,_),_,_),(_,_,_),(_,_),_,_),((_,_,_),(_,_),_,_),((_,_),_,_),(_,_),_,_)
end
end
theorem reg33:True:=by
 w_top off
 k_with "E"=>skip
 k_with "f"=>fail_if_success k_extra "F"
 k_with "ite"=>(k_extra "f";k_here;with_reducible first | refine ite_p (by with_unfolding_all rfl) ?_ | refine ite_n (by with_unfolding_all exact Bool.false_ne_true) ?_)
 k_with "exec If"=>(k_extra "f";k_here;k_dflt (refine wpAny_If ?_))
 k_with "eval Constant int"=>(k_extra "f";k_here;(with_reducible refine cintL fun _ _=>?_))
 k_with "binaryOp Add int int"=>(k_extra "f";k_here;(with_reducible refine addL fun _ _=>?_))
 k_with "binaryOp Sub int int"=>(k_extra "f";k_here;(with_reducible refine subL fun _ _=>?_))
 k_with "exec For"=>(k_extra "f";k_extra "hg")
 k_with "exec For Name Call cons nil"=>(k_extra "f";k_extra "hg")
 k_with "exec For Name Name cons nil"=>(k_extra "f";k_extra "hg")
 k_with "exec For Name Attribute cons nil"=>(k_extra "f";k_extra "hg")
 k_with "call builtin:len"=>(k_extra "f";k_here;k_dflt (refine' len_intsV (by k_asm) ?hm ?hi ?hl ?_;(case hm=>k_mem);(case hi=>assumption);(case hl=>omega)))
 trivial
section
local macro_rules | `(tactic| k_ne)=>`(tactic| k_extra "k_ne4")
structure WS where
 count:List Int
 b:Nat
 n:Nat
 nt:Nat
noncomputable def padC (c:List Int) (b:Nat):List Int:=if b ≥ c.length then c ++ List.replicate (b - c.length+1) 0 else c
noncomputable def wsStep (s:WS) (c:Nat):WS:=if c=32 then ⟨s.count,s.b+1,s.n+1,s.nt⟩ else ⟨(padC s.count s.b).set s.b ((padC s.count s.b).getD s.b 0+1),0,s.n+1,s.nt+1⟩
noncomputable def wsRun (l:List Nat):WS:=l.foldl wsStep ⟨[],0,0,0⟩
inductive WsJ (g₀:Array GenState) (m₀:Str -> Option Value) (news:List (Addr×Obj)) (pre:List Nat) (i:Nat) (m₁:Str -> Option Value) (nw:List (Addr×Obj)) (g:Array GenState):Prop
 | mk (a1:i <= pre.length) (a2:g=g₀) (a3:Ov ["ch","count","b","n","nt"] m₀ m₁) (ct:Addr) (vs:List Value) (n:Nat) (rest:List (Addr×Obj)) (tb tn tt:Tok)
  (a4:m₁ "count"=some (.ref ct)) (a5:m₁ "b"=some (.int ((wsRun (pre.take i)).b:Nat) tb)) (a6:m₁ "n"=some (.int ((wsRun (pre.take i)).n:Nat) tn)) (a7:m₁ "nt"=some (.int ((wsRun (pre.take i)).nt:Nat) tt))
  (a8:nw=(ct,W.listOf vs.toArray n)::rest) (a9:IntsAre vs (wsRun (pre.take i)).count) (b1:∀ p∈news,p∈rest) (b2:∀ q∈rest,q.1≠ct)
theorem wsRun_take {pre:List Nat} {i c:Nat} (h:pre[i]?=some c):wsRun (pre.take (i+1))=wsStep (wsRun (pre.take i)) c:=by
 rw [List.take_add_one,h]
 simp [wsRun,List.foldl_append]
theorem ws_fold:∀ (l:List Nat) (s:WS) (k:Nat),s.b <= k -> s.count.length <= k -> (l.foldl wsStep s).b <= k+l.length /\ (l.foldl wsStep s).count.length <= k+l.length
 | [],s,k,h1,h2=>⟨h1,h2⟩
 | c::l,s,k,h1,h2=>by
  have hb:(wsStep s c).b <= k+1:=by
   unfold wsStep
   split
   ·show s.b+1 <= _;omega
   ·exact Nat.zero_le _
  have hl:(wsStep s c).count.length <= k+1:=by
   unfold wsStep
   split
   ·show s.count.length <= _;omega
   ·show (List.set _ _ _).length <= _
    rw [List.length_set]
    unfold padC
    split
    ·rw [List.length_append,List.length_replicate];omega
    ·omega
  have:=ws_fold l (wsStep s c) (k+1) hb hl
  rw [List.foldl_cons,List.length_cons]
  omega
theorem ws_bound (l:List Nat):(wsRun l).b <= l.length /\ (wsRun l).count.length <= l.length:=by
 have:=ws_fold l ⟨[],0,0,0⟩ 0 (Nat.le_refl _) (Nat.le_refl _)
 unfold wsRun
 omega
theorem step_sp (s:WS):wsStep s 32=⟨s.count,s.b+1,s.n+1,s.nt⟩:=rfl
theorem flat_rep (k:Nat):(List.replicate k [(0:Int)]).flatten=List.replicate k 0:=by
 induction k with
 | zero=>rfl
 | succ k ih=>rw [List.replicate_succ,List.flatten_cons,ih,List.replicate_succ];rfl
theorem step_tabP (s:WS) (h:(s.count.length:Int) <= (s.b:Int)):wsStep s 9=⟨(s.count ++ (List.replicate ((s.b:Int) - (s.count.length:Int)+1).toNat [(0:Int)]).flatten).set ((s.b:Nat):Int).toNat ((s.count ++ (List.replicate ((s.b:Int) - (s.count.length:Int)+1).toNat [(0:Int)]).flatten).getD ((s.b:Nat):Int).toNat 0+1),0,s.n+1,s.nt+1⟩:=by
 have e:padC s.count s.b=s.count ++ List.replicate (s.b - s.count.length+1) 0:=if_pos (by omega)
 rw [flat_rep,Int.toNat_natCast,show ((s.b:Int) - (s.count.length:Int)+1).toNat=s.b - s.count.length+1 by omega,<- e]
 rfl
theorem step_tabN (s:WS) (h:¬ (s.count.length:Int) <= (s.b:Int)):wsStep s 9=⟨s.count.set ((s.b:Nat):Int).toNat (s.count.getD ((s.b:Nat):Int).toNat 0+1),0,s.n+1,s.nt+1⟩:=by
 have e:padC s.count s.b=s.count:=if_neg (by omega)
 rw [Int.toNat_natCast]
 show (⟨(padC s.count s.b).set s.b ((padC s.count s.b).getD s.b 0+1),0,s.n+1,s.nt+1⟩:WS)=_
 rw [e]
theorem tab_led {h₀ h:Heap} {L D1 D2 D3 ct it:Addr} {o1 o2 o3 o4 o4':Obj} {own rest news:List (Addr×Obj)} (N:News h₀ L h ((D1,o1)::(D2,o2)::(D3,o3)::(ct,o4)::(own ++ rest)))
  (l1:@LT.lt Nat _ D2 D1 /\ @LT.lt Nat _ D3 D1 /\ @LT.lt Nat _ ct D1 /\ AllLt D1 (own ++ rest)) (l2:@LT.lt Nat _ D3 D2 /\ @LT.lt Nat _ ct D2 /\ AllLt D2 (own ++ rest)) (l3:@LT.lt Nat _ ct D3 /\ AllLt D3 (own ++ rest))
  (hit:∃ o,(it,o)∈own /\ o.cls≠.type "tuple") (hoff:∀ p∈(ct,o4')::rest,p.1≠it) (hsub:∀ p∈news,p∈rest) :
  News h₀ L h (own ++ (D1,o1)::(D2,o2)::(D3,o3)::(ct,o4)::rest) /\ (∀ p∈(D1,o1)::(D2,o2)::(D3,o3)::(ct,o4)::rest,p.1∉[it]) /\ (∀ p∈news,p∈(D2,o2)::(D3,o3)::(ct,o4)::rest) /\ (∀ q∈(D2,o2)::(D3,o3)::(ct,o4)::rest,q.1≠D1):=by
 obtain ⟨oi,hi,_⟩:=hit
 have hl:∀ {D:Nat},AllLt D (own ++ rest) -> @LT.lt Nat _ it D:=fun h=>allLt_all h _ (List.mem_append_left _ hi)
 refine ⟨fun p hp=>N p ?_,fun p hp hq=>?_,fun p hp=>?_,fun q hq=>?_⟩
 ·simp only [List.mem_append,List.mem_cons] at hp ⊢
  rcases hp with h | h | h | h | h | h<;>simp [h]
 ·have hq:=List.mem_singleton.mp hq
  simp only [List.mem_cons] at hp
  rcases hp with h | h | h | h | h
  ·rw [h] at hq;exact absurd hq (Nat.ne_of_gt (hl l1.2.2.2))
  ·rw [h] at hq;exact absurd hq (Nat.ne_of_gt (hl l2.2.2))
  ·rw [h] at hq;exact absurd hq (Nat.ne_of_gt (hl l3.2))
  ·rw [h] at hq;exact hoff _ List.mem_cons_self hq
  ·exact hoff _ (List.mem_cons_of_mem _ h) hq
 ·simp [hsub p hp]
 ·simp only [List.mem_cons] at hq
  rcases hq with h | h | h | h
  ·rw [h];exact Nat.ne_of_lt l1.1
  ·rw [h];exact Nat.ne_of_lt l1.2.1
  ·rw [h];exact Nat.ne_of_lt l1.2.2.1
  ·exact Nat.ne_of_lt (allLt_all l1.2.2.2 q (List.mem_append_right _ h))
theorem ws_drop {h₀ h:Heap} {L:Addr} {a b c d e:Addr×Obj} {news:List (Addr×Obj)} (N:News h₀ L h (a::b::c::d::e::news)):News h₀ L h (a::b::c::d::news):=fun p hp=>N p (by
 revert p;w_head)
theorem ws_rest {h₀ h:Heap} {L ct:Addr} {o:Obj} {a b c:Addr×Obj} {own rest news:List (Addr×Obj)} (N:News h₀ L h ((ct,o)::(own ++ rest))) (hsub:∀ p∈a::b::c::news,p∈rest) (hrest:∀ q∈rest,q.1≠ct) :
  News h₀ L h (b::c::(ct,o)::news) /\ (∀ q∈news,q.1≠ct) /\ @Ne Nat b.1 ct /\ @Ne Nat c.1 ct:=by
 refine ⟨fun p hp=>N p ?_,fun q hq=>hrest _ (hsub _ (by simp [hq])),hrest _ (hsub _ (by w_why)),hrest _ (hsub _ (by w_why))⟩
 simp only [List.mem_cons] at hp
 rcases hp with h | h | h | h
 ·exact List.mem_cons_of_mem _ (List.mem_append_right _ (hsub _ (by simp [h])))
 ·exact List.mem_cons_of_mem _ (List.mem_append_right _ (hsub _ (by simp [h])))
 ·simp [h]
 ·exact List.mem_cons_of_mem _ (List.mem_append_right _ (hsub _ (by simp [h])))
section
variable
 {news:List (Addr×Obj)} {y:Str} {t1:Tok}
variable (B:Below A₀ base outer h₀) (F:Fr h₀ L s.heap m) (X:(KK w.params).In h₀) (T:Top p loose mean mg mb h₀) (hk:cs₀.kind=.function) (hd:dp+40 < recursionLimit) (hu:un+250 < cLine)
 (N:News h₀ L s.heap news)
noncomputable def S_ws_make {pre post:List Nat}:Prop:=∀ (B:Below A₀ base outer h₀) (F:Fr h₀ L s.heap m) (X:(KK w.params).In h₀) (T:Top p loose mean mg mb h₀) (hk:cs₀.kind=.function) (hd:dp+40 < recursionLimit) (hu:un+250 < cLine) (N:News h₀ L s.heap news) (hy:y.cps.size <= 300) (hpre:y.cps.toList=pre ++ 120::post) (hall:∀ c∈pre,c=32 \/ c=9) (hret:∀ (ws wd nm ct:Addr) (vs:List Value) (t:WTok) (tb:Tok) (h':Heap) (tk':Nat),Fr h₀ L h' m -> News h₀ L h' ((nm,tup2 (.ref ct) (.int ((wsRun pre).b:Nat) tb))::(ct,tupOf vs)::(ws,instObj 315 wd)::(wd,wsO w.params y ((wsRun pre).n:Nat) ((wsRun pre).nt:Nat) nm (decide ((wsRun pre).count.length <= 1)) t)::news) -> IntsAre vs (wsRun pre).count -> Q (.ref ws) { s with heap:=h',toks:=tk' }),wpAny (model rw_rw0127_01.row.prog w) (ktrTop dp un gd cn cs₀ L a ccd cl outer) (call (.ref 315) [.str y t1]) Q E s
namespace e_ws_make
noncomputable abbrev Sd:=fun z:((((_×_×_)×(_×_)×_×_)×(_×_×_)×(_×_)×_×_)×((_×_×_)×(_×_)×_×_)×(_×_×_)×(_×_)×_×_)=>@S_ws_make z.1.1.1.1 z.1.1.1.2.1 z.1.1.1.2.2 z.1.1.2.1.1 z.1.1.2.1.2 z.1.1.2.2.1 z.1.1.2.2.2 z.1.2.1.1 z.1.2.1.2.1 z.1.2.1.2.2 z.1.2.2.1.1 z.1.2.2.1.2 z.1.2.2.2.1 z.1.2.2.2.2 z.2.1.1.1 z.2.1.1.2.1 z.2.1.1.2.2 z.2.1.2.1.1 z.2.1.2.1.2 z.2.1.2.2.1 z.2.1.2.2.2 z.2.2.1.1 z.2.2.1.2.1 z.2.2.1.2.2 z.2.2.2.1.1 z.2.2.2.1.2 z.2.2.2.2.1 z.2.2.2.2.2
@[irreducible] def κ:=pick (by k_extra "ne") Sd
def pre_:=κ.2.2.2.2.1
noncomputable abbrev Sc:=@S_ws_make κ.1.1.1.1 κ.1.1.1.2.1 κ.1.1.1.2.2 κ.1.1.2.1.1 κ.1.1.2.1.2 κ.1.1.2.2.1 κ.1.1.2.2.2 κ.1.2.1.1 κ.1.2.1.2.1 κ.1.2.1.2.2 κ.1.2.2.1.1 κ.1.2.2.1.2 κ.1.2.2.2.1 κ.1.2.2.2.2 κ.2.1.1.1 κ.2.1.1.2.1 κ.2.1.1.2.2 κ.2.1.2.1.1 κ.2.1.2.1.2 κ.2.1.2.2.1 κ.2.1.2.2.2 κ.2.2.1.1 κ.2.2.1.2.1 κ.2.2.1.2.2 κ.2.2.2.1.1 κ.2.2.2.1.2 pre_ κ.2.2.2.2.2
omit B F X T hk hd hu N in
noncomputable def seg_A:PSigma fun P:Addr -> Addr -> Heap -> Heap -> Addr -> Heap -> Prop=>(∀ a b c d e f,P a b c d e f) -> Sc:=⟨_,by
 intro hP;unfold Sc S_ws_make
 intro B F X T hk hd hu N hy hpre hall hret;revert X;k_fill;intro X;(refine' call_cls ?k1 ?k2 ?k3 ?k4 ?k5 ?k6 ?_;(case k1=>k_asm);(case k2=>k_asm);(case k3=>k_asm);(case k4=>k_is);(case k5=>k_is);(case k6=>k_is);k_whole;intro x' d' h' F' N' l1 l2;(have l3:=l1);(try k_lt l1);(try k_lt2 l2);(try k_sweep))
 (k_extra "eD";intro g' L' h' FG' F' N' B' X' T';k_extra "tl")
 rename_i x12_A x13_A x14_A;revert B T hk hd hu hy hpre hall hret X x13_A x14_A l1 l3 l2 FG' N' B' X' T' qk ek F'
 exact hP x' d' x12_A g' L' h'⟩
noncomputable abbrev SA:=fun z:((Addr×Addr×Heap)×Heap×Addr×Heap)=>seg_A.1 z.1.1 z.1.2.1 z.1.2.2 z.2.1 z.2.2.1 z.2.2.2
@[irreducible] def σA:=pick (by k_extra "ne") SA
def h'_A:=σA.2.2.2
theorem core_A:seg_A.1 σA.1.1 σA.1.2.1 σA.1.2.2 σA.2.1 σA.2.2.1 h'_A:=by
 intro B T hk hd hu hy hpre hall hret X x13_A x14_A l1 l3 l2 FG' N' B' X' T' qk ek F';k_steps;refine unhalt ?_;k_dflt (refine' For_G σA.2.1 ?k1 ?k2 ?_;(case k1=>exact rfl);(case k2=>exact rfl))
 k_steps;(rename Fr _ _ _ _=>lF');(rename News _ _ _ _=>lN');(rename _ /\ _ /\ _ /\ AllLt _ κ.2.2.1.2.2=>l9);k_dflt (refine' strG rfl lF' lN' (WsJ κ.2.1.2.2.2.gens _ _ pre_) ⟨Nat.zero_le _,rfl,Ov.refl,_,_,_,_,_,_,_,rfl,rfl,rfl,rfl,rfl,.nil,fun _ h=>h,?r0⟩ (fun i c u m₁ news₁ h tk g own it hc hJ hoff hown hcl F' N'=>?_) (fun h'_A tk' g'' m' news' F' N' hJ=>?_))
 case r0 =>
  intro q hq;obtain ⟨l5,l6,l7,l8⟩:=l9
  rcases List.mem_cons.mp hq with h | hq
  ·rw [h];exact Nat.ne_of_lt l5
  ·rcases List.mem_cons.mp hq with h | hq
   ·rw [h];exact Nat.ne_of_lt l6
   ·rcases List.mem_cons.mp hq with h | hq
    ·rw [h];exact Nat.ne_of_lt l7
    ·exact Nat.ne_of_lt (allLt_all l8 q hq)
 ·obtain ⟨hi,rfl,hov,ct,vs,n,rest,tb,tn,tt,ect,eb,en,ent,rfl,hvs,hsub,hrest⟩:=hJ
  have F2:=fr_formK hov F'
  simp only [ovF_n,ovF_c,ect,eb,en,ent] at F2
  clear F' lF' lN';have N2:=news_swap N'
  clear N';have hne:∀ p∈own ++ rest,p.1≠ct:=fun p hp=>by
   rcases List.mem_append.mp hp with h | h
   ·rw [hown p h];exact fun e=>hoff _ List.mem_cons_self e.symm
   ·exact hrest p h
  have hpz:pre_.length <= 300:=by have:=congrArg List.length hpre;simp at this;omega
  have hbd:=ws_bound (pre_.take i)
  have htk:(pre_.take i).length <= 300:=Nat.le_trans (List.length_take_le _ _) (Nat.le_trans hi hpz)
  have hlen:(wsRun (pre_.take i)).count.length <= 400:=by omega
  have hb:(wsRun (pre_.take i)).b <= 400:=by omega
  have hc2:κ.2.2.2.1.1.cps.toList[i]?=some c:=by rw [Array.getElem?_toList];exact hc
  rw [hpre] at hc2
  by_cases hip:i < pre_.length
  ·have hc3:pre_[i]?=some c:=by rwa [List.getElem?_append_left hip] at hc2
   have er:=wsRun_take hc3
   rcases hall c (List.mem_of_getElem? hc3) with rfl | rfl
   ·k_steps
    dsimp only [StepG]
    (rename Fr _ _ _ _=>kF9);(rename News _ _ _ _=>kN9);rw [step_sp] at er
    refine' ⟨_,_,_,_,_,rfl,kF9,news_back kN9,fun p hp hq=>hoff p hp (List.mem_singleton.mp hq),hip,rfl,(by repeat (first | exact Ov.refl | refine Ov.set ?_ (by decide +kernel))),ct,vs,n,rest,_,_,_,rfl,?_,?_,?_,rfl,?_,hsub,hrest⟩
    rotate_left 3
    ·rw [er];exact rfl
    ·rw [er];exact rfl
    ·rw [er];exact rfl
    ·rw [er];exact hvs
   ·k_steps
    ·dsimp only [StepG]
     (rename Fr _ _ _ _=>kF9);(rename News _ _ _ _=>kN9);rw [step_tabP _ (by assumption)] at er
     obtain ⟨q1,q2,q3,q4⟩:=tab_led kN9 (by assumption) (by assumption) (by assumption) hcl hoff hsub
     refine' ⟨_,_,_,_,_,rfl,kF9,q1,q2,hip,rfl,(by repeat (first | exact Ov.refl | refine Ov.set ?_ (by decide +kernel))),_,_,_,_,_,_,_,rfl,?_,?_,?_,rfl,?_,q3,q4⟩
     rotate_left 3
     ·rw [er];exact rfl
     ·rw [er];exact rfl
     ·rw [er];exact rfl
     ·rw [er];assumption
    ·dsimp only [StepG]
     (rename Fr _ _ _ _=>kF9);(rename News _ _ _ _=>kN9);rw [step_tabN _ (by assumption)] at er
     refine' ⟨_,_,_,_,_,rfl,kF9,news_back kN9,fun p hp hq=>by
      rcases List.mem_cons.mp hp with h | h
      ·rw [h] at hq;exact hoff _ List.mem_cons_self (List.mem_singleton.mp hq)
      ·exact hoff _ (List.mem_cons_of_mem _ h) (List.mem_singleton.mp hq),hip,rfl,(by repeat (first | exact Ov.refl | refine Ov.set ?_ (by decide +kernel))),_,_,_,rest,_,_,_,rfl,?_,?_,?_,rfl,?_,hsub,hrest⟩
     rotate_left 3
     ·rw [er];exact rfl
     ·rw [er];exact rfl
     ·rw [er];exact rfl
     ·rw [er];assumption
  ·obtain rfl:i=pre_.length:=by omega
   obtain rfl:c=120:=by simpa using hc2.symm
   rw [List.take_length] at hvs hlen hb F2
   obtain ⟨N3,n3,n4,n5⟩:=ws_rest N2 hsub hrest
   dsimp only at n4 n5
   clear N2;k_steps;(try dsimp only [StepG])
   k_steps;(try dsimp only [StepG])
   k_steps;(try dsimp only [StepG])
   k_steps;(rename Fr _ _ _ _=>kF9);(rename News _ _ _ _=>kN9);have es:decide (((wsRun pre_).count.length:Int) <= 1)=decide ((wsRun pre_).count.length <= 1):=by
    rw [decide_eq_decide];omega
   rw [es] at kN9
   exact hret _ _ _ _ _ ⟨_,_,_,_,_,_,_,_⟩ _ _ _ kF9 (ws_drop kN9) (by assumption)
 ·exact absurd hJ.1 (by have:=congrArg List.length hpre;simp at this;omega)
theorem core:Sc:=seg_A.2 fun a b c d e f=>pick_all (P:=SA) (by with_unfolding_all exact core_A) ((a,b,c),d,e,f)
end e_ws_make
theorem ws_make {pre post:List Nat}:@S_ws_make w mean mg mb p loose dp un gd cn cs₀ a ccd cl outer A₀ base h₀ L m s Q E news y t1 pre post:=@pick_all _ _ e_ws_make.Sd (by with_unfolding_all exact e_ws_make.core) ((((_,_,_),(_,_),_,_),(_,_,_),(_,_),_,_),((_,_,_),(_,_),_,_),(_,_,_),(_,_),_,_)
end
end
theorem reg34:True:=by
 w_top off
 k_with "F"=>skip
 k_with "g"=>fail_if_success k_extra "G"
 k_with "ite"=>(k_extra "g";k_here;with_reducible first | refine ite_p (by with_unfolding_all rfl) ?_ | refine ite_n (by with_unfolding_all exact Bool.false_ne_true) ?_)
 k_with "exec If"=>(k_extra "g";k_here;k_dflt (refine wpAny_If ?_))
 k_with "eval Constant int"=>(k_extra "g";k_here;(with_reducible refine cintL fun _ _=>?_))
 k_with "binaryOp Add int int"=>(k_extra "g";k_here;(with_reducible refine addL fun _ _=>?_))
 k_with "binaryOp Sub int int"=>(k_extra "g";k_here;(with_reducible refine subL fun _ _=>?_))
 k_with "exec For"=>(k_extra "g";k_extra "hg")
 k_with "exec For Name Call cons nil"=>(k_extra "g";k_extra "hg")
 k_with "exec For Name Name cons nil"=>(k_extra "g";k_extra "hg")
 k_with "exec For Name Attribute cons nil"=>(k_extra "g";k_extra "hg")
 k_with "exec While"=>(k_extra "g";k_extra "hg")
 k_with "call builtin:len"=>(k_extra "g";k_here;k_dflt (refine' len_intsV (by k_asm) ?hm ?hi ?hl ?_;(case hm=>k_mem);(case hi=>assumption);(case hl=>omega)))
 k_with "subscriptTail"=>(k_extra "g";k_here;(with_reducible show wpAny _ _ (subscriptTail _ _ (Value.ref _) (Value.int (-1) _)) _ _ _);k_dflt (refine' item_intsLast (by k_asm) ?hm ?hi ?h1 ?hl ?_;(case hm=>k_mem);(case hi=>assumption);(case h1=>omega);(case hl=>omega));intro t'z)
 trivial
section
local macro_rules | `(tactic| k_ne)=>`(tactic| k_extra "k_ne4")
noncomputable def ilS (cnt:List Int) (size t:Nat):Int:=((List.range (size - t)).map fun j=>((t+j:Nat):Int).fdiv (t:Int) * cnt.getD (t+j) 0).sum
noncomputable def backL (cnt:List Int) (size k:Nat):List Int:=List.replicate (size - k) 0 ++ cnt.drop (size - k)
theorem flat_rep0 (k:Nat):(List.replicate k [(0:Int)]).flatten=List.replicate k 0:=by
 induction k with
 | zero=>rfl
 | succ k ih=>rw [List.replicate_succ,List.flatten_cons,ih,List.replicate_succ];rfl
noncomputable def innerS (cnt:List Int) (t j:Nat):Int:=((List.range j).map fun q=>((t+1+q:Nat):Int).fdiv (t:Int) * cnt.getD (t+1+q) 0).sum
noncomputable def innerL (cnt:List Int) (size i t j:Nat):List Int:=(backL cnt size i).set t (ilS cnt size t - innerS cnt t j)
theorem innerS_succ (cnt:List Int) (t j:Nat):innerS cnt t (j+1)=innerS cnt t j+((t+1+j:Nat):Int).fdiv (t:Int) * cnt.getD (t+1+j) 0:=by
 unfold innerS
 rw [List.range_succ,List.map_append,List.sum_append]
 exact congrArg _ (Int.add_zero _)
theorem ilS_head {cnt:List Int} {size t:Nat} (h1:1 <= t) (h2:t < size):ilS cnt size t=cnt.getD t 0+innerS cnt t (size - t - 1):=by
 unfold ilS innerS
 rw [<- Nat.sub_add_cancel (Nat.sub_pos_of_lt h2),List.range_succ_eq_map,List.map_cons,List.sum_cons,List.map_map,Nat.sub_add_cancel (Nat.sub_pos_of_lt h2)]
 have e1:((t+0:Nat):Int).fdiv (t:Int)=1:=by
  rw [Nat.add_zero,Int.fdiv_eq_ediv_of_nonneg _ (Int.natCast_nonneg _),Int.ediv_self (Int.natCast_ne_zero.mpr (Nat.ne_of_gt h1))]
 rw [e1,Int.one_mul,Nat.add_zero]
 refine congrArg _ (congrArg List.sum (List.map_congr_left fun q _=>?_))
 show ((t+q+1:Nat):Int).fdiv _ * cnt.getD (t+q+1) 0=_
 rw [Nat.add_right_comm]
theorem backL_len {cnt:List Int} {size i:Nat} (h:cnt.length=size) (hi:i <= size):(backL cnt size i).length=size:=by
 unfold backL
 rw [List.length_append,List.length_replicate,List.length_drop,h];exact Nat.add_sub_of_le (Nat.sub_le _ _)
theorem backL_getD {cnt:List Int} {size i q:Nat} (hq:size - i <= q):(backL cnt size i).getD q 0=cnt.getD q 0:=by
 unfold backL
 rw [List.getD_eq_getElem?_getD,List.getD_eq_getElem?_getD,List.getElem?_append_right (by rw [List.length_replicate];exact hq),List.length_replicate,List.getElem?_drop,Nat.add_sub_of_le hq]
theorem step_e {size i t:Nat} (ht:t+1+i=size):size - i=t+1 /\ size - (i+1)=t /\ t < size /\ i <= size /\ (size:Int) - 1+(i:Int) * (-1)=(t:Int):=by
 subst ht;refine ⟨Nat.add_sub_cancel _ _,?_,Nat.lt_of_lt_of_le (Nat.lt_succ_self t) (Nat.le_add_right _ _),Nat.le_add_left _ _,by omega⟩
 rw [Nat.add_right_comm,Nat.add_assoc,Nat.add_sub_cancel]
theorem step_t {n i:Nat} (h:i < n - 1):∃ t,t+1+i=n /\ 1 <= t:=by
 obtain ⟨k,hk⟩:=Nat.exists_eq_add_of_lt h
 refine ⟨k+1,?_,Nat.le_add_left 1 k⟩
 cases n with
 | zero=>cases h
 | succ n=>rw [Nat.add_sub_cancel] at hk;rw [hk,Nat.add_comm,Nat.add_assoc];rfl
theorem innerL_last {cnt:List Int} {size i t:Nat} (h:cnt.length=size) (ht:t+1+i=size) (h1:1 <= t):innerL cnt size i t (size - t - 1)=backL cnt size (i+1):=by
 obtain ⟨e2,e3,h2,-⟩:=step_e ht
 unfold innerL
 rw [ilS_head h1 h2,Int.add_sub_cancel]
 unfold backL
 have ht2:t < cnt.length:=h▸h2
 rw [e2,e3,List.replicate_succ',List.append_assoc,List.set_append_right (h:=by rw [List.length_replicate];exact Nat.le_refl _),List.length_replicate,Nat.sub_self,List.drop_eq_getElem_cons ht2,List.getD_eq_getElem?_getD,List.getElem?_eq_getElem ht2]
 rfl
theorem first_val {pl cnt:List Int} {t b nt size:Nat} (h1:1 <= t) (hpl:pl.getD (t - 1) 0=(b:Int)+(t:Int) * (ilS cnt size t+(nt:Int))):(pl.getD ((t:Int) - 1).toNat 0 - (b:Int)).fdiv (t:Int) - (nt:Int)=ilS cnt size t - innerS cnt t 0:=by
 rw [tn1,hpl,Int.add_comm,Int.add_sub_cancel,Int.fdiv_eq_ediv_of_nonneg _ (Int.natCast_nonneg _),Int.mul_ediv_cancel_left _ (Int.natCast_ne_zero.mpr (Nat.ne_of_gt h1)),Int.add_sub_cancel]
 exact (Int.sub_zero _).symm
noncomputable def trimZ (l:List Int):List Int:=(l.reverse.dropWhile (· == 0)).reverse
theorem trimZ_zero (l:List Int):trimZ (l ++ [0])=trimZ l:=by
 unfold trimZ
 rw [List.reverse_append]
 rfl
theorem trimZ_keep {l:List Int} {a:Int} (h:a≠0):trimZ (l ++ [a])=l ++ [a]:=by
 unfold trimZ
 rw [List.reverse_append]
 show (List.dropWhile _ (a::l.reverse)).reverse=_
 rw [List.dropWhile_cons_of_neg (by simpa using h),List.reverse_cons,List.reverse_reverse]
noncomputable def BackW (m₀:Str -> Option Value) (news:List (Addr×Obj)) (cl:Addr) (cnt:List Int):Nat -> (Str -> Option Value) -> List (Addr×Obj) -> Prop:=fun k m₁ nw =>
 m₁=m₀ /\ ∃ vs n,nw=(cl,W.listOf vs.toArray n)::news /\ IntsAre vs (cnt.take k) /\ k <= cnt.length /\ trimZ (cnt.take k)=trimZ cnt
theorem back_first {cnt:List Int} {size nt:Nat} (h:cnt.length=size) (h1:1 <= size) (hs:cnt.sum=(nt:Int)):(backL cnt size (size - 1)).set (Int.toNat 0) ((nt:Int) - (backL cnt size (size - 1)).sum)=cnt:=by
 unfold backL
 rw [Nat.sub_sub_self h1]
 cases cnt with
 | nil=>subst h;cases h1
 | cons a r =>
  rw [List.sum_cons] at hs
  show ((nt:Int) - (0+r.sum))::r=a::r
  rw [Int.zero_add,<- hs,Int.add_sub_cancel]
theorem back_start {vs:List Value} {cnt:List Int} {n:Nat} (h:cnt.length=n) (i:IntsAre vs cnt):IntsAre vs (cnt.take n):=by
 rw [List.take_of_length_le (Nat.le_of_eq h)];exact i
theorem back_nil {cnt:List Int} {k:Nat} (h:decide (cnt.take k=[])=true) (ht:trimZ (cnt.take k)=trimZ cnt):cnt.take k=trimZ cnt:=by
 rw [<- ht,of_decide_eq_true h];rfl
theorem back_snoc {cnt:List Int} {k:Nat} (h:k <= cnt.length) (hn:decide (cnt.take k=[])=false):1 <= k /\ (cnt.take k).getD (-1+((cnt.take k).length:Int)).toNat 0=cnt.getD (k - 1) 0 /\ cnt.take k=cnt.take (k - 1) ++ [cnt.getD (k - 1) 0]:=by
 have hk:1 <= k:=by
  cases k with
  | zero=>cases hn
  | succ k=>exact Nat.succ_pos k
 have hlt:k - 1 < cnt.length:=Nat.lt_of_lt_of_le (Nat.sub_lt hk Nat.one_pos) h
 have hl:(cnt.take k).length=k:=by rw [List.length_take,Nat.min_eq_left h]
 have e1:=Nat.sub_add_cancel hk
 refine ⟨hk,?_,?_⟩
 ·rw [hl,tnm,List.getD_eq_getElem?_getD,List.getElem?_take_of_lt (Nat.sub_lt hk Nat.one_pos),<- List.getD_eq_getElem?_getD]
 ·have:=List.take_add_one (l:=cnt) (i:=k - 1)
  rw [e1] at this
  rw [this,List.getD_eq_getElem?_getD,List.getElem?_eq_getElem hlt];rfl
theorem back_keep {cnt:List Int} {k:Nat} (h:k <= cnt.length) (hn:decide (cnt.take k=[])=false) (hz:(cnt.take k).getD (-1+((cnt.take k).length:Int)).toNat 0≠0) (ht:trimZ (cnt.take k)=trimZ cnt):cnt.take k=trimZ cnt:=by
 obtain ⟨h1,h2,h3⟩:=back_snoc h hn
 rw [h2] at hz
 rw [<- ht,h3,trimZ_keep hz]
theorem back_pop {cnt:List Int} {k:Nat} (h:k <= cnt.length) (hn:decide (cnt.take k=[])=false) (hz:(cnt.take k).getD (-1+((cnt.take k).length:Int)).toNat 0=0) (ht:trimZ (cnt.take k)=trimZ cnt):1 <= k /\ (cnt.take k).dropLast=cnt.take (k - 1) /\ trimZ (cnt.take (k - 1))=trimZ cnt:=by
 obtain ⟨h1,h2,h3⟩:=back_snoc h hn
 rw [h2] at hz
 refine ⟨h1,?_,?_⟩
 ·rw [h3,List.dropLast_concat]
 ·rw [<- ht,h3,hz,trimZ_zero]
noncomputable abbrev tup3 (a b c:Value):Obj:=⟨.type "tuple",none,.seq #[a,b,c] 0,#[]⟩
theorem back_led {h₀ h:Heap} {L:Addr} {a b c d e:Addr×Obj} {news:List (Addr×Obj)} (N:News h₀ L h (a::b::c::d::e::news)):News h₀ L h (a::b::c::news):=fun p hp=>N p (by
 revert p;w_head)
theorem mul_of {a c:Int} (h:0 <= c /\ c <= 1000):IntMulOk a c:=PySem.IntMulOk.of_right (PySem.intBits_le_64 (by omega) (by omega))
local macro_rules | `(tactic| mul_fits)=>`(tactic| k_extra "mul_fits5")
theorem innerL_getD {cnt:List Int} {size i t j q:Nat} (ht:t+1+i=size) (hq:t+1 <= q):(innerL cnt size i t j).getD q 0=cnt.getD q 0:=by
 unfold innerL
 rw [List.getD_eq_getElem?_getD,List.getElem?_set_ne (Nat.ne_of_lt hq),<- List.getD_eq_getElem?_getD]
 exact backL_getD (by rw [(step_e ht).1];exact hq)
theorem innerL_at {cnt:List Int} {size i t j:Nat} (h:cnt.length=size) (hi:i <= size) (ht:t < size):(innerL cnt size i t j).getD t 0=ilS cnt size t - innerS cnt t j:=by
 unfold innerL
 rw [List.getD_eq_getElem?_getD,List.getElem?_set_self (by rw [backL_len h hi];exact ht)]
 rfl
theorem innerL_set {cnt:List Int} {size i t j:Nat} {v:Int} (hv:v=ilS cnt size t - innerS cnt t (j+1)):(innerL cnt size i t j).set t v=innerL cnt size i t (j+1):=by
 unfold innerL
 rw [List.set_set,hv]
section
variable
 {news:List (Addr×Obj)} {ps:Addr} {vs:List Value} {pl cnt:List Int} {nl:Nat} {b nt:Nat}
variable (B:Below A₀ base outer h₀) (F:Fr h₀ L s.heap m) (X:(KK w.params).In h₀) (T:Top p loose mean mg mb h₀) (hk:cs₀.kind=.function) (hd:dp+40 < recursionLimit) (hu:un+250 < cLine)
 (N:News h₀ L s.heap news)
noncomputable def S_law_back :Prop:=∀ (B:Below A₀ base outer h₀) (F:Fr h₀ L s.heap m) (X:(KK w.params).In h₀) (T:Top p loose mean mg mb h₀) (hk:cs₀.kind=.function) (hd:dp+40 < recursionLimit) (hu:un+250 < cLine) (N:News h₀ L s.heap news) (hp:(ps,W.listOf vs.toArray nl)∈news) (hi:IntsAre vs pl) (h1:1 <= pl.length) (h2:pl.length <= 400) (hlast:pl.getD (pl.length - 1) 0=(b:Int)+(pl.length:Int) * (nt:Int)) (hb:b < pl.length) (hcl:cnt.length=pl.length) (hcb:∀ c∈cnt,0 <= c /\ c <= 1000) (hnt:nt <= 1000) (hsum:cnt.sum=(nt:Int)) (hret:∀ (T1 T2 T3:Addr) (vs':List Value) (t1 t2 t3:Tok) (h':Heap) (tk':Nat),Fr h₀ L h' m -> News h₀ L h' ((T1,tup3 (.int (pl.getD 0 0) t1) (.int (nt:Nat) t2) (.ref T2))::(T2,tup2 (.ref T3) (.int (b:Nat) t3))::(T3,tupOf vs')::news) -> IntsAre vs' (trimZ cnt) -> Q (.ref T1) { s with heap:=h',toks:=tk' }) (hpl:∀ t,1 <= t -> t < pl.length -> pl.getD (t - 1) 0=(b:Int)+(t:Int) * (ilS cnt pl.length t+(nt:Int))),wpAny (model rw_rw0127_01.row.prog w) (ktrTop dp un gd cn cs₀ L a ccd cl outer) (call (.ref 362) [.ref ps]) Q E s
namespace e_law_back
noncomputable abbrev Sd:=fun z:((((_×_×_)×(_×_)×_×_)×((_×_)×_×_)×(_×_)×_×_)×(((_×_)×_×_)×(_×_)×_×_)×((_×_)×_×_)×(_×_)×_×_)=>@S_law_back z.1.1.1.1 z.1.1.1.2.1 z.1.1.1.2.2 z.1.1.2.1.1 z.1.1.2.1.2 z.1.1.2.2.1 z.1.1.2.2.2 z.1.2.1.1.1 z.1.2.1.1.2 z.1.2.1.2.1 z.1.2.1.2.2 z.1.2.2.1.1 z.1.2.2.1.2 z.1.2.2.2.1 z.1.2.2.2.2 z.2.1.1.1.1 z.2.1.1.1.2 z.2.1.1.2.1 z.2.1.1.2.2 z.2.1.2.1.1 z.2.1.2.1.2 z.2.1.2.2.1 z.2.1.2.2.2 z.2.2.1.1.1 z.2.2.1.1.2 z.2.2.1.2.1 z.2.2.1.2.2 z.2.2.2.1.1 z.2.2.2.1.2 z.2.2.2.2.1 z.2.2.2.2.2
@[irreducible] def κ:=pick (by k_extra "ne") Sd
def w_:=κ.1.1.1.1
def mean_:=κ.1.1.1.2.1
def mg_:=κ.1.1.1.2.2
def mb_:=κ.1.1.2.1.1
def loose_:=κ.1.1.2.2.1
def dp_:=κ.1.1.2.2.2
def un_:=κ.1.2.1.1.1
def gd_:=κ.1.2.1.1.2
def cn_:=κ.1.2.1.2.1
def cs₀_:=κ.1.2.1.2.2
def a_:=κ.1.2.2.1.1
def ccd_:=κ.1.2.2.1.2
def cl_:=κ.1.2.2.2.1
def outer_:=κ.1.2.2.2.2
def A₀_:=κ.2.1.1.1.1
def base_:=κ.2.1.1.1.2
def h₀_:=κ.2.1.1.2.1
def L_:=κ.2.1.1.2.2
def m_:=κ.2.1.2.1.1
def s_:=κ.2.1.2.1.2
def Q_:=κ.2.1.2.2.1
def E_:=κ.2.1.2.2.2
def news_:=κ.2.2.1.1.1
def ps_:=κ.2.2.1.1.2
def vs_:=κ.2.2.1.2.1
def pl_:=κ.2.2.1.2.2
def cnt_:=κ.2.2.2.1.1
def nl_:=κ.2.2.2.1.2
def b_:=κ.2.2.2.2.1
def nt_:=κ.2.2.2.2.2
noncomputable abbrev Sc:=@S_law_back w_ mean_ mg_ mb_ κ.1.1.2.1.2 loose_ dp_ un_ gd_ cn_ cs₀_ a_ ccd_ cl_ outer_ A₀_ base_ h₀_ L_ m_ s_ Q_ E_ news_ ps_ vs_ pl_ cnt_ nl_ b_ nt_
omit B F X T hk hd hu N in
noncomputable def seg:PSigma fun P:Heap -> Addr -> Heap -> Prop=>(∀ g L h,P g L h) -> Sc:=⟨_,by
 intro hP;unfold Sc S_law_back
 intro B F X T hk hd hu N hp hi h1 h2 hlast hb hcl hcb hnt hsum hret hpl;revert X;k_fill;intro X;refine wpAny_call ?_;(k_extra "eD";intro g' L' h' FG' F' N' B' X' T';revert B F T hk hd hu N hp hi h1 h2 hlast hb hcl hcb hnt hsum hret hpl X FG' F' N' B' X' T';exact hP g' L' h')⟩
@[irreducible] def σ:=pick (inferInstance:Nonempty (Heap×Addr×Heap)) fun d=>seg.1 d.1 d.2.1 d.2.2
def ge_:=σ.1
def Le_:=σ.2.1
def he_:=σ.2.2
theorem body:seg.1 ge_ Le_ he_:=by
 intro B F T hk hd hu N hp hi h1 h2 hlast hb hcl hcb hnt hsum hret hpl X FG' F' N' B' X' T';(k_extra "tl")
 have hvl:=hi.length
 k_steps;refine unhalt ?_;have ew:(pl_.getD (pl_.length - 1) 0).fdiv (pl_.length:Int)=(nt_:Int):=by
  rw [hlast,Int.fdiv_eq_ediv_of_nonneg _ (by omega),Int.add_mul_ediv_left _ _ (by omega),Int.ediv_eq_zero_of_lt (by omega) (by omega)]
  omega
 have er:(pl_.getD (pl_.length - 1) 0).fmod (pl_.length:Int)=(b_:Int):=by
  rw [hlast,Int.fmod_eq_emod_of_nonneg _ (by omega),Int.add_mul_emod_self_left,Int.emod_eq_of_lt (by omega) (by omega)]
 (rename Fr _ _ _ _=>lF');(rename News _ _ _ _=>lN');rw [ew,er] at lF' lN'
 k_dflt (refine' For_G ge_ ?k1 ?k2 ?_;(case k1=>exact rfl);(case k2=>exact rfl))
 k_steps;(try clear lF');(try clear lN')
 (rename Fr _ _ _ _=>lF');(rename News _ _ _ _=>lN');(rename IsRange _ _ _ _ _ _ _ _=>lR');rename IntsAre (List.flatten _) _=>i9
 (rename _ /\ _ /\ AllLt _ news_=>l9);have l9:=allLt_all l9.2.2
 have e0:backL cnt_ pl_.length 0=(List.replicate ((pl_.length:Nat):Int).toNat [(0:Int)]).flatten:=by
  rw [flat_rep0,Int.toNat_natCast]
  unfold backL
  rw [Nat.sub_zero,List.drop_of_length_le (by omega),List.append_nil]
 rw [<- e0] at i9
 k_dflt (refine' rangeG2 (n:=pl_.length - 1) rfl lR' ?sm ?sz lF' (news_skip1 (news_skip1 lN')) (GrowJ s_.gens ["t","longer"] _ news_ _ (fun k vs_=>IntsAre vs_ (backL cnt_ pl_.length k))) ⟨rfl,Ov.refl,_,_,rfl,i9⟩ (fun i u m₁ news₁ h tk g own it hi' hJ hoff hown hit F' N'=>?_) (fun h' tk' g'' m' news' F' N' hJ=>?_))
 case sm=>rw [show (pl_.length:Int) - 1=((pl_.length - 1:Nat):Int) by omega];exact dn_small (Int.natCast_nonneg _) (by omega)
 case sz=>rw [show (pl_.length:Int) - 1=((pl_.length - 1:Nat):Int) by omega];exact dn_size (Int.natCast_nonneg _)
 ·k_fold
  obtain ⟨rfl,hov,vs2,n2,rfl,hv2⟩:=hJ
  obtain ⟨gm,F''⟩:=fr_form hov F'
  simp only [ovF_n,ovF_c] at F''
  obtain ⟨t,htk,h1t⟩:=step_t hi'
  obtain ⟨-,-,h2t,hik,e5⟩:=step_e htk
  rw [e5] at F''
  clear e5;clear F' lF' lN' lR' hov;have N'':=news_swap N'
  clear N';have hmp:(ps_,W.listOf vs_.toArray nl_)∈own ++ news_:=List.mem_append_right _ hp
  have hne:∀ p∈own ++ news_,p.1≠_:=fun p hp=>by
   rcases List.mem_append.mp hp with h | h
   ·rw [hown p h];exact fun e=>hoff _ List.mem_cons_self e.symm
   ·exact Nat.ne_of_lt (l9 p h)
  have hbl:=backL_len hcl hik
  clear hi';k_steps;refine unhalt ?_;k_dflt (refine' For_G ge_ ?k1 ?k2 ?_;(case k1=>exact rfl);(case k2=>exact rfl))
  k_steps;(try clear lF');(try clear lN')
  (rename Fr _ _ _ _=>lF');(rename News _ _ _ _=>lN');(rename IsRange _ _ _ _ _ _ _ _=>lR');rename IntsAre (List.set _ _ _) _=>i8
  rw [first_val h1t (hpl t h1t h2t),Int.toNat_natCast] at i8
  rw [first_val h1t (hpl t h1t h2t),Int.toNat_natCast] at lN'
  k_dflt (refine' rangeG2 (n:=pl_.length - t - 1) rfl lR' ?sm ?sz lF' lN' (GrowJ s_.gens ["longer"] _ (own ++ news_) _ (fun j vs_=>IntsAre vs_ (innerL cnt_ pl_.length i t j))) ⟨rfl,Ov.refl,_,_,rfl,i8⟩ (fun j u m₁ news₁ h tk g own2 it2 hj hJ hoff2 hown2 hit2 F' N'=>?_) (fun h' tk' g'' m' news' F' N' hJ=>?_))
  case sm=>exact small_one (by omega) (by omega) (by omega) (by omega)
  case sz=>rw [rangeSize_nat];omega
  ·k_fold
   obtain ⟨rfl,hov2,vs3,n3,rfl,hv3⟩:=hJ
   have hjk:t+1+j < pl_.length:=by omega
   clear hj;obtain ⟨gm2,F2⟩:=fr_form hov2 F'
   simp only [ovF_n,ovF_c] at F2
   rw [show (t:Int)+1+(j:Int) * 1=((t+1+j:Nat):Int) by omega] at F2
   clear F' lF' lN' lR' hov2;have N2:=news_swap N'
   clear N';have hne2:∀ p∈own2 ++ (own ++ news_),p.1≠_:=fun p hp=>by
    rcases List.mem_append.mp hp with h | h
    ·rw [hown2 p h];exact fun e=>hoff2 _ List.mem_cons_self e.symm
    ·exact hne p h
   have hil:(innerL cnt_ pl_.length i t j).length=pl_.length:=by unfold innerL;rw [List.length_set];exact hbl
   have eg:(innerL cnt_ pl_.length i t j).getD ((t+1+j:Nat):Int).toNat 0=cnt_.getD (t+1+j) 0:=by
    rw [Int.toNat_natCast];exact innerL_getD htk (Nat.le_add_right _ _)
   have hcq:0 <= cnt_.getD (t+1+j) 0 /\ cnt_.getD (t+1+j) 0 <= 1000:=by
    rw [List.getD_eq_getElem?_getD,List.getElem?_eq_getElem (by omega)]
    exact hcb _ (List.getElem_mem _)
   have hmul:0 <= (innerL cnt_ pl_.length i t j).getD ((t+1+j:Nat):Int).toNat 0 /\ (innerL cnt_ pl_.length i t j).getD ((t+1+j:Nat):Int).toNat 0 <= 1000:=by rw [eg];exact hcq
   k_steps;dsimp only [StepG]
   (rename Fr _ _ _ _=>kF9);(rename News _ _ _ _=>kN9);rename IntsAre (List.set _ _ _) _=>i7
   have e7:(innerL cnt_ pl_.length i t j).set ((t:Nat):Int).toNat ((innerL cnt_ pl_.length i t j).getD ((t:Nat):Int).toNat 0 - ((t+1+j:Nat):Int).fdiv (t:Int) * (innerL cnt_ pl_.length i t j).getD ((t+1+j:Nat):Int).toNat 0)=innerL cnt_ pl_.length i t (j+1):=by
    rw [eg,Int.toNat_natCast,innerL_at hcl hik h2t]
    exact innerL_set (by rw [innerS_succ,Int.sub_sub])
   rw [e7] at i7
   exact ⟨_,_,_,_,_,rfl,kF9,news_back kN9,fun p hp hq=>by
    rcases List.mem_cons.mp hp with h | h
    ·rw [h] at hq;exact hoff2 _ List.mem_cons_self (List.mem_singleton.mp hq)
    ·exact hoff2 _ (List.mem_cons_of_mem _ h) (List.mem_singleton.mp hq),rfl,ov_self.set (by decide +kernel),_,_,rfl,i7⟩
  ·obtain ⟨rfl,hov2,vs3,n3,rfl,hv3⟩:=hJ
   obtain ⟨gm2,F2⟩:=fr_form0 hov2 F'
   simp only [ovF_n,ovF_c] at F2
   clear F' lF' lN' lR' hov2;k_steps;dsimp only [StepG]
   rw [innerL_last hcl htk h1t] at hv3
   exact ⟨_,_,_,_,_,rfl,by assumption,news_back N',fun p hp hq=>by
    rcases List.mem_cons.mp hp with h | h
    ·rw [h] at hq;exact hoff _ List.mem_cons_self (List.mem_singleton.mp hq)
    ·exact hoff _ (List.mem_cons_of_mem _ h) (List.mem_singleton.mp hq),rfl,((ov_self.set (by decide +kernel)).set (by decide +kernel)),_,_,rfl,hv3⟩
 ·obtain ⟨rfl,hov,vs2,n2,rfl,hv2⟩:=hJ
  obtain ⟨gm,F''⟩:=fr_form0 hov F'
  simp only [ovF_n,ovF_c] at F''
  clear F' lF' lN' lR' hov;have hbl:(backL cnt_ pl_.length (pl_.length - 1)).length=pl_.length:=backL_len hcl (Nat.sub_le _ _)
  k_steps;refine unhalt ?_;(rename Fr _ _ _ _=>lF');(rename News _ _ _ _=>lN');rename IntsAre (List.set _ _ _) _=>i7
  rw [back_first hcl h1 hsum] at i7
  k_dflt (refine' While_inv (n₀:=pl_.length) (BackW _ news_ _ cnt_) lF' lN' ⟨rfl,_,_,rfl,back_start hcl i7,by omega,by rw [List.take_of_length_le (by omega)]⟩ (fun k m₁ news₁ h₁ tk₁ F₁ N₁ hJ=>?_))
  obtain ⟨rfl,vs3,n3,rfl,hv3,hk3,htr⟩:=hJ
  (try clear lF');(try clear lN')
  have hlk:(cnt_.take k).length=k:=by rw [List.length_take];omega
  have hnc:∀ p∈news_,p.1≠_:=fun p hp=>Nat.ne_of_lt (l9 p hp)
  by_cases hk0:k=0
  ·subst hk0
   k_steps;(rename Fr _ _ _ _=>kF9);(rename News _ _ _ _=>kN9);rw [show cnt_.take 0=trimZ cnt_ from by rw [<- htr];rfl] at hv3
   exact hret _ _ _ _ _ _ _ _ _ kF9 (back_led kN9) hv3
  ·k_steps
   ·(rename Fr _ _ _ _=>kF9);(rename News _ _ _ _=>kN9)
    rw [back_nil (by assumption) htr] at hv3
    exact hret _ _ _ _ _ _ _ _ _ kF9 (back_led kN9) hv3
   ·(rename Fr _ _ _ _=>kF9);(rename News _ _ _ _=>kN9)
    obtain ⟨p1,p2,p3⟩:=back_pop hk3 (by assumption) (by assumption) htr
    dsimp only
    k_dflt (refine' kpa_pop kF9 kN9 ?U hv3 ?l ?z (fun h5 t5 F5 N5 i5=>?_))
    case U =>
     (rename _ /\ AllLt _ news_=>l7);exact Upd.tail (Nat.ne_of_gt l7.1) (Upd.head hnc)
    case l=>rw [hv3.length];omega
    case z=>rw [hv3.length,sizeLine_eq];omega
    rw [p2] at i5
    k_steps;exact WhileStep.intro F5 (fun p hp=>N5 p (List.mem_cons_of_mem _ hp)) (show k - 1 < k by omega) ⟨rfl,_,_,rfl,i5,by omega,p3⟩
   ·(rename Fr _ _ _ _=>kF9);(rename News _ _ _ _=>kN9)
    rw [back_keep hk3 (by assumption) (by assumption) htr] at hv3
    exact hret _ _ _ _ _ _ _ _ _ kF9 (back_led kN9) hv3
theorem core:Sc:=seg.2 fun g L h=>pick_all (P:=fun d:Heap×Addr×Heap=>seg.1 d.1 d.2.1 d.2.2) (by with_unfolding_all exact body) (g,L,h)
end e_law_back
theorem law_back :@S_law_back w mean mg mb p loose dp un gd cn cs₀ a ccd cl outer A₀ base h₀ L m s Q E news ps vs pl cnt nl b nt:=@pick_all _ _ e_law_back.Sd (by with_unfolding_all exact e_law_back.core) ((((_,_,_),(_,_),_,_),((_,_),_,_),(_,_),_,_),(((_,_),_,_),(_,_),_,_),((_,_),_,_),(_,_),_,_)
end
end
theorem reg35:True:=by
 w_top off
 k_with "G"=>skip
 k_with "h"=>fail_if_success k_extra "H"
 k_with "ite"=>(k_extra "h";k_here;with_reducible first | refine ite_p (by with_unfolding_all rfl) ?_ | refine ite_n (by with_unfolding_all exact Bool.false_ne_true) ?_)
 k_with "exec If"=>(k_extra "h";k_here;k_dflt (refine wpAny_If ?_))
 k_with "exec For"=>(k_extra "h";k_extra "hg")
 k_with "exec For Name Call cons nil"=>(k_extra "h";k_extra "hg")
 k_with "exec For Name Name cons nil"=>(k_extra "h";k_extra "hg")
 k_with "exec For Name Attribute cons nil"=>(k_extra "h";k_extra "hg")
 trivial
section
noncomputable def pairK (k n:Int):Str×Str:=if k=0 then (("":Str),("":Str)) else if k=1 then pair1 n else if k=2 then pair2 n else pair3 n
structure PC where
 T:Addr
 a:Str
 b:Str
 ta:Tok
 tb:Tok
noncomputable def PC.ent (c:PC):Addr×Obj:=(c.T,tup2 (.str c.a c.ta) (.str c.b c.tb))
noncomputable def secI (v:Int):Int:=if (v.fdiv 6).fmod 4=2 /\ ([0,1,3]:List Int).getD ((v.fdiv 24).fmod 3).toNat 0=1 then 0 else ([0,1,3]:List Int).getD ((v.fdiv 24).fmod 3).toNat 0
noncomputable def sepL:List (Str×Str):=[((" ":Str),(";":Str)),(⟨#[890]⟩,⟨#[59,953]⟩)]
noncomputable def wordL (k:Nat) (v:Int):List (Str×Str):=if v.fmod 6 < 5 then [pairK ((v.fdiv 6).fmod 4) (v.fdiv 144),pairK (secI v) (v.fdiv 150)] ++ (if k < 3 then [sepL.getD ((v.fdiv 72).fmod 2).toNat (("":Str),("":Str))] else []) else []
noncomputable def drawnL (ns:List Int) (k:Nat):List (Str×Str):=((List.range k).map fun k=>wordL k (ns.getD k 0)).flatten
noncomputable abbrev PC.val (c:PC):Value:=.ref c.T
inductive DrawnJ (g₀:Array GenState) (names:List Str) (m₀:Str -> Option Value) (news:List (Addr×Obj)) (pairs:Addr) (f:Nat -> List (Str×Str)) (k:Nat) (m₁:Str -> Option Value) (nw:List (Addr×Obj)) (g:Array GenState):Prop
 | mk (a1:g=g₀) (a2:Ov names m₀ m₁) (ps:List PC) (n:Nat) (rest:List (Addr×Obj)) (a3:nw=(pairs,W.listOf (ps.map PC.val).toArray n)::rest) (a4:∀ p∈news,p∈rest) (a5:∀ q∈rest,q.1≠pairs) (a6:∀ c∈ps,c.ent∈rest) (a7:ps.map (fun c=>(c.a,c.b))=f k)
theorem tup_list {a b:Value} {vs:Array Value} {n:Nat}:(tup2 a b).cls≠(W.listOf vs n).cls:=fun h=>by
 have h':Value.type "tuple"=Value.type "list":=h
 injection h' with h'
 exact absurd h' (by decide)
theorem mod_bnd {v k:Int} (h:0 < k):0 <= v.fmod k /\ v.fmod k < k:=⟨Int.fmod_nonneg_of_pos _ h,Int.fmod_lt_of_pos _ h⟩
theorem div_bnd {v:Int} {k:Int} {b:Int} (h:0 < k) (h0:0 <= v) (h1:v < k * b):0 <= v.fdiv k /\ v.fdiv k < b:=by
 rw [Int.fdiv_eq_ediv_of_nonneg _ (Int.le_of_lt h)]
 exact ⟨Int.ediv_nonneg h0 (Int.le_of_lt h),Int.ediv_lt_of_lt_mul h (by rw [Int.mul_comm];exact h1)⟩
theorem getD_rng3 (k:Nat):0 <= ([0,1,3]:List Int).getD k 0 /\ ([0,1,3]:List Int).getD k 0 <= 3:=by
 match k with
 | 0=>decide
 | 1=>decide
 | 2=>decide
 | k+3=>exact ⟨Int.le_refl _,show (0:Int) <= 3 by decide⟩
theorem sec_pos {v:Int} (h1:(v.fdiv 6).fmod 4=2) (h2:([0,1,3]:List Int).getD ((v.fdiv 24).fmod 3).toNat 0=1):secI v=0:=if_pos ⟨h1,h2⟩
theorem sec_neg1 {v:Int} (h1:(v.fdiv 6).fmod 4≠2):secI v=([0,1,3]:List Int).getD ((v.fdiv 24).fmod 3).toNat 0:=if_neg fun h=>h1 h.1
theorem sec_neg2 {v:Int} (h1:([0,1,3]:List Int).getD ((v.fdiv 24).fmod 3).toNat 0≠1):secI v=([0,1,3]:List Int).getD ((v.fdiv 24).fmod 3).toNat 0:=if_neg fun h=>h1 h.2
theorem drawnL_succ (ns:List Int) (k:Nat):drawnL ns (k+1)=drawnL ns k ++ wordL k (ns.getD k 0):=by
 unfold drawnL
 rw [List.range_succ,List.map_append,List.flatten_append]
 simp
theorem wordL_len (k:Nat) (v:Int):(wordL k v).length <= 3:=by
 unfold wordL
 split
 ·split<;>simp
 ·simp
theorem drawnL_len (ns:List Int):∀ k,(drawnL ns k).length <= 3 * k
 | 0=>Nat.le_refl _
 | k+1=>by
  rw [drawnL_succ,List.length_append]
  have h1:=drawnL_len ns k
  have h2:=wordL_len k (ns.getD k 0)
  omega
theorem drawn_step {h₀ h:Heap} {L pairs it:Addr} {g₀:Array GenState} {names:List Str} {m₀ m₂:Str -> Option Value} {news own rest led:List (Addr×Obj)} {ns:List Int} {i n n':Nat} {ps new:List PC} {vs:List Value}
  (N:News h₀ L h led) (F:Fr h₀ L h m₂) (ho:Ov names m₀ m₂) (hm:(pairs,W.listOf vs.toArray n')∈led) (hown:∀ p∈own ++ rest,p∈led) (hsub:∀ p∈news,p∈rest) (hrest:∀ q∈rest,q.1≠pairs)
  (hoff:∀ p∈(pairs,W.listOf (ps.map PC.val).toArray n)::rest,p.1≠it) (hit:∃ o,(it,o)∈own /\ o.cls≠.type "tuple") (hent:∀ c∈ps,c.ent∈rest) (hps:ps.map (fun c=>(c.a,c.b))=drawnL ns i)
  (hnew:∀ c∈new,c.ent∈led) (hvs:vs=(ps ++ new).map PC.val) (hw:new.map (fun c=>(c.a,c.b))=wordL i (ns.getD i 0)) :
  ∃ m₂ news₂,Fr h₀ L h m₂ /\ News h₀ L h (own ++ news₂) /\ (∀ p∈news₂,p.1∉[it]) /\ DrawnJ g₀ names m₀ news pairs (drawnL ns) (i+1) m₂ news₂ g₀:=by
 have hnp:∀ c∈new,@Ne Nat c.T pairs:=fun c hc=>ne_objs N (hnew c hc) hm tup_list
 obtain ⟨oi,hoi,hoc⟩:=hit
 have hni:∀ c∈new,@Ne Nat c.T it:=fun c hc=>ne_objs N (hnew c hc) (hown _ (List.mem_append_left _ hoi)) (fun e=>hoc e.symm)
 refine ⟨m₂,(pairs,W.listOf vs.toArray n')::(new.map PC.ent ++ rest),F,fun p hp=>N p ?_,fun p hp hq=>?_,rfl,ho,ps ++ new,n',new.map PC.ent ++ rest,by rw [hvs],fun p hp=>List.mem_append_right _ (hsub p hp),fun q hq=>?_,fun c hc=>?_,by rw [List.map_append,hps,hw,drawnL_succ]⟩
 ·rcases List.mem_append.mp hp with h | h
  ·exact hown p (List.mem_append_left _ h)
  ·rcases List.mem_cons.mp h with h | h
   ·rw [h];exact hm
   ·rcases List.mem_append.mp h with h | h
    ·obtain ⟨c,hc,rfl⟩:=List.mem_map.mp h
     exact hnew c hc
    ·exact hown p (List.mem_append_right _ h)
 ·have hq:=List.mem_singleton.mp hq
  rcases List.mem_cons.mp hp with h | h
  ·rw [h] at hq;exact hoff _ List.mem_cons_self hq
  ·rcases List.mem_append.mp h with h | h
   ·obtain ⟨c,hc,rfl⟩:=List.mem_map.mp h
    exact hni c hc hq
   ·exact hoff _ (List.mem_cons_of_mem _ h) hq
 ·rcases List.mem_append.mp hq with h | h
  ·obtain ⟨c,hc,rfl⟩:=List.mem_map.mp h
   exact hnp c hc
  ·exact hrest q h
 ·rcases List.mem_append.mp hc with h | h
  ·exact List.mem_append_right _ (hent c h)
  ·exact List.mem_append_left _ (List.mem_map.mpr ⟨c,h,rfl⟩)
theorem word_none {i:Nat} {v:Int} (h:¬ v.fmod 6 < 5):([]:List PC).map (fun c=>(c.a,c.b))=wordL i v:=by
 unfold wordL;rw [if_neg h];rfl
theorem word_two {i:Nat} {v:Int} {c1 c2:PC} (h:v.fmod 6 < 5) (hi:¬ ((i:Nat):Int) < 3) (h1:(c1.a,c1.b)=pairK ((v.fdiv 6).fmod 4) (v.fdiv 144)) (h2:(c2.a,c2.b)=pairK (secI v) (v.fdiv 150)):[c1,c2].map (fun c=>(c.a,c.b))=wordL i v:=by
 unfold wordL
 rw [if_pos h,if_neg (by omega),List.map_cons,List.map_cons,h1,h2];rfl
theorem word_three {i:Nat} {v:Int} {c1 c2 c3:PC} (h:v.fmod 6 < 5) (hi:((i:Nat):Int) < 3) (h1:(c1.a,c1.b)=pairK ((v.fdiv 6).fmod 4) (v.fdiv 144)) (h2:(c2.a,c2.b)=pairK (secI v) (v.fdiv 150)) (h3:(c3.a,c3.b)=sepL.getD ((v.fdiv 72).fmod 2).toNat (("":Str),("":Str))):[c1,c2,c3].map (fun c=>(c.a,c.b))=wordL i v:=by
 unfold wordL
 rw [if_pos h,if_pos (by omega),List.map_cons,List.map_cons,List.map_cons,h1,h2,h3];rfl
theorem news_keep {h₀ h:Heap} {L:Addr} {led:List (Addr×Obj)} {x:Addr×Obj} (N:News h₀ L h led) (hm:x∈led):x∈led:=hm
theorem two_in {led:List (Addr×Obj)} {c1 c2:PC} (h1:(c1.T,tup2 (.str c1.a c1.ta) (.str c1.b c1.tb))∈led) (h2:(c2.T,tup2 (.str c2.a c2.ta) (.str c2.b c2.tb))∈led):∀ c∈[c1,c2],c.ent∈led:=fun c hc=>by
 rcases List.mem_cons.mp hc with rfl | hc
 ·exact h1
 ·rw [List.mem_singleton.mp hc];exact h2
theorem three_in {led:List (Addr×Obj)} {c1 c2 c3:PC} (h1:(c1.T,tup2 (.str c1.a c1.ta) (.str c1.b c1.tb))∈led) (h2:(c2.T,tup2 (.str c2.a c2.ta) (.str c2.b c2.tb))∈led) (h3:(c3.T,tup2 (.str c3.a c3.ta) (.str c3.b c3.tb))∈led):∀ c∈[c1,c2,c3],c.ent∈led:=fun c hc=>by
 rcases List.mem_cons.mp hc with rfl | hc
 ·exact h1
 ·exact two_in h2 h3 c hc
noncomputable def Small (p:Str×Str):Prop:=p.1.length <= 4 /\ p.2.length <= 4
theorem getD_all {α:Type} {P:α -> Prop} {l:List α} {d:α} (h:∀ x∈l,P x) (hd:P d) (k:Nat):P (l.getD k d):=by
 rw [List.getD_eq_getElem?_getD]
 cases e:l[k]? with
 | none=>exact hd
 | some c=>exact h c (List.mem_of_getElem? e)
theorem pairK_small (k n:Int):Small (pairK k n):=by
 unfold pairK
 split
 ·exact ⟨Nat.zero_le _,Nat.zero_le _⟩
 ·split
  ·unfold pair1
   split<;>exact ⟨Nat.le_of_ble_eq_true rfl,Nat.le_of_ble_eq_true rfl⟩
  ·split
   ·refine getD_all (P:=Small) (fun x hx=>?_) ⟨Nat.zero_le _,Nat.zero_le _⟩ _
    have:severalL.all (fun p=>decide (p.1.length <= 4) && decide (p.2.length <= 4))=true:=by decide +kernel
    have:=List.all_eq_true.mp this x hx
    simp only [Bool.and_eq_true,decide_eq_true_eq] at this
    exact this
   ·unfold pair3
    refine ⟨?_,Nat.zero_le _⟩
    show Str.length (if n.fmod 27 < 11 then _ else _) <= 4
    split<;>exact Nat.le_of_ble_eq_true rfl
theorem wordL_small (k:Nat) (v:Int):∀ p∈wordL k v,Small p:=by
 intro p hp;unfold wordL at hp
 split at hp
 ·simp only [List.mem_append,List.mem_cons,List.not_mem_nil,or_false] at hp
  rcases hp with (rfl | rfl) | hp
  ·exact pairK_small _ _
  ·exact pairK_small _ _
  ·split at hp
   ·rw [List.mem_singleton.mp hp]
    refine getD_all (P:=Small) (fun x hx=>?_) ⟨Nat.zero_le _,Nat.zero_le _⟩ _
    have:sepL.all (fun p=>decide (p.1.length <= 4) && decide (p.2.length <= 4))=true:=by decide +kernel
    have:=List.all_eq_true.mp this x hx
    simp only [Bool.and_eq_true,decide_eq_true_eq] at this
    exact this
   ·cases hp
 ·cases hp
theorem drawnL_small (ns:List Int) (k:Nat):∀ p∈drawnL ns k,Small p:=by
 intro p hp;obtain ⟨l,hl,hp⟩:=List.mem_flatten.mp hp
 obtain ⟨j,_,rfl⟩:=List.mem_map.mp hl
 exact wordL_small _ _ p hp
theorem sum_four {α:Type} (f:α -> Str):∀ l:List α,(∀ x∈l,(f x).length <= 4) -> ((l.map f).map (·.length)).sum <= 4 * l.length
 | [],_=>Nat.le_refl _
 | a::l,h=>by
  rw [List.map_cons,List.map_cons,List.sum_cons,List.length_cons]
  have h1:=h a List.mem_cons_self
  have h2:=sum_four f l fun x hx=>h x (List.mem_cons_of_mem _ hx)
  omega
theorem drawn_fits {ns:List Int} {f:Str×Str -> Str} (h:∀ p,Small p -> (f p).length <= 4):(((drawnL ns 4).map f).map (·.length)).sum+((drawnL ns 4).map f).length <= 1048576:=by
 have h1:=sum_four f (drawnL ns 4) fun p hp=>h p (drawnL_small ns 4 p hp)
 have h2:=drawnL_len ns 4
 rw [List.length_map]
 omega
theorem sec_bnd (v:Int):0 <= secI v /\ secI v <= 3:=by
 have h:=getD_rng3 ((v.fdiv 24).fmod 3).toNat
 unfold secI
 split<;>omega
section
variable
 {news:List (Addr×Obj)} {n k:Int} {t1 t2:Tok}
variable (B:Below A₀ base outer h₀) (F:Fr h₀ L s.heap m) (X:(KK w.params).In h₀) (T:Top p loose mean mg mb h₀) (hk:cs₀.kind=.function) (hd:dp+40 < recursionLimit) (hu:un+250 < cLine)
 (N:News h₀ L s.heap news)
include B F X T hk hd hu N
theorem pair_any (hk0:0 <= k) (hk3:k <= 3) (h1:0 <= n) (h2:n <= 10000) (hret:∀ (c:PC) (h':Heap) (tk':Nat),(c.a,c.b)=pairK k n -> Fr h₀ L h' m -> News h₀ L h' ((c.T,tup2 (.str c.a c.ta) (.str c.b c.tb))::news) -> Q (.ref c.T) { s with heap:=h',toks:=tk' }) :
  wpAny (model rw_rw0127_01.row.prog w) (ktrTop dp un gd cn cs₀ L a ccd cl outer) (call (.ref 326) [.int k t1,.int n t2]) Q E s:=by
 have key:∀ (T:Addr) (ta tb:Tok) (h':Heap) (tk':Nat),Fr h₀ L h' m -> News h₀ L h' ((T,tup2 (.str (pairK k n).1 ta) (.str (pairK k n).2 tb))::news) -> Q (.ref T) { s with heap:=h',toks:=tk' } :=
  fun T ta tb h' tk' F' N'=>hret ⟨T,(pairK k n).1,(pairK k n).2,ta,tb⟩ h' tk' rfl F' N'
 have hc:k=0 \/ k=1 \/ k=2 \/ k=3:=by omega
 rcases hc with rfl | rfl | rfl | rfl
 ·exact pair_0 B F X T hk hd hu N key
 ·exact pair_1 B F X T hk hd hu N h1 h2 key
 ·exact pair_2 B F X T hk hd hu N h1 h2 key
 ·exact pair_3 B F X T hk hd hu N h1 h2 key
end
local macro_rules | `(tactic| k_ne)=>`(tactic| k_extra "k_ne6")
theorem reg36:True:=by
 w_top off
 k_with "call ref"=>(k_extra "h";k_here;k_dflt (refine' pair_any ?B ?F ?X ?T ?hk ?hd ?hu ?N ?h0 ?h3 ?h1 ?h2 ?_;k_extra "cB";(case hu=>k_extra "hu");(case N=>k_asm);(case h0=>omega);(case h3=>omega);(case h1=>omega);(case h2=>omega);k_whole);intro c'z h'z tk'z e'z F'z N'z;(try dsimp only))
 k_with "call builtin:list.append"=>(k_extra "h";k_here;k_dflt (refine' lst_appendV ?F ?N ?U ?z ?_;(case F=>k_asm);(case N=>k_asm);(case U=>k_updF);(case z=>first | assumption | (simp only [List.length_append,List.length_map,List.length_cons,List.length_nil];omega));k_whole);intro h'z F'z N'z;(try dsimp only at N'z);(try k_sweep);(try dsimp only))
 k_with "eval ListComp"=>(k_extra "h";k_here;k_dflt (refine LCg.ListComp_U (F₀:=by k_asm) (by with_unfolding_all rfl) (by decide) (by rfl) (by decide) (by rfl) ?_))
 k_with "CompSrc"=>(k_extra "h";k_extra "hg")
 trivial
theorem src_at {h₀:Heap} {ax:Addr} {vs:Array Value} {n:Nat} {led:List (Addr×Obj)} (hm:(ax,W.listOf vs n)∈led):LCg.SrcAt h₀ ax vs led:=.inr ⟨_,hm,rfl,_,rfl⟩
theorem pcs_at {ps:List PC}:∀ i v,i < ps.length -> (ps.map PC.val).toArray[i]?=some v -> ∃ c,ps[i]?=some c /\ v=c.val:=by
 intro i v hi h;rw [List.getElem?_toArray,List.getElem?_map,List.getElem?_eq_getElem hi] at h
 exact ⟨ps[i],List.getElem?_eq_getElem hi,(Option.some.inj h).symm⟩

theorem reg37:True:=by
 w_top off
 k_with "eval IfExp"=>(k_extra "h";k_extra "hg")
 k_with "subscriptTail"=>(k_extra "h";k_here;(with_reducible show wpAny _ _ (subscriptTail (Expr.List (Expr.Tuple _ _ _::_) _) _ _ _) _ _ _);with_reducible refine Halt.go ?_)
 trivial
section
variable
 {news:List (Addr×Obj)} {nb:Addr} {vs:List Value} {ns:List Int} {nl:Nat}
variable (B:Below A₀ base outer h₀) (F:Fr h₀ L s.heap m) (X:(KK w.params).In h₀) (T:Top p loose mean mg mb h₀) (hk:cs₀.kind=.function) (hd:dp+60 < recursionLimit) (hu:un+350 < cLine)
 (N:News h₀ L s.heap news)
noncomputable def S_law_drawn :Prop:=∀ (B:Below A₀ base outer h₀) (F:Fr h₀ L s.heap m) (X:(KK w.params).In h₀) (T:Top p loose mean mg mb h₀) (hk:cs₀.kind=.function) (hd:dp+60 < recursionLimit) (hu:un+350 < cLine) (N:News h₀ L s.heap news) (hp:(nb,W.listOf vs.toArray nl)∈news) (hi:IntsAre vs ns) (hl:ns.length=4) (hns:∀ z∈ns,0 <= z /\ z < 1000000) (hret:∀ (T:Addr) (ta tb:Tok) (h':Heap) (tk':Nat),Fr h₀ L h' m -> News h₀ L h' ((T,tup2 (.str (Txt.join ("":Str) ((drawnL ns 4).map (·.1))) ta) (.str (Txt.join ("":Str) ((drawnL ns 4).map (·.2))) tb))::news) -> Q (.ref T) { s with heap:=h',toks:=tk' }),wpAny (model rw_rw0127_01.row.prog w) (ktrTop dp un gd cn cs₀ L a ccd cl outer) (call (.ref 331) [.ref nb]) Q E s
namespace e_law_drawn
noncomputable abbrev Sd:=fun z:((((_×_×_)×(_×_)×_×_)×(_×_×_)×(_×_)×_×_)×((_×_×_)×(_×_)×_×_)×(_×_×_)×(_×_)×_×_)=>@S_law_drawn z.1.1.1.1 z.1.1.1.2.1 z.1.1.1.2.2 z.1.1.2.1.1 z.1.1.2.1.2 z.1.1.2.2.1 z.1.1.2.2.2 z.1.2.1.1 z.1.2.1.2.1 z.1.2.1.2.2 z.1.2.2.1.1 z.1.2.2.1.2 z.1.2.2.2.1 z.1.2.2.2.2 z.2.1.1.1 z.2.1.1.2.1 z.2.1.1.2.2 z.2.1.2.1.1 z.2.1.2.1.2 z.2.1.2.2.1 z.2.1.2.2.2 z.2.2.1.1 z.2.2.1.2.1 z.2.2.1.2.2 z.2.2.2.1.1 z.2.2.2.1.2 z.2.2.2.2.1 z.2.2.2.2.2
@[irreducible] def κ:=pick (by k_extra "ne") Sd
def ns_:=κ.2.2.2.2.1
def nl_:=κ.2.2.2.2.2
noncomputable abbrev Sc:=@S_law_drawn κ.1.1.1.1 κ.1.1.1.2.1 κ.1.1.1.2.2 κ.1.1.2.1.1 κ.1.1.2.1.2 κ.1.1.2.2.1 κ.1.1.2.2.2 κ.1.2.1.1 κ.1.2.1.2.1 κ.1.2.1.2.2 κ.1.2.2.1.1 κ.1.2.2.1.2 κ.1.2.2.2.1 κ.1.2.2.2.2 κ.2.1.1.1 κ.2.1.1.2.1 κ.2.1.1.2.2 κ.2.1.2.1.1 κ.2.1.2.1.2 κ.2.1.2.2.1 κ.2.1.2.2.2 κ.2.2.1.1 κ.2.2.1.2.1 κ.2.2.1.2.2 κ.2.2.2.1.1 κ.2.2.2.1.2 ns_ nl_
omit B F X T hk hd hu N in
noncomputable def seg:PSigma fun P:Heap -> Addr -> Heap -> Prop=>(∀ g L h,P g L h) -> Sc:=⟨_,by
 intro hP;unfold Sc S_law_drawn
 intro B F X T hk hd hu N hp hi hl hns hret;revert X;k_fill;intro X;refine wpAny_call ?_;(k_extra "eD";intro g' L' h' FG' F' N' B' X' T';revert B F T hk hd hu N hp hi hl hns hret X FG' F' N' B' X' T';exact hP g' L' h')⟩
@[irreducible] def σ:=pick (inferInstance:Nonempty (Heap×Addr×Heap)) fun d=>seg.1 d.1 d.2.1 d.2.2
omit B F X T hk hd hu N in
noncomputable def seg_A:PSigma fun P:Addr -> Heap -> Heap -> Nat -> Tok -> Nat -> Heap -> Nat -> Tok -> Tok -> Tok -> Nat -> Tok -> (Str -> Option Value) -> Heap -> Nat -> (List (Addr×Obj)) -> Addr -> List PC -> Nat -> (List (Addr×Obj)) -> (Str -> Option Value) -> Prop=>(∀ a b c d e f g h i j k l m n o p q r s t u v,P a b c d e f g h i j k l m n o p q r s t u v) -> seg.1 σ.1 σ.2.1 σ.2.2:=⟨_,by
 intro hP;intro B F T hk hd hu N hp hi hl hns hret X FG' F' N' B' X' T';(k_extra "tl")
 k_steps;refine unhalt ?_;k_dflt (refine' For_G σ.1 ?k1 ?k2 ?_;(case k1=>exact rfl);(case k2=>exact rfl))
 k_steps;(rename Fr _ _ _ _=>lF');(rename News _ _ _ _=>lN');(rename IsRange _ _ _ _ _ _ _ _=>lR');rename ∀ p:Addr×Obj,p∈κ.2.2.1.2.2 -> p.1 < _=>l9
 k_dflt (refine' rangeG2 (n:=4) rfl lR' ?sm ?sz lF' lN' (DrawnJ κ.2.1.2.2.2.gens ["k","v","first","second"] _ κ.2.2.1.2.2 _ (drawnL ns_)) ⟨rfl,Ov.refl,[],0,κ.2.2.1.2.2,rfl,fun _ h=>h,fun q hq=>Nat.ne_of_lt (l9 q hq),(fun c hc=>nomatch hc),rfl⟩ (fun i u m₁ news₁ h tk g own it hi hJ hoff hown hit F' N'=>?_) (fun h' tk' g'' m' news' F' N' hJ=>?_))
 case sm=>decide +kernel
 case sz=>decide +kernel
 ·obtain ⟨rfl,hov,ps,n,rest,rfl,hsub,hrest,hent,hps⟩:=hJ
  obtain ⟨gm,F''⟩:=fr_form hov F'
  simp only [ovF_n,ovF_c] at F''
  rw [show (0:Int)+(i:Int) * 1=(i:Nat) by omega] at F''
  clear F' lF' lN' lR' hov;have N'':=news_swap N'
  clear N';have hne:∀ p∈own ++ rest,p.1≠_:=fun p hp=>by
   rcases List.mem_append.mp hp with h | h
   ·rw [hown p h];exact fun e=>hoff _ List.mem_cons_self e.symm
   ·exact hrest p h
  have hnb:(κ.2.2.2.1.1,W.listOf κ.2.2.2.1.2.toArray nl_)∈own ++ rest:=List.mem_append_right _ (hsub _ hp)
  have hil:((i:Nat):Int).toNat < ns_.length:=by omega
  have hv:0 <= ns_.getD ((i:Nat):Int).toNat 0 /\ ns_.getD ((i:Nat):Int).toNat 0 < 1000000:=by
   rw [List.getD_eq_getElem?_getD,List.getElem?_eq_getElem hil]
   exact hns _ (List.getElem_mem hil)
  have hpl:ps.length <= 900:=by
   have e1:=congrArg List.length hps
   rw [List.length_map] at e1
   have e2:=drawnL_len ns_ i
   omega
  have b1:=mod_bnd (v:=(ns_.getD ((i:Nat):Int).toNat 0).fdiv 6) (k:=4) (by decide)
  have b2:=mod_bnd (v:=(ns_.getD ((i:Nat):Int).toNat 0).fdiv 72) (k:=2) (by decide)
  have b3:=div_bnd (b:=10000) (k:=144) (by decide) hv.1 (by omega)
  have b4:=div_bnd (b:=10000) (k:=150) (by decide) hv.1 (by omega)
  have b5:=sec_bnd (ns_.getD ((i:Nat):Int).toNat 0)
  rename_i x8_A x19_A x20_A x22_A x23_A x24_A x25_A x26_A x27_A x28_A x29_A x30_A x31_A x32_A x33_A;revert B F T hk hd hu N hp x8_A hl hns hret X FG' B' X' T' qk ek l9 x23_A x24_A x33_A hi hown hit hsub hrest hent hps hoff F'' N'' hne hnb hil hv hpl b1 b2 b3 b4 b5
  exact hP x19_A x20_A x22_A x25_A x26_A x27_A x28_A x29_A x30_A x31_A x32_A i u m₁ h tk own it ps n rest gm
 ·obtain ⟨rfl,hov,ps,n,rest,rfl,hsub,hrest,hent,hps⟩:=hJ
  obtain ⟨gm,F''⟩:=fr_form0 hov F'
  simp only [ovF_n,ovF_c] at F''
  clear F' lF' lN' lR' hov;k_steps;refine unhalt ?_;(rename Fr _ _ _ _=>lF');(rename News _ _ _ _=>lN');have hpl:ps.length <= 900:=by
   have e1:=congrArg List.length hps
   rw [List.length_map] at e1
   have e2:=drawnL_len ns_ 4
   omega
  k_dflt (refine' LCg.CompSrc.ledger rfl lF' lN' ?hm ?z (fun g=>rest_pure (l:=ps) (fun c v=>v=c.val) (IsText PC.a) (by simp) (fun i v hi hv=>pcs_at i v (by simpa using hi) hv) ?turn ?fin);(case hm=>k_mem);(case z=>simp [sizeLine_eq];omega))
  case turn =>
   rintro c v I oI C oC D m₂ ys h tk E' hc rfl hC hx F' N' off ne
   (try clear lF');(try clear lN')
   have hcm:=hent c hc
   k_steps;exact (ce_mk (by assumption) (by assumption) off (src_at (by k_mem)) ⟨rfl,_,rfl⟩)
  case fin =>
   intro ys hp;have hs:=strs_paired hp
   have e1:ps.map PC.a=(drawnL ns_ 4).map (·.1):=by rw [<- hps,List.map_map];rfl
   have e2:ps.map PC.b=(drawnL ns_ 4).map (·.2):=by rw [<- hps,List.map_map];rfl
   rw [e1] at hs
   (try clear lF');(try clear lN')
   k_steps;(rename Fr _ _ _ _=>lF');(rename News _ _ _ _=>lN');k_dflt (refine' join_listW (ys:=(drawnL ns_ 4).map (·.1)) (items:=ys.toArray) (list_in lN' ?hm) ?hi ?hs ?hz (fun t' k'=>?_);(case hm=>k_mem);(case hi=>simpa using hs);(case hs=>decide +kernel);(case hz=>exact drawn_fits fun p h=>h.1))
   k_steps;refine unhalt ?_;(rename Fr _ _ _ _=>lF');(rename News _ _ _ _=>lN');k_dflt (refine' LCg.CompSrc.ledger rfl lF' lN' ?hm ?z (fun g=>rest_pure (l:=ps) (fun c v=>v=c.val) (IsText PC.b) (by simp) (fun i v hi hv=>pcs_at i v (by simpa using hi) hv) ?turn ?fin);(case hm=>k_mem);(case z=>simp [sizeLine_eq];omega))
   case turn =>
    rintro c v I oI C oC D m₂ ys h tk E' hc rfl hC hx F' N' off ne
    (try clear lF');(try clear lN')
    have hcm:=hent c hc
    k_steps;exact (ce_mk (by assumption) (by assumption) off (src_at (by k_mem)) ⟨rfl,_,rfl⟩)
   case fin =>
    intro ys2 hp2;have hs2:=strs_paired hp2
    rw [e2] at hs2
    (try clear lF');(try clear lN')
    k_steps;(rename Fr _ _ _ _=>lF');(rename News _ _ _ _=>lN');k_dflt (refine' join_listW (ys:=(drawnL ns_ 4).map (·.2)) (items:=ys2.toArray) (list_in lN' ?hm) ?hi ?hs ?hz (fun t' k'=>?_);(case hm=>k_mem);(case hi=>simpa using hs2);(case hs=>decide +kernel);(case hz=>exact drawn_fits fun p h=>h.2))
    k_steps;(rename Fr _ _ _ _=>kF9);(rename News _ _ _ _=>kN9);exact hret _ _ _ _ _ kF9 (fun p hp=>kN9 p (by
     rcases List.mem_cons.mp hp with e | e
     ·exact List.mem_cons.mpr (.inl e)
     ·simp only [List.mem_cons];simp [hsub p e]))⟩
noncomputable abbrev SA:=fun z:((((Addr×Heap)×Heap×Nat×Tok)×(Nat×Heap×Nat)×Tok×Tok×Tok)×((Nat×Tok)×(Str -> Option Value)×Heap×Nat)×((List (Addr×Obj))×Addr×List PC)×Nat×(List (Addr×Obj))×(Str -> Option Value))=>seg_A.1 z.1.1.1.1 z.1.1.1.2 z.1.1.2.1 z.1.1.2.2.1 z.1.1.2.2.2 z.1.2.1.1 z.1.2.1.2.1 z.1.2.1.2.2 z.1.2.2.1 z.1.2.2.2.1 z.1.2.2.2.2 z.2.1.1.1 z.2.1.1.2 z.2.1.2.1 z.2.1.2.2.1 z.2.1.2.2.2 z.2.2.1.1 z.2.2.1.2.1 z.2.2.1.2.2 z.2.2.2.1 z.2.2.2.2.1 z.2.2.2.2.2
@[irreducible] def σA:=pick (by k_extra "ne") SA
def i_A:=σA.2.1.1.1
def h_A:=σA.2.1.2.2.1
theorem body_A:seg_A.1 σA.1.1.1.1 σA.1.1.1.2 σA.1.1.2.1 σA.1.1.2.2.1 σA.1.1.2.2.2 σA.1.2.1.1 σA.1.2.1.2.1 σA.1.2.1.2.2 σA.1.2.2.1 σA.1.2.2.2.1 σA.1.2.2.2.2 i_A σA.2.1.1.2 σA.2.1.2.1 h_A σA.2.1.2.2.2 σA.2.2.1.1 σA.2.2.1.2.1 σA.2.2.1.2.2 σA.2.2.2.1 σA.2.2.2.2.1 σA.2.2.2.2.2:=by
  intro B F T hk hd hu N hp x8_A hl hns hret X FG' B' X' T' qk ek l9 x23_A x24_A x33_A hi hown hit hsub hrest hent hps hoff F'' N'' hne hnb hil hv hpl b1 b2 b3 b4 b5;k_steps
  ·refine unhalt ?_
   k_dflt (refine join_int (secI (ns_.getD ((i_A:Nat):Int).toNat 0)) ?_ (fun u' tk'=>?_))
   ·k_dflt (refine wpAny_IfExp ?_)
    k_steps
    ·exact ⟨_,_,congrArg (Value.int · _) (sec_pos (by assumption) (by assumption)).symm,rfl⟩
    ·exact ⟨_,_,congrArg (Value.int · _) (sec_neg2 (by assumption)).symm,rfl⟩
    ·exact ⟨_,_,congrArg (Value.int · _) (sec_neg1 (by assumption)).symm,rfl⟩
   ·k_steps
    ·refine unhalt ?_
     (rename Fr _ _ _ _=>lF');(rename News _ _ _ _=>lN');k_dflt (refine' item_pick (fun nw v=>∃ c:PC,v=.ref c.T /\ (c.T,tup2 (.str c.a c.ta) (.str c.b c.tb))∈nw /\ (c.a,c.b)=sepL.getD (((ns_.getD ((i_A:Nat):Int).toNat 0).fdiv 72).fmod 2).toNat (("":Str),("":Str))) lN' ?hm b2.1 ?hk ?hP ?_;(case hm=>k_mem);(case hk=>omega))
     case hP =>
      have hc:((ns_.getD ((i_A:Nat):Int).toNat 0).fdiv 72).fmod 2=0 \/ ((ns_.getD ((i_A:Nat):Int).toNat 0).fdiv 72).fmod 2=1:=by omega
      rcases hc with e | e<;>(rw [e];exact ⟨_,rfl,⟨_,_,_,_,_⟩,rfl,by k_mem,rfl⟩)
     rintro v ⟨c3,rfl,hm3,he3⟩
     k_steps;(rename Fr _ _ _ _=>kF9);(rename News _ _ _ _=>kN9);dsimp only [StepG]
     have w3:=word_three (i:=i_A) (v:=ns_.getD ((i_A:Nat):Int).toNat 0) (by assumption) (by assumption) (by assumption) (by assumption) he3
     have hm4:=news_keep kN9 (x:=(c3.T,tup2 (.str c3.a c3.ta) (.str c3.b c3.tb))) (by
      simp only [List.mem_cons] at hm3
      rcases hm3 with h_A | h_A | h_A | h_A | h_A | h_A | h_A | h_A<;>first | exact absurd (congrArg (fun p:Addr×Obj=>p.2.cls) h_A) tup_list | (rw [h_A];k_mem) | (simp only [List.mem_cons];simp [h_A]))
     obtain ⟨m9,nw9,f1,f2,f3,f4⟩:=drawn_step (names:=["k","v","first","second"]) (g₀:=κ.2.1.2.2.2.gens) kN9 kF9 ((((ov_self.set (by decide +kernel)).set (by decide +kernel)).set (by decide +kernel)).set (by decide +kernel)) (by k_mem) (fun p hp=>by simp only [List.mem_cons];simp [hp]) hsub hrest hoff hit hent hps (three_in (by k_mem) (by k_mem) hm4) (by simp) w3
     exact ⟨_,_,_,_,_,rfl,f1,f2,f3,f4⟩
    ·(rename Fr _ _ _ _=>lF');(rename News _ _ _ _=>lN')
     dsimp only [StepG]
     have w2:=word_two (i:=i_A) (v:=ns_.getD ((i_A:Nat):Int).toNat 0) (by assumption) (by assumption) (by assumption) (by assumption)
     obtain ⟨m9,nw9,f1,f2,f3,f4⟩:=drawn_step (names:=["k","v","first","second"]) (g₀:=κ.2.1.2.2.2.gens) lN' lF' ((((ov_self.set (by decide +kernel)).set (by decide +kernel)).set (by decide +kernel)).set (by decide +kernel)) (by k_mem) (fun p hp=>by simp only [List.mem_cons];simp [hp]) hsub hrest hoff hit hent hps (two_in (by k_mem) (by k_mem)) (by simp) w2
     exact ⟨_,_,_,_,_,rfl,f1,f2,f3,f4⟩
  ·(rename Fr _ _ _ _=>lF');(rename News _ _ _ _=>lN')
   dsimp only [StepG]
   obtain ⟨m9,nw9,f1,f2,f3,f4⟩:=drawn_step (new:=[]) (names:=["k","v","first","second"]) (g₀:=κ.2.1.2.2.2.gens) lN' lF' ((ov_self.set (by decide +kernel)).set (by decide +kernel)) (by k_mem) (fun p hp=>by simp only [List.mem_cons];simp [hp]) hsub hrest hoff hit hent hps (fun c hc=>nomatch hc) (by simp) (word_none (by assumption))
   exact ⟨_,_,_,_,_,rfl,f1,f2,f3,f4⟩
theorem body:seg.1 σ.1 σ.2.1 σ.2.2:=seg_A.2 fun a b c d e f g h i j k l m n o p q r s t u v=>pick_all (P:=SA) (by with_unfolding_all exact body_A) ((((a,b),c,d,e),(f,g,h),i,j,k),((l,m),n,o,p),(q,r,s),t,u,v)
theorem core:Sc:=seg.2 fun g L h=>pick_all (P:=fun d:Heap×Addr×Heap=>seg.1 d.1 d.2.1 d.2.2) (by with_unfolding_all exact body) (g,L,h)
end e_law_drawn
theorem law_drawn :@S_law_drawn w mean mg mb p loose dp un gd cn cs₀ a ccd cl outer A₀ base h₀ L m s Q E news nb vs ns nl:=@pick_all _ _ e_law_drawn.Sd (by with_unfolding_all exact e_law_drawn.core) ((((_,_,_),(_,_),_,_),(_,_,_),(_,_),_,_),((_,_,_),(_,_),_,_),(_,_,_),(_,_),_,_)
end
end
theorem reg38:True:=by
 w_top off
 k_with "H"=>skip
 k_with "i"=>fail_if_success k_extra "I"
 k_with "ite"=>(k_extra "i";k_here;with_reducible first | refine ite_p (by with_unfolding_all rfl) ?_ | refine ite_n (by with_unfolding_all exact Bool.false_ne_true) ?_)
 k_with "exec If"=>(k_extra "i";k_here;k_dflt (refine wpAny_If ?_))
 k_with "eval Constant int"=>(k_extra "i";k_here;(with_reducible refine cintL fun _ _=>?_))
 k_with "binaryOp Add int int"=>(k_extra "i";k_here;(with_reducible refine addL fun _ _=>?_))
 k_with "binaryOp Sub int int"=>(k_extra "i";k_here;(with_reducible refine subL fun _ _=>?_))
 k_with "exec For"=>(k_extra "i";k_extra "hg")
 k_with "exec For Name Call cons nil"=>(k_extra "i";k_extra "hg")
 k_with "exec For Name Name cons nil"=>(k_extra "i";k_extra "hg")
 k_with "exec For Name Attribute cons nil"=>(k_extra "i";k_extra "hg")
 trivial
section
local macro_rules | `(tactic| k_ne)=>`(tactic| k_extra "k_ne4")
inductive WIs (P:Params) (news:List (Addr×Obj)) (ws:Addr) (cs:List Int) (b n nt:Nat):Prop
 | mk (wd nm ct:Addr) (vs:List Value) (t:WTok) (tb:Tok) (raw:Str) (a1:(nm,tup2 (.ref ct) (.int (b:Nat) tb))∈news) (a2:(ct,tupOf vs)∈news) (a3:(ws,instObj 315 wd)∈news)
  (a4:(wd,wsO P raw (n:Nat) (nt:Nat) nm (decide (cs.length <= 1)) t)∈news) (a5:IntsAre vs cs) (a6:cs.length <= 900) (a7:b <= 900) (a8:∀ c∈cs,0 <= c /\ c <= 1000)
noncomputable def ilZ (cs:List Int) (b nt:Nat) (ts:Int):Int:=(b:Int)+ts * (indS ts cs (rangeFrom ts cs.length)+(nt:Int))
noncomputable def lgZ (cs:List Int) (b:Nat):Int:=max ((cs.length:Int) - 1) (b:Int)
theorem WIs.mono {P:Params} {news news':List (Addr×Obj)} {ws:Addr} {cs:List Int} {b n nt:Nat} (h:WIs P news ws cs b n nt) (hs:∀ p∈news,p∈news'):WIs P news' ws cs b n nt:=by
 obtain ⟨wd,nm,ct,vs,t,tb,raw,h1,h2,h3,h4,h5,h6,h7,h8⟩:=h
 exact ⟨wd,nm,ct,vs,t,tb,raw,hs _ h1,hs _ h2,hs _ h3,hs _ h4,h5,h6,h7,h8⟩
section
variable
 {news:List (Addr×Obj)} {ws:Addr} {cs:List Int} {b n nt:Nat} {tt:Tok} {ts:Int}
variable (B:Below A₀ base outer h₀) (F:Fr h₀ L s.heap m) (X:(KK w.params).In h₀) (T:Top p loose mean mg mb h₀) (hk:cs₀.kind=.function) (hd:dp+2 < recursionLimit) (hu:un+12 < cLine)
 (N:News h₀ L s.heap news) (hw:WIs w.params news ws cs b n nt)
include B F X T hk hd hu N hw
theorem ws_longZ (hret:∀ (t:Tok) (h':Heap) (tk':Nat),Fr h₀ L h' m -> News h₀ L h' news -> Q (.int (lgZ cs b) t) { s with heap:=h',toks:=tk' }) :
  wpAny (model rw_rw0127_01.row.prog w) (ktrTop dp un gd cn cs₀ L a ccd cl outer) (call (.ref 277) [.ref ws]) Q E s:=by
 obtain ⟨wd,nm,ct,vs,t,tb,raw,h1,h2,h3,h4,h5,h6,h7,h8⟩:=hw
 exact ws_longest B F X T hk hd hu N h3 h4 h1 h2 h5 (by omega) (by omega) (by omega) hret
theorem ws_indZ (g1:1 <= ts) (g2:ts <= 1000) (hret:∀ (t:Tok) (h':Heap) (tk':Nat),Fr h₀ L h' m -> News h₀ L h' news -> Q (.int (ilZ cs b nt ts) t) { s with heap:=h',toks:=tk' }) :
  wpAny (model rw_rw0127_01.row.prog w) (ktrTop dp un gd cn cs₀ L a ccd cl outer) (call (.ref 284) [.ref ws,.int ts tt]) Q E s:=by
 obtain ⟨wd,nm,ct,vs,t,tb,raw,h1,h2,h3,h4,h5,h6,h7,h8⟩:=hw
 exact ws_indent B F X T hk hd hu N h3 h4 h1 h2 h5 (by omega) (by omega) (by omega) h8 g1 g2 hret
end
theorem reg39:True:=by
 w_top off
 k_with "call ref"=>(k_extra "i";k_here;k_dflt (refine' ws_longZ ?B ?F ?X ?T ?hk ?hd ?hu ?N ?hw ?_;k_extra "cB";(case hu=>k_extra "hu");(case N=>k_asm);(case hw=>first | assumption | exact WIs.mono (by assumption) (fun p hp=>List.mem_cons_of_mem _ hp) | exact WIs.mono (by assumption) (fun p hp=>List.mem_cons_of_mem _ (List.mem_append_right _ hp)));k_whole);intro t'z h'z tk'z F'z N'z;(try dsimp only))
 k_with "call ref"=>(k_extra "i";k_here;k_dflt (refine' ws_indZ ?B ?F ?X ?T ?hk ?hd ?hu ?N ?hw ?g1 ?g2 ?_;k_extra "cB";(case hu=>k_extra "hu");(case N=>k_asm);(case hw=>first | assumption | exact WIs.mono (by assumption) (fun p hp=>List.mem_cons_of_mem _ hp) | exact WIs.mono (by assumption) (fun p hp=>List.mem_cons_of_mem _ (List.mem_append_right _ hp)));(case g1=>omega);(case g2=>omega);k_whole);intro t'z h'z tk'z F'z N'z;(try dsimp only))
 trivial
theorem eqvAll_ints:∀ ns ms:List Int,PyData.eqvAll (ns.map PyData.int) (ms.map PyData.int)=decide (ns=ms)
 | [],[]=>by simp [PyData.eqvAll]
 | [],_::_=>by simp [PyData.eqvAll]
 | _::_,[]=>by simp [PyData.eqvAll]
 | a::r,b::t=>by
  simp only [List.map_cons,PyData.eqvAll,eqvAll_ints r t,PyData.eqv]
  by_cases h:a=b<;>by_cases h':r=t<;>simp [h,h']
noncomputable def normD (cs:List Int) (b:Nat):PyData:=.tuple [.tuple (cs.map PyData.int),.int (b:Nat)]
theorem norm_eqv (cs cs':List Int) (b b':Nat):PyData.eqv (normD cs b) (normD cs' b')=decide (cs=cs' /\ b=b'):=by
 have e:decide ((b:Int)=(b':Int))=decide (b=b'):=by rw [decide_eq_decide];omega
 simp only [normD,PyData.eqv,PyData.eqvAll,eqvAll_ints]
 by_cases h:cs=cs'<;>by_cases h':b=b'<;>simp [h,h']
 omega
theorem norm_shaped (cs:List Int) (b:Nat):SeqAt.shaped (normD cs b)=true:=by
 simp [normD,SeqAt.shaped,PyData.canLay0,PyData.canLayAll0,PyData.depth,PyData.depthAll,ke_canLayAll0,ke_depthAll]
theorem norm_reads {h₀ h:Heap} {L nm ct:Addr} {led:List (Addr×Obj)} {vs:List Value} {cs:List Int} {b:Nat} {tb:Tok} (N:News h₀ L h led) (h1:(nm,tup2 (.ref ct) (.int (b:Nat) tb))∈led) (h2:(ct,tupOf vs)∈led) (hi:IntsAre vs cs):Reads h (.ref nm) (normD cs b) [] :=
 reads_tuple_at (N.get h1) rfl rfl (.cons (reads_newDataT ⟨_,N.get h2,rfl,_,rfl⟩ (ke_carried hi)) (.cons (.int _ _) .nil))
noncomputable def lessB (cs1 cs2:List Int) (b1 b2 n1 n2 nt1 nt2:Nat):Bool:=if n1 ≥ n2 then false else if cs1.length <= 1 /\ cs2.length <= 1 then decide ((nt1:Int) <= (nt2:Int))
 else (List.range (max (lgZ cs1 b1) (lgZ cs2 b2)).toNat).all fun j=>decide (ilZ cs1 b1 nt1 ((j+2:Nat):Int) < ilZ cs2 b2 nt2 ((j+2:Nat):Int))
theorem lessB_n {cs1 cs2:List Int} {b1 b2 n1 n2 nt1 nt2:Nat} (h:(n2:Int) <= (n1:Int)):lessB cs1 cs2 b1 b2 n1 n2 nt1 nt2=false:=if_pos (by omega)
theorem lessB_s {cs1 cs2:List Int} {b1 b2 n1 n2 nt1 nt2:Nat} (h:¬ (n2:Int) <= (n1:Int)) (h1:cs1.length <= 1) (h2:cs2.length <= 1):lessB cs1 cs2 b1 b2 n1 n2 nt1 nt2=decide ((nt1:Int) <= (nt2:Int)):=by
 unfold lessB
 rw [if_neg (by omega),if_pos ⟨h1,h2⟩]
theorem lessB_f {cs1 cs2:List Int} {b1 b2 n1 n2 nt1 nt2 r i:Nat} (h:¬ (n2:Int) <= (n1:Int)) (hs:¬ (cs1.length <= 1 /\ cs2.length <= 1)) (hr:(r:Int)=max (lgZ cs1 b1) (lgZ cs2 b2)) (hi:i < r) (hc:ilZ cs2 b2 nt2 ((i+2:Nat):Int) <= ilZ cs1 b1 nt1 ((i+2:Nat):Int)):lessB cs1 cs2 b1 b2 n1 n2 nt1 nt2=false:=by
 unfold lessB
 rw [if_neg (by omega),if_neg hs,<- hr,Int.toNat_natCast,List.all_eq_false]
 exact ⟨i,List.mem_range.mpr hi,by simpa using hc⟩
theorem lessB_t {cs1 cs2:List Int} {b1 b2 n1 n2 nt1 nt2 r:Nat} (h:¬ (n2:Int) <= (n1:Int)) (hs:¬ (cs1.length <= 1 /\ cs2.length <= 1)) (hr:(r:Int)=max (lgZ cs1 b1) (lgZ cs2 b2)) (hc:∀ j,j < r -> ilZ cs1 b1 nt1 ((j+2:Nat):Int) < ilZ cs2 b2 nt2 ((j+2:Nat):Int)):lessB cs1 cs2 b1 b2 n1 n2 nt1 nt2=true:=by
 unfold lessB
 rw [if_neg (by omega),if_neg hs,<- hr,Int.toNat_natCast,List.all_eq_true]
 exact fun j hj=>decide_eq_true (hc j (List.mem_range.mp hj))
theorem max_if (a b:Int):(if b > a then b else a)=max a b:=by
 by_cases h:b > a
 ·rw [if_pos h];omega
 ·rw [if_neg h];omega
inductive LessJ (g₀:Array GenState) (names:List Str) (m₀:Str -> Option Value) (news:List (Addr×Obj)) (cs1 cs2:List Int) (b1 b2 nt1 nt2:Nat) (k:Nat) (m₁:Str -> Option Value) (nw:List (Addr×Obj)) (g:Array GenState):Prop
 | mk (a1:g=g₀) (a2:Ov names m₀ m₁) (a3:nw=news) (a4:∀ j,j < k -> ilZ cs1 b1 nt1 ((j+2:Nat):Int) < ilZ cs2 b2 nt2 ((j+2:Nat):Int))
section
variable
 {news:List (Addr×Obj)} {w1 w2:Addr} {cs1 cs2:List Int} {b1 n1 nt1 b2 n2 nt2:Nat}
variable (B:Below A₀ base outer h₀) (F:Fr h₀ L s.heap m) (X:(KK w.params).In h₀) (T:Top p loose mean mg mb h₀) (hk:cs₀.kind=.function) (hd:dp+20 < recursionLimit) (hu:un+150 < cLine)
 (N:News h₀ L s.heap news) (hw1:WIs w.params news w1 cs1 b1 n1 nt1) (hw2:WIs w.params news w2 cs2 b2 n2 nt2)
include B F X T hk hd hu N hw1 hw2
theorem ws_equal (hret:∀ (h':Heap) (tk':Nat),Fr h₀ L h' m -> News h₀ L h' news -> Q (.bool (decide (cs1=cs2 /\ b1=b2))) { s with heap:=h',toks:=tk' }) :
  wpAny (model rw_rw0127_01.row.prog w) (ktrTop dp un gd cn cs₀ L a ccd cl outer) (call (.ref 291) [.ref w1,.ref w2]) Q E s:=by
 obtain ⟨wd1,nm1,ct1,vs1,t1,tb1,raw1,p1,p2,p3,p4,p5,p6,p7,p8⟩:=hw1
 obtain ⟨wd2,nm2,ct2,vs2,t2,tb2,raw2,q1,q2,q3,q4,q5,q6,q7,q8⟩:=hw2
 revert X;k_fill;intro X;refine wpAny_call ?_;(k_extra "eD";intro g' L' h' FG' F' N' B' X' T';k_extra "tl")
 k_steps;(rename Fr _ _ _ _=>lF');(rename News _ _ _ _=>lN');k_dflt (refine eq_dataH (norm_reads lN' p1 p2 p5) (norm_reads lN' q1 q2 q5) (norm_shaped _ _) (norm_shaped _ _) (by ktr_units) ?_)
 rw [norm_eqv]
 k_steps;exact hret _ _ (by assumption) (by assumption)
omit B F X T hk hd hu N hw1 hw2 in
noncomputable def S_ws_less :Prop:=∀ (B:Below A₀ base outer h₀) (F:Fr h₀ L s.heap m) (X:(KK w.params).In h₀) (T:Top p loose mean mg mb h₀) (hk:cs₀.kind=.function) (hd:dp+20 < recursionLimit) (hu:un+150 < cLine) (N:News h₀ L s.heap news) (hw1:WIs w.params news w1 cs1 b1 n1 nt1) (hw2:WIs w.params news w2 cs2 b2 n2 nt2) (hret:∀ (v:Bool) (h':Heap) (tk':Nat),v=lessB cs1 cs2 b1 b2 n1 n2 nt1 nt2 -> Fr h₀ L h' m -> News h₀ L h' news -> Q (.bool v) { s with heap:=h',toks:=tk' }),wpAny (model rw_rw0127_01.row.prog w) (ktrTop dp un gd cn cs₀ L a ccd cl outer) (call (.ref 305) [.ref w1,.ref w2]) Q E s
namespace e_ws_less
omit B F X T hk hd hu N hw1 hw2 in
noncomputable abbrev Sd:=fun z:(((((_×_)×_×_)×(_×_)×_×_)×((_×_)×_×_)×(_×_)×_×_×_)×(((_×_)×_×_)×(_×_)×_×_)×((_×_)×_×_)×(_×_)×_×_×_)=>@S_ws_less z.1.1.1.1.1 z.1.1.1.1.2 z.1.1.1.2.1 z.1.1.1.2.2 z.1.1.2.1.1 z.1.1.2.1.2 z.1.1.2.2.1 z.1.1.2.2.2 z.1.2.1.1.1 z.1.2.1.1.2 z.1.2.1.2.1 z.1.2.1.2.2 z.1.2.2.1.1 z.1.2.2.1.2 z.1.2.2.2.1 z.1.2.2.2.2.1 z.1.2.2.2.2.2 z.2.1.1.1.1 z.2.1.1.1.2 z.2.1.1.2.1 z.2.1.1.2.2 z.2.1.2.1.1 z.2.1.2.1.2 z.2.1.2.2.1 z.2.1.2.2.2 z.2.2.1.1.1 z.2.2.1.1.2 z.2.2.1.2.1 z.2.2.1.2.2 z.2.2.2.1.1 z.2.2.2.1.2 z.2.2.2.2.1 z.2.2.2.2.2.1 z.2.2.2.2.2.2
omit B F X T hk hd hu N hw1 hw2 in
@[irreducible] def κ:=pick (by k_extra "ne") Sd
def cs1_:=κ.2.2.1.1.2
def cs2_:=κ.2.2.1.2.1
def b1_:=κ.2.2.1.2.2
def nt1_:=κ.2.2.2.1.2
def b2_:=κ.2.2.2.2.1
def nt2_:=κ.2.2.2.2.2.2
omit B F X T hk hd hu N hw1 hw2 in
noncomputable abbrev Sc:=@S_ws_less κ.1.1.1.1.1 κ.1.1.1.1.2 κ.1.1.1.2.1 κ.1.1.1.2.2 κ.1.1.2.1.1 κ.1.1.2.1.2 κ.1.1.2.2.1 κ.1.1.2.2.2 κ.1.2.1.1.1 κ.1.2.1.1.2 κ.1.2.1.2.1 κ.1.2.1.2.2 κ.1.2.2.1.1 κ.1.2.2.1.2 κ.1.2.2.2.1 κ.1.2.2.2.2.1 κ.1.2.2.2.2.2 κ.2.1.1.1.1 κ.2.1.1.1.2 κ.2.1.1.2.1 κ.2.1.1.2.2 κ.2.1.2.1.1 κ.2.1.2.1.2 κ.2.1.2.2.1 κ.2.1.2.2.2 κ.2.2.1.1.1 cs1_ cs2_ b1_ κ.2.2.2.1.1 nt1_ b2_ κ.2.2.2.2.2.1 nt2_
omit B F X T hk hd hu N hw1 hw2 in
noncomputable def seg:PSigma fun P:Heap -> Addr -> Heap -> Prop=>(∀ g L h,P g L h) -> Sc:=⟨_,by
 intro hP;unfold Sc S_ws_less
 intro B F X T hk hd hu N hw1 hw2 hret;revert X;k_fill;intro X;refine wpAny_call ?_;(k_extra "eD";intro g' L' h' FG' F' N' B' X' T';revert B F T hk hd hu N hw1 hw2 hret X FG' F' N' B' X' T';exact hP g' L' h')⟩
omit B F X T hk hd hu N hw1 hw2 in
@[irreducible] def σ:=pick (inferInstance:Nonempty (Heap×Addr×Heap)) fun d=>seg.1 d.1 d.2.1 d.2.2
omit B F X T hk hd hu N hw1 hw2 in
theorem body:seg.1 σ.1 σ.2.1 σ.2.2:=by
 intro B F T hk hd hu N hw1 hw2 hret X FG' F' N' B' X' T';(k_extra "tl")
 have hw1':=hw1
 have hw2':=hw2
 obtain ⟨wd1,nm1,ct1,vs1,t1,tb1,raw1,p1,p2,p3,p4,p5,p6,p7,p8⟩:=hw1'
 obtain ⟨wd2,nm2,ct2,vs2,t2,tb2,raw2,q1,q2,q3,q4,q5,q6,q7,q8⟩:=hw2'
 have hg1:0 <= lgZ cs1_ b1_ /\ lgZ cs1_ b1_ <= 900:=by unfold lgZ;exact lgB (by assumption) (by assumption)
 have hg2:0 <= lgZ cs2_ b2_ /\ lgZ cs2_ b2_ <= 900:=by unfold lgZ;exact lgB (by assumption) (by assumption)
 k_steps
 ·exact hret _ _ _ (by rw [lessB_n (by assumption)]) (by assumption) (by assumption)
 ·exact hret _ _ _ (by rw [lessB_s (by assumption) (by assumption) (by assumption)]) (by assumption) (by assumption)
 all_goals
  refine unhalt ?_;k_dflt (refine' For_G σ.1 ?k1 ?k2 ?_;(case k1=>exact rfl);(case k2=>exact rfl))
  k_steps;(rename Fr _ _ _ _=>lF');(rename News _ _ _ _=>lN');(rename IsRange _ _ _ _ _ _ _ _=>lR');rw [max_if] at lR' lF'
  obtain ⟨r,hr⟩:∃ r:Nat,(r:Int)=max (lgZ cs1_ b1_) (lgZ cs2_ b2_):=⟨(max (lgZ cs1_ b1_) (lgZ cs2_ b2_)).toNat,by omega⟩
  rw [<- hr] at lR' lF'
  k_dflt (refine' rangeG2 (n:=r) rfl lR' ?sm ?sz lF' lN' (LessJ κ.2.1.1.2.2.gens ["ts"] _ κ.2.1.2.2.1 cs1_ cs2_ b1_ b2_ nt1_ nt2_) ⟨rfl,Ov.refl,rfl,fun j hj=>absurd hj (Nat.not_lt_zero _)⟩ (fun i u m₁ news₁ h tk g own it hi hJ hoff hown hit F' N'=>?_) (fun h' tk' g'' m' news' F' N' hJ=>?_))
  case sm=>exact small_one (by omega) (by omega) (by omega) (by omega)
  case sz=>rw [rangeSize_nat];omega
  ·obtain ⟨rfl,hov,rfl,hall⟩:=hJ
   obtain ⟨gm,F''⟩:=fr_form hov F'
   simp only [ovF_n,ovF_c] at F''
   rw [show (2:Int)+(i:Int) * 1=((i+2:Nat):Int) by omega] at F''
   (try clear F');(try clear lF');(try clear lN');(try clear lR')
   have hx1:=hw1.mono (fun p hp=>List.mem_append_right own hp)
   have hx2:=hw2.mono (fun p hp=>List.mem_append_right own hp)
   have hs9:¬ (cs1_.length <= 1 /\ cs2_.length <= 1):=fun h9=>by first | exact absurd h9.2 (by assumption) | exact absurd h9.1 (by assumption)
   k_steps
   ·(try dsimp only [StepG])
    k_steps;(try dsimp only [StepG])
    k_steps;(try dsimp only [StepG])
    k_steps;(rename Fr _ _ _ _=>kF9);(rename News _ _ _ _=>kN9);exact hret _ _ _ (lessB_f (by assumption) hs9 hr hi (by assumption)).symm kF9 (fun p hp=>kN9 p (List.mem_append_right _ hp))
   ·dsimp only [StepG]
    (rename Fr _ _ _ _=>kF9);(rename News _ _ _ _=>kN9);exact ⟨_,_,_,_,_,rfl,kF9,kN9,fun p hp hq=>hoff p hp (List.mem_singleton.mp hq),rfl,ov_self.set (by decide +kernel),rfl,fun j hj=>by
     by_cases hji:j < i
     ·exact hall j hji
     ·obtain rfl:j=i:=by omega
      omega⟩
  ·obtain ⟨rfl,hov,rfl,hall⟩:=hJ
   obtain ⟨gm,F''⟩:=fr_form0 hov F'
   simp only [ovF_n,ovF_c] at F''
   have hs9:¬ (cs1_.length <= 1 /\ cs2_.length <= 1):=fun h9=>by first | exact absurd h9.2 (by assumption) | exact absurd h9.1 (by assumption)
   (try clear F');(try clear lF');(try clear lN');(try clear lR')
   k_steps;exact hret _ _ _ (lessB_t (by assumption) hs9 hr hall).symm (by assumption) (by assumption)
omit B F X T hk hd hu N hw1 hw2 in
theorem core:Sc:=seg.2 fun g L h=>pick_all (P:=fun d:Heap×Addr×Heap=>seg.1 d.1 d.2.1 d.2.2) (by with_unfolding_all exact body) (g,L,h)
end e_ws_less
omit B F X T hk hd hu N hw1 hw2 in
theorem ws_less :@S_ws_less w mean mg mb p loose dp un gd cn cs₀ a ccd cl outer A₀ base h₀ L m s Q E news w1 w2 cs1 cs2 b1 n1 nt1 b2 n2 nt2:=@pick_all _ _ e_ws_less.Sd (by with_unfolding_all exact e_ws_less.core) (((((_,_),_,_),(_,_),_,_),((_,_),_,_),(_,_),_,_,_),(((_,_),_,_),(_,_),_,_),((_,_),_,_),(_,_),_,_,_)
end
end
theorem reg40:True:=by
 w_top off
 trivial
section
local macro_rules | `(tactic| k_ne)=>`(tactic| k_extra "k_ne4")
structure TC where
 T:Addr
 a:Int
 b:Int
 c:Int
 ta:Tok
 tb:Tok
 tc:Tok
noncomputable abbrev tup3i (a b c:Value):Obj:=⟨.type "tuple",none,.seq #[a,b,c] 0,#[]⟩
noncomputable abbrev TC.ent (c:TC):Addr×Obj:=(c.T,tup3i (.int c.a c.ta) (.int c.b c.tb) (.int c.c c.tc))
noncomputable abbrev TC.val (c:TC):Value:=.ref c.T
noncomputable def TC.key (c:TC):Int×Int×Int:=(c.a,c.b,c.c)
inductive TripJ (g₀:Array GenState) (names:List Str) (m₀:Str -> Option Value) (news:List (Addr×Obj)) (al:Addr) (f:Nat -> List (Int×Int×Int)) (k:Nat) (m₁:Str -> Option Value) (nw:List (Addr×Obj)) (g:Array GenState):Prop
 | mk (a1:g=g₀) (a2:Ov names m₀ m₁) (ps:List TC) (n:Nat) (rest:List (Addr×Obj)) (a3:nw=(al,W.listOf (ps.map TC.val).toArray n)::rest) (a4:∀ p∈news,p∈rest) (a5:∀ q∈rest,q.1≠al) (a6:∀ c∈ps,c.ent∈rest) (a7:ps.map TC.key=f k)
theorem trip_step {h₀ h:Heap} {L al it:Addr} {g₀:Array GenState} {names:List Str} {m₀ m₂:Str -> Option Value} {news own rest led:List (Addr×Obj)} {f:Nat -> List (Int×Int×Int)} {i n n':Nat} {ps new:List TC} {vs:List Value}
  (N:News h₀ L h led) (F:Fr h₀ L h m₂) (ho:Ov names m₀ m₂) (hm:(al,W.listOf vs.toArray n')∈led) (hown:∀ p∈own ++ rest,p∈led) (hsub:∀ p∈news,p∈rest) (hrest:∀ q∈rest,q.1≠al)
  (hoff:∀ p∈(al,W.listOf (ps.map TC.val).toArray n)::rest,p.1≠it) (hit:∃ o,(it,o)∈own /\ o.cls≠.type "tuple") (hent:∀ c∈ps,c.ent∈rest)
  (hnew:∀ c∈new,c.ent∈led) (hvs:vs=(ps ++ new).map TC.val) (hps:(ps ++ new).map TC.key=f (i+1)) :
  ∃ m₂ news₂,Fr h₀ L h m₂ /\ News h₀ L h (own ++ news₂) /\ (∀ p∈news₂,p.1∉[it]) /\ TripJ g₀ names m₀ news al f (i+1) m₂ news₂ g₀:=by
 have hcl:∀ (c:TC) (vs:Array Value) (n:Nat),c.ent.2.cls≠(W.listOf vs n).cls:=fun c vs n=>cls_ne rfl rfl (by decide)
 have hnp:∀ c∈new,@Ne Nat c.T al:=fun c hc=>ne_objs N (hnew c hc) hm (hcl c _ _)
 obtain ⟨oi,hoi,hoc⟩:=hit
 have hni:∀ c∈new,@Ne Nat c.T it:=fun c hc=>ne_objs N (hnew c hc) (hown _ (List.mem_append_left _ hoi)) (fun e=>hoc e.symm)
 refine ⟨m₂,(al,W.listOf vs.toArray n')::(new.map TC.ent ++ rest),F,fun p hp=>N p ?_,fun p hp hq=>?_,rfl,ho,ps ++ new,n',new.map TC.ent ++ rest,by rw [hvs],fun p hp=>List.mem_append_right _ (hsub p hp),fun q hq=>?_,fun c hc=>?_,hps⟩
 ·rcases List.mem_append.mp hp with h | h
  ·exact hown p (List.mem_append_left _ h)
  ·rcases List.mem_cons.mp h with h | h
   ·rw [h];exact hm
   ·rcases List.mem_append.mp h with h | h
    ·obtain ⟨c,hc,rfl⟩:=List.mem_map.mp h
     exact hnew c hc
    ·exact hown p (List.mem_append_right _ h)
 ·have hq:=List.mem_singleton.mp hq
  rcases List.mem_cons.mp hp with h | h
  ·rw [h] at hq;exact hoff _ List.mem_cons_self hq
  ·rcases List.mem_append.mp h with h | h
   ·obtain ⟨c,hc,rfl⟩:=List.mem_map.mp h
    exact hni c hc hq
   ·exact hoff _ (List.mem_cons_of_mem _ h) hq
 ·rcases List.mem_append.mp hq with h | h
  ·obtain ⟨c,hc,rfl⟩:=List.mem_map.mp h
   exact hnp c hc
  ·exact hrest q h
 ·rcases List.mem_append.mp hc with h | h
  ·exact List.mem_append_right _ (hent c h)
  ·exact List.mem_append_left _ (List.mem_map.mpr ⟨c,h,rfl⟩)
noncomputable def rowZ (cs1 cs2:List Int) (b1 b2 nt1 nt2:Nat) (j:Nat):Int×Int×Int:=(((j+1:Nat):Int),ilZ cs1 b1 nt1 ((j+1:Nat):Int),ilZ cs2 b2 nt2 ((j+1:Nat):Int))
noncomputable def witZ (q:Int×Int×Int -> Bool) (cs1 cs2:List Int) (b1 b2 nt1 nt2:Nat) (k:Nat):List (Int×Int×Int):=((List.range k).map (rowZ cs1 cs2 b1 b2 nt1 nt2)).filter q
theorem witZ_succ (q:Int×Int×Int -> Bool) (cs1 cs2:List Int) (b1 b2 nt1 nt2 k:Nat):witZ q cs1 cs2 b1 b2 nt1 nt2 (k+1)=witZ q cs1 cs2 b1 b2 nt1 nt2 k ++ (if q (rowZ cs1 cs2 b1 b2 nt1 nt2 k) then [rowZ cs1 cs2 b1 b2 nt1 nt2 k] else []):=by
 unfold witZ
 rw [List.range_succ,List.map_append,List.filter_append]
 congr 1
 show List.filter q [rowZ cs1 cs2 b1 b2 nt1 nt2 k]=_
 cases h:q (rowZ cs1 cs2 b1 b2 nt1 nt2 k)<;>simp [h]
theorem witZ_len (q:Int×Int×Int -> Bool) (cs1 cs2:List Int) (b1 b2 nt1 nt2 k:Nat):(witZ q cs1 cs2 b1 b2 nt1 nt2 k).length <= k:=by
 unfold witZ
 refine Nat.le_trans (List.length_filter_le _ _) ?_
 simp
noncomputable def notLess (r:Int×Int×Int):Bool:=decide (r.2.1 ≥ r.2.2)
noncomputable def notSame (r:Int×Int×Int):Bool:=decide (r.2.1≠r.2.2)
theorem wit_t {q:Int×Int×Int -> Bool} {cs1 cs2:List Int} {b1 b2 nt1 nt2 k:Nat} (h:q (rowZ cs1 cs2 b1 b2 nt1 nt2 k)=true):witZ q cs1 cs2 b1 b2 nt1 nt2 (k+1)=witZ q cs1 cs2 b1 b2 nt1 nt2 k ++ [rowZ cs1 cs2 b1 b2 nt1 nt2 k]:=by
 rw [witZ_succ,h];rfl
theorem wit_f {q:Int×Int×Int -> Bool} {cs1 cs2:List Int} {b1 b2 nt1 nt2 k:Nat} (h:q (rowZ cs1 cs2 b1 b2 nt1 nt2 k)=false):witZ q cs1 cs2 b1 b2 nt1 nt2 (k+1)=witZ q cs1 cs2 b1 b2 nt1 nt2 k:=by
 rw [witZ_succ,h];simp
theorem notLess_t {cs1 cs2:List Int} {b1 b2 nt1 nt2 i:Nat} (h:ilZ cs2 b2 nt2 ((i+1:Nat):Int) <= ilZ cs1 b1 nt1 ((i+1:Nat):Int)):notLess (rowZ cs1 cs2 b1 b2 nt1 nt2 i)=true:=decide_eq_true h
theorem notLess_f {cs1 cs2:List Int} {b1 b2 nt1 nt2 i:Nat} (h:¬ ilZ cs2 b2 nt2 ((i+1:Nat):Int) <= ilZ cs1 b1 nt1 ((i+1:Nat):Int)):notLess (rowZ cs1 cs2 b1 b2 nt1 nt2 i)=false:=decide_eq_false h
theorem notSame_t {cs1 cs2:List Int} {b1 b2 nt1 nt2 i:Nat} (h:ilZ cs1 b1 nt1 ((i+1:Nat):Int)≠ilZ cs2 b2 nt2 ((i+1:Nat):Int)):notSame (rowZ cs1 cs2 b1 b2 nt1 nt2 i)=true:=decide_eq_true h
theorem notSame_f {cs1 cs2:List Int} {b1 b2 nt1 nt2 i:Nat} (h:ilZ cs1 b1 nt1 ((i+1:Nat):Int)=ilZ cs2 b2 nt2 ((i+1:Nat):Int)):notSame (rowZ cs1 cs2 b1 b2 nt1 nt2 i)=false:=decide_eq_false fun h'=>h' h
theorem one_in {led:List (Addr×Obj)} {c1:TC} (h1:c1.ent∈led):∀ c∈[c1],c.ent∈led:=fun c hc=>by rw [List.mem_singleton.mp hc];exact h1
theorem reg41:True:=by
 w_top off
 k_with "call builtin:list.append"=>(k_extra "i";k_here;k_dflt (refine' lst_appendV ?F ?N ?U ?z ?_;(case F=>k_asm);(case N=>k_asm);(case U=>k_updF);(case z=>first | assumption | (simp only [List.length_append,List.length_map,List.length_cons,List.length_nil];omega));k_whole);intro h'z F'z N'z;(try dsimp only at N'z);(try k_sweep);(try dsimp only))
 trivial
section
variable
 {news:List (Addr×Obj)} {w1 w2:Addr} {cs1 cs2:List Int} {b1 n1 nt1 b2 n2 nt2:Nat}
variable (B:Below A₀ base outer h₀) (F:Fr h₀ L s.heap m) (X:(KK w.params).In h₀) (T:Top p loose mean mg mb h₀) (hk:cs₀.kind=.function) (hd:dp+20 < recursionLimit) (hu:un+150 < cLine)
 (N:News h₀ L s.heap news) (hw1:WIs w.params news w1 cs1 b1 n1 nt1) (hw2:WIs w.params news w2 cs2 b2 n2 nt2)
noncomputable def S_ws_notless {r:Nat}:Prop:=∀ (B:Below A₀ base outer h₀) (F:Fr h₀ L s.heap m) (X:(KK w.params).In h₀) (T:Top p loose mean mg mb h₀) (hk:cs₀.kind=.function) (hd:dp+20 < recursionLimit) (hu:un+150 < cLine) (N:News h₀ L s.heap news) (hw1:WIs w.params news w1 cs1 b1 n1 nt1) (hw2:WIs w.params news w2 cs2 b2 n2 nt2) (hr:(r:Int)=max (lgZ cs1 b1) (lgZ cs2 b2)) (hret:∀ (al:Addr) (ps:List TC) (n:Nat) (rest:List (Addr×Obj)) (h':Heap) (tk':Nat),Fr h₀ L h' m -> News h₀ L h' ((al,W.listOf (ps.map TC.val).toArray n)::rest) -> (∀ p∈news,p∈rest) -> (∀ q∈rest,q.1≠al) -> (∀ c∈ps,c.ent∈rest) -> ps.map TC.key=witZ notLess cs1 cs2 b1 b2 nt1 nt2 (r+1) -> Q (.ref al) { s with heap:=h',toks:=tk' }),wpAny (model rw_rw0127_01.row.prog w) (ktrTop dp un gd cn cs₀ L a ccd cl outer) (call (.ref 312) [.ref w1,.ref w2]) Q E s
namespace e_ws_notless
noncomputable abbrev Sd:=fun z:(((((_×_)×_×_)×(_×_)×_×_)×((_×_)×_×_)×(_×_)×_×_×_)×(((_×_)×_×_)×(_×_)×_×_×_)×((_×_)×_×_)×(_×_)×_×_×_)=>@S_ws_notless z.1.1.1.1.1 z.1.1.1.1.2 z.1.1.1.2.1 z.1.1.1.2.2 z.1.1.2.1.1 z.1.1.2.1.2 z.1.1.2.2.1 z.1.1.2.2.2 z.1.2.1.1.1 z.1.2.1.1.2 z.1.2.1.2.1 z.1.2.1.2.2 z.1.2.2.1.1 z.1.2.2.1.2 z.1.2.2.2.1 z.1.2.2.2.2.1 z.1.2.2.2.2.2 z.2.1.1.1.1 z.2.1.1.1.2 z.2.1.1.2.1 z.2.1.1.2.2 z.2.1.2.1.1 z.2.1.2.1.2 z.2.1.2.2.1 z.2.1.2.2.2.1 z.2.1.2.2.2.2 z.2.2.1.1.1 z.2.2.1.1.2 z.2.2.1.2.1 z.2.2.1.2.2 z.2.2.2.1.1 z.2.2.2.1.2 z.2.2.2.2.1 z.2.2.2.2.2.1 z.2.2.2.2.2.2
@[irreducible] def κ:=pick (by k_extra "ne") Sd
def cs1_:=κ.2.2.1.1.1
def cs2_:=κ.2.2.1.1.2
def b1_:=κ.2.2.1.2.1
def n1_:=κ.2.2.1.2.2
def nt1_:=κ.2.2.2.1.1
def b2_:=κ.2.2.2.1.2
def n2_:=κ.2.2.2.2.1
def nt2_:=κ.2.2.2.2.2.1
def r_:=κ.2.2.2.2.2.2
noncomputable abbrev Sc:=@S_ws_notless κ.1.1.1.1.1 κ.1.1.1.1.2 κ.1.1.1.2.1 κ.1.1.1.2.2 κ.1.1.2.1.1 κ.1.1.2.1.2 κ.1.1.2.2.1 κ.1.1.2.2.2 κ.1.2.1.1.1 κ.1.2.1.1.2 κ.1.2.1.2.1 κ.1.2.1.2.2 κ.1.2.2.1.1 κ.1.2.2.1.2 κ.1.2.2.2.1 κ.1.2.2.2.2.1 κ.1.2.2.2.2.2 κ.2.1.1.1.1 κ.2.1.1.1.2 κ.2.1.1.2.1 κ.2.1.1.2.2 κ.2.1.2.1.1 κ.2.1.2.1.2 κ.2.1.2.2.1 κ.2.1.2.2.2.1 κ.2.1.2.2.2.2 cs1_ cs2_ b1_ n1_ nt1_ b2_ n2_ nt2_ r_
omit B F X T hk hd hu N hw1 hw2 in
noncomputable def seg:PSigma fun P:Heap -> Addr -> Heap -> Prop=>(∀ g L h,P g L h) -> Sc:=⟨_,by
 intro hP;unfold Sc S_ws_notless
 intro B F X T hk hd hu N hw1 hw2 hr hret;revert X;k_fill;intro X;refine wpAny_call ?_;(k_extra "eD";intro g' L' h' FG' F' N' B' X' T';revert B F T hk hd hu N hw1 hw2 hr hret X FG' F' N' B' X' T';exact hP g' L' h')⟩
@[irreducible] def σ:=pick (inferInstance:Nonempty (Heap×Addr×Heap)) fun d=>seg.1 d.1 d.2.1 d.2.2
theorem body:seg.1 σ.1 σ.2.1 σ.2.2:=by
 intro B F T hk hd hu N hw1 hw2 hr hret X FG' F' N' B' X' T';(k_extra "tl")
 have hw1':=hw1
 have hw2':=hw2
 obtain ⟨wd1,nm1,ct1,vs1,t1,tb1,raw1,p1,p2,p3,p4,p5,p6,p7,p8⟩:=hw1'
 obtain ⟨wd2,nm2,ct2,vs2,t2,tb2,raw2,q1,q2,q3,q4,q5,q6,q7,q8⟩:=hw2'
 have hg1:0 <= lgZ cs1_ b1_ /\ lgZ cs1_ b1_ <= 900:=by unfold lgZ;exact lgB (by assumption) (by assumption)
 have hg2:0 <= lgZ cs2_ b2_ /\ lgZ cs2_ b2_ <= 900:=by unfold lgZ;exact lgB (by assumption) (by assumption)
 k_steps;refine unhalt ?_;k_dflt (refine' For_G σ.1 ?k1 ?k2 ?_;(case k1=>exact rfl);(case k2=>exact rfl))
 k_steps;(rename Fr _ _ _ _=>lF');(rename News _ _ _ _=>lN');(rename IsRange _ _ _ _ _ _ _ _=>lR');rw [max_if,<- hr] at lR' lF'
 rename ∀ p:Addr×Obj,p∈κ.2.1.2.2.1 -> p.1 < _=>l9
 k_dflt (refine' rangeG2 (n:=r_+1) rfl lR' ?sm ?sz lF' lN' (TripJ κ.2.1.1.2.2.gens ["ts"] _ κ.2.1.2.2.1 _ (witZ notLess cs1_ cs2_ b1_ b2_ nt1_ nt2_)) ⟨rfl,Ov.refl,[],0,κ.2.1.2.2.1,rfl,fun _ h=>h,fun q hq=>Nat.ne_of_lt (l9 q hq),(fun c hc=>nomatch hc),rfl⟩ (fun i u m₁ news₁ h tk g own it hi hJ hoff hown hit F' N'=>?_) (fun h' tk' g'' m' news' F' N' hJ=>?_))
 case sm=>exact small_one (by omega) (by omega) (by omega) (by omega)
 case sz=>rw [rangeSize_nat];omega
 ·k_fold
  obtain ⟨rfl,hov,ps,n,rest,rfl,hsub,hrest,hent,hps⟩:=hJ
  obtain ⟨gm,F''⟩:=fr_form hov F'
  simp only [ovF_n,ovF_c] at F''
  rw [show (1:Int)+(i:Int) * 1=((i+1:Nat):Int) by omega] at F''
  clear F' lF' lN' lR' hov;have N'':=news_swap N'
  clear N';have hne:∀ p∈own ++ rest,p.1≠_:=fun p hp=>by
   rcases List.mem_append.mp hp with h | h
   ·rw [hown p h];exact fun e=>hoff _ List.mem_cons_self e.symm
   ·exact hrest p h
  have hx1:WIs κ.1.1.1.1.1.params (own ++ rest) κ.2.1.2.2.2.1 cs1_ b1_ n1_ nt1_:=hw1.mono (fun p hp=>List.mem_append_right own (hsub p hp))
  have hx2:WIs κ.1.1.1.1.1.params (own ++ rest) κ.2.1.2.2.2.2 cs2_ b2_ n2_ nt2_:=hw2.mono (fun p hp=>List.mem_append_right own (hsub p hp))
  have x3:=List.mem_append_right own (hsub _ p3)
  have x4:=List.mem_append_right own (hsub _ p4)
  have y3:=List.mem_append_right own (hsub _ q3)
  have y4:=List.mem_append_right own (hsub _ q4)
  have hpl:ps.length <= 990:=by
   have e1:=congrArg List.length hps
   rw [List.length_map] at e1
   have e2:=witZ_len notLess cs1_ cs2_ b1_ b2_ nt1_ nt2_ i
   omega
  k_steps
  ·dsimp only [StepG]
   (rename Fr _ _ _ _=>kF9);(rename News _ _ _ _=>kN9);have e9:=wit_t (notLess_t (cs1:=cs1_) (cs2:=cs2_) (b1:=b1_) (b2:=b2_) (nt1:=nt1_) (nt2:=nt2_) (i:=i) (by assumption))
   obtain ⟨m9,nw9,f1,f2,f3,f4⟩:=trip_step (new:=[⟨_,_,_,_,_,_,_⟩]) (names:=["ts"]) (g₀:=κ.2.1.1.2.2.gens) (f:=witZ notLess cs1_ cs2_ b1_ b2_ nt1_ nt2_) kN9 kF9 (ov_self.set (by decide +kernel)) (by k_mem) (fun p hp=>by simp only [List.mem_cons];simp [hp]) hsub hrest hoff hit hent (one_in (by k_mem)) (by simp) (by rw [List.map_append,hps,e9];rfl)
   exact ⟨_,_,_,_,_,rfl,f1,f2,f3,f4⟩
  ·dsimp only [StepG]
   (rename Fr _ _ _ _=>kF9);(rename News _ _ _ _=>kN9);have e9:=wit_f (notLess_f (cs1:=cs1_) (cs2:=cs2_) (b1:=b1_) (b2:=b2_) (nt1:=nt1_) (nt2:=nt2_) (i:=i) (by assumption))
   obtain ⟨m9,nw9,f1,f2,f3,f4⟩:=trip_step (new:=[]) (names:=["ts"]) (g₀:=κ.2.1.1.2.2.gens) (f:=witZ notLess cs1_ cs2_ b1_ b2_ nt1_ nt2_) kN9 kF9 (ov_self.set (by decide +kernel)) (by k_mem) (fun p hp=>by simp only [List.mem_cons];simp [hp]) hsub hrest hoff hit hent (fun c hc=>nomatch hc) (by simp) (by rw [List.append_nil,hps,e9])
   exact ⟨_,_,_,_,_,rfl,f1,f2,f3,f4⟩
 ·obtain ⟨rfl,hov,ps,n,rest,rfl,hsub,hrest,hent,hps⟩:=hJ
  obtain ⟨gm,F''⟩:=fr_form0 hov F'
  simp only [ovF_n,ovF_c] at F''
  clear F' lF' lN' lR' hov;k_steps;exact hret _ _ _ _ _ _ (by assumption) (by assumption) hsub hrest hent hps
theorem core:Sc:=seg.2 fun g L h=>pick_all (P:=fun d:Heap×Addr×Heap=>seg.1 d.1 d.2.1 d.2.2) (by with_unfolding_all exact body) (g,L,h)
end e_ws_notless
theorem ws_notless {r:Nat}:@S_ws_notless w mean mg mb p loose dp un gd cn cs₀ a ccd cl outer A₀ base h₀ L m s Q E news w1 w2 cs1 cs2 b1 n1 nt1 b2 n2 nt2 r:=@pick_all _ _ e_ws_notless.Sd (by with_unfolding_all exact e_ws_notless.core) (((((_,_),_,_),(_,_),_,_),((_,_),_,_),(_,_),_,_,_),(((_,_),_,_),(_,_),_,_,_),((_,_),_,_),(_,_),_,_,_)
noncomputable def S_ws_notsame {r:Nat}:Prop:=∀ (B:Below A₀ base outer h₀) (F:Fr h₀ L s.heap m) (X:(KK w.params).In h₀) (T:Top p loose mean mg mb h₀) (hk:cs₀.kind=.function) (hd:dp+20 < recursionLimit) (hu:un+150 < cLine) (N:News h₀ L s.heap news) (hw1:WIs w.params news w1 cs1 b1 n1 nt1) (hw2:WIs w.params news w2 cs2 b2 n2 nt2) (hr:(r:Int)=max (lgZ cs1 b1) (lgZ cs2 b2)) (hret:∀ (al:Addr) (ps:List TC) (n:Nat) (rest:List (Addr×Obj)) (h':Heap) (tk':Nat),Fr h₀ L h' m -> News h₀ L h' ((al,W.listOf (ps.map TC.val).toArray n)::rest) -> (∀ p∈news,p∈rest) -> (∀ q∈rest,q.1≠al) -> (∀ c∈ps,c.ent∈rest) -> ps.map TC.key=witZ notSame cs1 cs2 b1 b2 nt1 nt2 (r+1) -> Q (.ref al) { s with heap:=h',toks:=tk' }),wpAny (model rw_rw0127_01.row.prog w) (ktrTop dp un gd cn cs₀ L a ccd cl outer) (call (.ref 298) [.ref w1,.ref w2]) Q E s
namespace e_ws_notsame
noncomputable abbrev Sd:=fun z:(((((_×_)×_×_)×(_×_)×_×_)×((_×_)×_×_)×(_×_)×_×_×_)×(((_×_)×_×_)×(_×_)×_×_×_)×((_×_)×_×_)×(_×_)×_×_×_)=>@S_ws_notsame z.1.1.1.1.1 z.1.1.1.1.2 z.1.1.1.2.1 z.1.1.1.2.2 z.1.1.2.1.1 z.1.1.2.1.2 z.1.1.2.2.1 z.1.1.2.2.2 z.1.2.1.1.1 z.1.2.1.1.2 z.1.2.1.2.1 z.1.2.1.2.2 z.1.2.2.1.1 z.1.2.2.1.2 z.1.2.2.2.1 z.1.2.2.2.2.1 z.1.2.2.2.2.2 z.2.1.1.1.1 z.2.1.1.1.2 z.2.1.1.2.1 z.2.1.1.2.2 z.2.1.2.1.1 z.2.1.2.1.2 z.2.1.2.2.1 z.2.1.2.2.2.1 z.2.1.2.2.2.2 z.2.2.1.1.1 z.2.2.1.1.2 z.2.2.1.2.1 z.2.2.1.2.2 z.2.2.2.1.1 z.2.2.2.1.2 z.2.2.2.2.1 z.2.2.2.2.2.1 z.2.2.2.2.2.2
@[irreducible] def κ:=pick (by k_extra "ne") Sd
def cs1_:=κ.2.2.1.1.1
def cs2_:=κ.2.2.1.1.2
def b1_:=κ.2.2.1.2.1
def n1_:=κ.2.2.1.2.2
def nt1_:=κ.2.2.2.1.1
def b2_:=κ.2.2.2.1.2
def n2_:=κ.2.2.2.2.1
def nt2_:=κ.2.2.2.2.2.1
def r_:=κ.2.2.2.2.2.2
noncomputable abbrev Sc:=@S_ws_notsame κ.1.1.1.1.1 κ.1.1.1.1.2 κ.1.1.1.2.1 κ.1.1.1.2.2 κ.1.1.2.1.1 κ.1.1.2.1.2 κ.1.1.2.2.1 κ.1.1.2.2.2 κ.1.2.1.1.1 κ.1.2.1.1.2 κ.1.2.1.2.1 κ.1.2.1.2.2 κ.1.2.2.1.1 κ.1.2.2.1.2 κ.1.2.2.2.1 κ.1.2.2.2.2.1 κ.1.2.2.2.2.2 κ.2.1.1.1.1 κ.2.1.1.1.2 κ.2.1.1.2.1 κ.2.1.1.2.2 κ.2.1.2.1.1 κ.2.1.2.1.2 κ.2.1.2.2.1 κ.2.1.2.2.2.1 κ.2.1.2.2.2.2 cs1_ cs2_ b1_ n1_ nt1_ b2_ n2_ nt2_ r_
omit B F X T hk hd hu N hw1 hw2 in
noncomputable def seg:PSigma fun P:Heap -> Addr -> Heap -> Prop=>(∀ g L h,P g L h) -> Sc:=⟨_,by
 intro hP;unfold Sc S_ws_notsame
 intro B F X T hk hd hu N hw1 hw2 hr hret;revert X;k_fill;intro X;refine wpAny_call ?_;(k_extra "eD";intro g' L' h' FG' F' N' B' X' T';revert B F T hk hd hu N hw1 hw2 hr hret X FG' F' N' B' X' T';exact hP g' L' h')⟩
@[irreducible] def σ:=pick (inferInstance:Nonempty (Heap×Addr×Heap)) fun d=>seg.1 d.1 d.2.1 d.2.2
theorem body:seg.1 σ.1 σ.2.1 σ.2.2:=by
 intro B F T hk hd hu N hw1 hw2 hr hret X FG' F' N' B' X' T';(k_extra "tl")
 have hw1':=hw1
 have hw2':=hw2
 obtain ⟨wd1,nm1,ct1,vs1,t1,tb1,raw1,p1,p2,p3,p4,p5,p6,p7,p8⟩:=hw1'
 obtain ⟨wd2,nm2,ct2,vs2,t2,tb2,raw2,q1,q2,q3,q4,q5,q6,q7,q8⟩:=hw2'
 have hg1:0 <= lgZ cs1_ b1_ /\ lgZ cs1_ b1_ <= 900:=by unfold lgZ;exact lgB (by assumption) (by assumption)
 have hg2:0 <= lgZ cs2_ b2_ /\ lgZ cs2_ b2_ <= 900:=by unfold lgZ;exact lgB (by assumption) (by assumption)
 k_steps;refine unhalt ?_;k_dflt (refine' For_G σ.1 ?k1 ?k2 ?_;(case k1=>exact rfl);(case k2=>exact rfl))
 k_steps;(rename Fr _ _ _ _=>lF');(rename News _ _ _ _=>lN');(rename IsRange _ _ _ _ _ _ _ _=>lR');rw [max_if,<- hr] at lR' lF'
 rename ∀ p:Addr×Obj,p∈κ.2.1.2.2.1 -> p.1 < _=>l9
 k_dflt (refine' rangeG2 (n:=r_+1) rfl lR' ?sm ?sz lF' lN' (TripJ κ.2.1.1.2.2.gens ["ts"] _ κ.2.1.2.2.1 _ (witZ notSame cs1_ cs2_ b1_ b2_ nt1_ nt2_)) ⟨rfl,Ov.refl,[],0,κ.2.1.2.2.1,rfl,fun _ h=>h,fun q hq=>Nat.ne_of_lt (l9 q hq),(fun c hc=>nomatch hc),rfl⟩ (fun i u m₁ news₁ h tk g own it hi hJ hoff hown hit F' N'=>?_) (fun h' tk' g'' m' news' F' N' hJ=>?_))
 case sm=>exact small_one (by omega) (by omega) (by omega) (by omega)
 case sz=>rw [rangeSize_nat];omega
 ·k_fold
  obtain ⟨rfl,hov,ps,n,rest,rfl,hsub,hrest,hent,hps⟩:=hJ
  obtain ⟨gm,F''⟩:=fr_form hov F'
  simp only [ovF_n,ovF_c] at F''
  rw [show (1:Int)+(i:Int) * 1=((i+1:Nat):Int) by omega] at F''
  clear F' lF' lN' lR' hov;have N'':=news_swap N'
  clear N';have hne:∀ p∈own ++ rest,p.1≠_:=fun p hp=>by
   rcases List.mem_append.mp hp with h | h
   ·rw [hown p h];exact fun e=>hoff _ List.mem_cons_self e.symm
   ·exact hrest p h
  have hx1:WIs κ.1.1.1.1.1.params (own ++ rest) κ.2.1.2.2.2.1 cs1_ b1_ n1_ nt1_:=hw1.mono (fun p hp=>List.mem_append_right own (hsub p hp))
  have hx2:WIs κ.1.1.1.1.1.params (own ++ rest) κ.2.1.2.2.2.2 cs2_ b2_ n2_ nt2_:=hw2.mono (fun p hp=>List.mem_append_right own (hsub p hp))
  have x3:=List.mem_append_right own (hsub _ p3)
  have x4:=List.mem_append_right own (hsub _ p4)
  have y3:=List.mem_append_right own (hsub _ q3)
  have y4:=List.mem_append_right own (hsub _ q4)
  have hpl:ps.length <= 990:=by
   have e1:=congrArg List.length hps
   rw [List.length_map] at e1
   have e2:=witZ_len notSame cs1_ cs2_ b1_ b2_ nt1_ nt2_ i
   omega
  k_steps
  ·dsimp only [StepG]
   (rename Fr _ _ _ _=>kF9);(rename News _ _ _ _=>kN9);have e9:=wit_t (notSame_t (cs1:=cs1_) (cs2:=cs2_) (b1:=b1_) (b2:=b2_) (nt1:=nt1_) (nt2:=nt2_) (i:=i) (by assumption))
   obtain ⟨m9,nw9,f1,f2,f3,f4⟩:=trip_step (new:=[⟨_,_,_,_,_,_,_⟩]) (names:=["ts"]) (g₀:=κ.2.1.1.2.2.gens) (f:=witZ notSame cs1_ cs2_ b1_ b2_ nt1_ nt2_) kN9 kF9 (ov_self.set (by decide +kernel)) (by k_mem) (fun p hp=>by simp only [List.mem_cons];simp [hp]) hsub hrest hoff hit hent (one_in (by k_mem)) (by simp) (by rw [List.map_append,hps,e9];rfl)
   exact ⟨_,_,_,_,_,rfl,f1,f2,f3,f4⟩
  ·dsimp only [StepG]
   (rename Fr _ _ _ _=>kF9);(rename News _ _ _ _=>kN9);have e9:=wit_f (notSame_f (cs1:=cs1_) (cs2:=cs2_) (b1:=b1_) (b2:=b2_) (nt1:=nt1_) (nt2:=nt2_) (i:=i) (by assumption))
   obtain ⟨m9,nw9,f1,f2,f3,f4⟩:=trip_step (new:=[]) (names:=["ts"]) (g₀:=κ.2.1.1.2.2.gens) (f:=witZ notSame cs1_ cs2_ b1_ b2_ nt1_ nt2_) kN9 kF9 (ov_self.set (by decide +kernel)) (by k_mem) (fun p hp=>by simp only [List.mem_cons];simp [hp]) hsub hrest hoff hit hent (fun c hc=>nomatch hc) (by simp) (by rw [List.append_nil,hps,e9])
   exact ⟨_,_,_,_,_,rfl,f1,f2,f3,f4⟩
 ·obtain ⟨rfl,hov,ps,n,rest,rfl,hsub,hrest,hent,hps⟩:=hJ
  obtain ⟨gm,F''⟩:=fr_form0 hov F'
  simp only [ovF_n,ovF_c] at F''
  clear F' lF' lN' lR' hov;k_steps;exact hret _ _ _ _ _ _ (by assumption) (by assumption) hsub hrest hent hps
theorem core:Sc:=seg.2 fun g L h=>pick_all (P:=fun d:Heap×Addr×Heap=>seg.1 d.1 d.2.1 d.2.2) (by with_unfolding_all exact body) (g,L,h)
end e_ws_notsame
theorem ws_notsame {r:Nat}:@S_ws_notsame w mean mg mb p loose dp un gd cn cs₀ a ccd cl outer A₀ base h₀ L m s Q E news w1 w2 cs1 cs2 b1 n1 nt1 b2 n2 nt2 r:=@pick_all _ _ e_ws_notsame.Sd (by with_unfolding_all exact e_ws_notsame.core) (((((_,_),_,_),(_,_),_,_),((_,_),_,_),(_,_),_,_,_),(((_,_),_,_),(_,_),_,_,_),((_,_),_,_),(_,_),_,_,_)
end
end
section
noncomputable def addC (c:List Int) (b:Nat):List Int:=(padC c b).set b ((padC c b).getD b 0+1)
theorem padC_getD (c:List Int) (b i:Nat):(padC c b).getD i 0=c.getD i 0:=by
 unfold padC
 split
 ·rw [List.getD_eq_getElem?_getD,List.getD_eq_getElem?_getD,List.getElem?_append]
  split
  ·rfl
  ·next h =>
   rw [List.getElem?_eq_none (l:=c) (by omega),List.getElem?_replicate]
   split<;>rfl
 ·rfl
theorem padC_len (c:List Int) (b:Nat):(padC c b).length=max c.length (b+1):=by
 unfold padC
 split
 ·rw [List.length_append,List.length_replicate];omega
 ·omega
theorem addC_getD (c:List Int) (b i:Nat):(addC c b).getD i 0=c.getD i 0+(if b=i then 1 else 0):=by
 unfold addC
 rw [List.getD_eq_getElem?_getD,List.getElem?_set]
 have hl:=padC_len c b
 split
 ·next h =>
  subst h;rw [if_pos (by omega),padC_getD]
  rfl
 ·next h=>rw [<- List.getD_eq_getElem?_getD,padC_getD,Int.add_zero]
theorem addC_len (c:List Int) (b:Nat):(addC c b).length=max c.length (b+1):=by
 unfold addC
 rw [List.length_set,padC_len]
structure CountIs (cs:List Int) (W:List Nat):Prop where
 val:∀ i,cs.getD i 0=((W.count i:Nat):Int)
 lt:∀ w∈W,w < cs.length
 last:∀ n,cs.length=n+1 -> n∈W
theorem CountIs.nil:CountIs [] []:=⟨fun i=>rfl,(fun w h=>nomatch h),(fun n h=>nomatch h)⟩
theorem CountIs.snoc {cs:List Int} {W:List Nat} (h:CountIs cs W) (b:Nat):CountIs (addC cs b) (W ++ [b]):=by
 refine ⟨fun i=>?_,fun w hw=>?_,fun n hn=>?_⟩
 ·rw [addC_getD,h.val,List.count_append,List.count_singleton]
  by_cases e:b=i
  ·simp [e]
  ·simp [e]
 ·rw [addC_len]
  rcases List.mem_append.mp hw with h1 | h1
  ·have:=h.lt w h1;omega
  ·rw [List.mem_singleton.mp h1];omega
 ·rw [addC_len] at hn
  by_cases e:n=b
  ·rw [e];simp
  ·exact List.mem_append_left _ (h.last n (by omega))
theorem CountIs.fold {cs:List Int} {W:List Nat} (h:CountIs cs W):∀ V:List Nat,CountIs (V.foldl addC cs) (W ++ V):=by
 intro V;induction V generalizing cs W with
 | nil=>rw [List.append_nil];exact h
 | cons v V ih=>rw [show W ++ v::V=(W ++ [v]) ++ V by simp];exact ih (h.snoc v)
theorem sum_hit (g:Nat -> Int) (a w:Nat):∀ n:Nat,((List.range n).map fun j=>g (a+j) * (if w=a+j then 1 else 0)).sum=if a <= w /\ w < a+n then g w else 0
 | 0=>by rw [if_neg (by omega)];rfl
 | n+1=>by
  rw [List.range_succ,List.map_append,List.sum_append,sum_hit g a w n]
  show _+(g (a+n) * _+0)=_
  by_cases h:w=a+n
  ·subst h
   rw [if_neg (by omega),if_pos (by omega),if_pos (by omega)];omega
  ·rw [if_neg h]
   by_cases h2:a <= w /\ w < a+n
   ·rw [if_pos h2,if_pos (by omega)];omega
   ·rw [if_neg h2,if_neg (by omega)];omega
theorem sum_add (f g:Nat -> Int):∀ l:List Nat,(l.map fun j=>f j+g j).sum=(l.map f).sum+(l.map g).sum
 | []=>rfl
 | a::l=>by simp only [List.map_cons,List.sum_cons,sum_add f g l];omega
theorem sum_count (g:Nat -> Int) (a n:Nat) (h0:∀ w,w < a -> g w=0):∀ W:List Nat,(∀ w∈W,w < a+n) -> ((List.range n).map fun j=>g (a+j) * ((W.count (a+j):Nat):Int)).sum=(W.map g).sum
 | [],h=>by
  simp only [List.count_nil,List.map_nil,List.sum_nil]
  generalize List.range n=l
  induction l with
  | nil=>rfl
  | cons x l ih=>rw [List.map_cons,List.sum_cons,ih];simp
 | w::W,h=>by
  have ih:=sum_count g a n h0 W fun v hv=>h v (.tail _ hv)
  have e:∀ j,g (a+j) * (((w::W).count (a+j):Nat):Int)=g (a+j) * ((W.count (a+j):Nat):Int)+g (a+j) * (if w=a+j then 1 else 0):=fun j=>by
   rw [List.count_cons,<- Int.mul_add]
   by_cases e:w=a+j<;>simp [e]
  simp only [e]
  rw [sum_add,ih,sum_hit,List.map_cons,List.sum_cons]
  have:=h w (.head _)
  by_cases h2:a <= w
  ·rw [if_pos ⟨h2,this⟩];omega
  ·rw [if_neg (by omega),h0 w (by omega)];omega
noncomputable def ilW (W:List Nat) (b t:Nat):Nat:=b+t * ((W.map (· / t)).sum+W.length)
theorem fdiv_nat (a t:Nat):((a:Nat):Int).fdiv (t:Int)=((a / t:Nat):Int):=by
 rw [Int.fdiv_eq_ediv_of_nonneg _ (Int.natCast_nonneg _)];rfl
theorem cast_sum (l:List Nat) (f:Nat -> Nat):(l.map fun w=>((f w:Nat):Int)).sum=(((l.map f).sum:Nat):Int):=by
 induction l with
 | nil=>rfl
 | cons a l ih=>rw [List.map_cons,List.sum_cons,ih,List.map_cons,List.sum_cons];omega
theorem CountIs.ilS {cs:List Int} {W:List Nat} (h:∀ i,cs.getD i 0=((W.count i:Nat):Int)) {n t:Nat} (ht:1 <= t) (hn:∀ w∈W,w < n):ilS cs n t=(((W.map (· / t)).sum:Nat):Int):=by
 unfold Mine.ilS
 simp only [h,fdiv_nat]
 rw [sum_count (fun i=>((i / t:Nat):Int)) t (n - t) (fun w hw=>by rw [Nat.div_eq_of_lt hw];rfl) W (fun w hw=>by have:=hn w hw;omega),cast_sum W (· / t)]
theorem rangeKs_map (a n:Nat):rangeKs (a:Int) n=(List.range n).map fun j=>((a+j:Nat):Int):=by
 unfold rangeKs
 refine List.map_congr_left fun i _=>?_
 omega
theorem CountIs.indS {cs:List Int} {W:List Nat} (h:CountIs cs W) {t:Nat} (ht:1 <= t):indS (t:Int) cs (rangeFrom (t:Int) cs.length)=(((W.map (· / t)).sum:Nat):Int):=by
 rw [<- CountIs.ilS h.val ht h.lt]
 unfold Mine.indS rangeFrom Mine.ilS
 rw [rangeKs_map,List.map_map,Int.toNat_sub]
 rfl
theorem CountIs.ilZ {cs:List Int} {W:List Nat} (h:CountIs cs W) {t b:Nat} (ht:1 <= t):ilZ cs b W.length (t:Int)=((ilW W b t:Nat):Int):=by
 unfold Mine.ilZ ilW
 rw [h.indS ht,Int.natCast_add,Int.natCast_mul,Int.natCast_add]
theorem ones_sum (W:List Nat):(W.map fun _=>(1:Int)).sum=((W.length:Nat):Int):=by
 induction W with
 | nil=>rfl
 | cons w W ih=>rw [List.map_cons,List.sum_cons,ih,List.length_cons];omega
theorem CountIs.sum {cs:List Int} {W:List Nat} (h:∀ i,cs.getD i 0=((W.count i:Nat):Int)) (hn:∀ w∈W,w < cs.length):cs.sum=((W.length:Nat):Int):=by
 have e1:cs=(List.range cs.length).map fun j=>(1:Int) * ((W.count (0+j):Nat):Int):=by
  refine List.ext_getElem (by simp) fun i h1 h2=>?_
  simp only [List.getElem_map,List.getElem_range,Int.one_mul,Nat.zero_add,<- h]
  rw [List.getD_eq_getElem?_getD,List.getElem?_eq_getElem h1]
  rfl
 rw [e1,sum_count (fun _=>1) 0 cs.length (fun w hw=>by omega) W (fun w hw=>by have:=hn w hw;omega)]
 exact ones_sum W
noncomputable def padTo (cs:List Int) (n:Nat):List Int:=cs ++ List.replicate (n - cs.length) 0
theorem padTo_len {cs:List Int} {n:Nat} (h:cs.length <= n):(padTo cs n).length=n:=by
 unfold padTo
 rw [List.length_append,List.length_replicate];omega
theorem padTo_getD (cs:List Int) (n i:Nat):(padTo cs n).getD i 0=cs.getD i 0:=by
 unfold padTo
 rw [List.getD_eq_getElem?_getD,List.getD_eq_getElem?_getD,List.getElem?_append]
 split
 ·rfl
 ·next h =>
  rw [List.getElem?_eq_none (l:=cs) (by omega),List.getElem?_replicate]
  split<;>rfl
theorem trimZ_pad (cs:List Int):∀ k,trimZ (cs ++ List.replicate k 0)=trimZ cs
 | 0=>by simp
 | k+1=>by rw [List.replicate_succ',<- List.append_assoc,trimZ_zero,trimZ_pad cs k]
theorem CountIs.trim {cs:List Int} {W:List Nat} (h:CountIs cs W) (n:Nat):trimZ (padTo cs n)=cs:=by
 unfold padTo
 rw [trimZ_pad]
 rcases List.eq_nil_or_concat cs with e | ⟨l,a,e⟩
 ·rw [e];rfl
 ·rw [List.concat_eq_append] at e
  have e1:cs.length=l.length+1:=by rw [e];simp
  have e2:cs.getD l.length 0=a:=by rw [e,List.getD_eq_getElem?_getD,List.getElem?_append_right (Nat.le_refl _)];simp
  have e3:=h.val l.length
  rw [e2] at e3
  have e4:=List.count_pos_iff.mpr (h.last _ e1)
  rw [e]
  exact trimZ_keep (by omega)
theorem CountIs.nonneg {cs:List Int} {W:List Nat} (h:∀ i,cs.getD i 0=((W.count i:Nat):Int)):∀ c∈cs,0 <= c /\ c <= (W.length:Int):=fun c hc=>by
 obtain ⟨i,hi,rfl⟩:=List.mem_iff_getElem.mp hc
 have e:=h i
 rw [List.getD_eq_getElem?_getD,List.getElem?_eq_getElem hi] at e
 have e2:cs[i]=((W.count i:Nat):Int):=e
 have e3:=List.count_le_length (a:=i) (l:=W)
 omega
theorem CountIs.ext {cs cs':List Int} {W W':List Nat} (h:CountIs cs W) (h':CountIs cs' W') (he:∀ i,W.count i=W'.count i):cs=cs':=by
 have hle:∀ {cs cs':List Int} {W W':List Nat},CountIs cs W -> CountIs cs' W' -> (∀ i,W.count i=W'.count i) -> cs.length <= cs'.length:=by
  intro cs cs' W W' h h' he;cases e:cs.length with
  | zero=>omega
  | succ n =>
   have h1:=List.count_pos_iff.mpr (h.last n e)
   rw [he] at h1
   exact h'.lt n (List.count_pos_iff.mp h1)
 have hl:cs.length=cs'.length:=Nat.le_antisymm (hle h h' he) (hle h' h fun i=>(he i).symm)
 refine List.ext_getElem hl fun i h1 h2=>?_
 have e1:=h.val i
 have e2:=h'.val i
 rw [List.getD_eq_getElem?_getD,List.getElem?_eq_getElem h1] at e1
 rw [List.getD_eq_getElem?_getD,List.getElem?_eq_getElem h2,<- he i] at e2
 exact (show cs[i]=_ from e1).trans (show cs'[i]=_ from e2).symm
theorem places_tell {W W':List Nat} {r:Nat} (hl:W.length=W'.length) (h1:∀ w∈W,w <= r) (h2:∀ w∈W',w <= r) (he:∀ t,1 <= t -> (W.map (· / t)).sum=(W'.map (· / t)).sum):∀ i,W.count i=W'.count i:=by
 have key:∀ W:List Nat,(∀ w∈W,w <= r) -> ∀ t,1 <= t -> t <= r -> ((W.count t:Nat):Int)+((List.range (r - t)).map fun j=>(((t+1+j) / t:Nat):Int) * ((W.count (t+1+j):Nat):Int)).sum=(((W.map (· / t)).sum:Nat):Int):=by
  intro W h1 t ht hr;rw [<- cast_sum W (· / t),<- sum_count (fun i=>((i / t:Nat):Int)) t (r - t+1) (fun w hw=>by rw [Nat.div_eq_of_lt hw];rfl) W (fun w hw=>by have:=h1 w hw;omega),List.range_succ_eq_map,List.map_cons,List.sum_cons,List.map_map]
  congr 1
  ·rw [Nat.add_zero,Nat.div_self (by omega)];omega
  ·congr 1
   refine List.map_congr_left fun j _=>?_
   show _=(((t+(j+1)) / t:Nat):Int) * ((W.count (t+(j+1)):Nat):Int)
   rw [show t+1+j=t+(j+1) by omega]
 have big:∀ W:List Nat,(∀ w∈W,w <= r) -> ∀ i,r < i -> W.count i=0:=fun W h i hi=>List.count_eq_zero.mpr fun hm=>by have:=h i hm;omega
 have up:∀ n i,1 <= i -> r <= i+n -> W.count i=W'.count i:=by
  intro n;induction n with
  | zero =>
   intro i h3 h4;by_cases e:i=r
   ·subst e
    have k1:=key W h1 i h3 (Nat.le_refl _)
    have k2:=key W' h2 i h3 (Nat.le_refl _)
    rw [Nat.sub_self] at k1 k2
    rw [he i h3] at k1
    simp only [List.range_zero,List.map_nil,List.sum_nil] at k1 k2
    omega
   ·rw [big W h1 i (by omega),big W' h2 i (by omega)]
  | succ n ih =>
   intro i h3 h4;by_cases e:r < i
   ·rw [big W h1 i e,big W' h2 i e]
   ·have k1:=key W h1 i h3 (by omega)
    have k2:=key W' h2 i h3 (by omega)
    rw [he i h3,<- k2] at k1
    have e2:((List.range (r - i)).map fun j=>(((i+1+j) / i:Nat):Int) * ((W.count (i+1+j):Nat):Int))=(List.range (r - i)).map fun j=>(((i+1+j) / i:Nat):Int) * ((W'.count (i+1+j):Nat):Int):=by
     refine List.map_congr_left fun j _=>?_
     rw [ih (i+1+j) (by omega) (by omega)]
    rw [e2] at k1
    omega
 intro i;by_cases h3:1 <= i
 ·exact up r i h3 (by omega)
 ·have hi:i=0:=by omega
  subst hi;have z:∀ W:List Nat,(∀ w∈W,w <= r) -> ((W.count 0:Nat):Int)+((List.range r).map fun j=>(1:Int) * ((W.count (1+j):Nat):Int)).sum=((W.length:Nat):Int):=by
   intro W h;have e:=sum_count (fun _=>1) 0 (r+1) (fun w hw=>by omega) W (fun w hw=>by have:=h w hw;omega)
   rw [List.range_succ_eq_map,List.map_cons,List.sum_cons,List.map_map,ones_sum] at e
   rw [<- e]
   congr 1
   ·simp
   ·congr 1
    refine List.map_congr_left fun j _=>?_
    show _=(1:Int) * ((W.count (0+(j+1)):Nat):Int)
    rw [show 1+j=0+(j+1) by omega]
  have z1:=z W h1
  have z2:=z W' h2
  have e2:((List.range r).map fun j=>(1:Int) * ((W.count (1+j):Nat):Int))=(List.range r).map fun j=>(1:Int) * ((W'.count (1+j):Nat):Int):=by
   refine List.map_congr_left fun j _=>?_
   rw [up r (1+j) (by omega) (by omega)]
  rw [e2] at z1
  omega
end
section
theorem wit_nil {q:Int×Int×Int -> Bool} {cs1 cs2:List Int} {b1 b2 nt1 nt2 k:Nat}:witZ q cs1 cs2 b1 b2 nt1 nt2 k=[] ↔ ∀ j,j < k -> q (rowZ cs1 cs2 b1 b2 nt1 nt2 j)=false:=by
 unfold witZ
 rw [List.filter_eq_nil_iff]
 constructor
 ·intro h j hj
  exact Bool.eq_false_iff.mpr (h _ (List.mem_map.mpr ⟨j,List.mem_range.mpr hj,rfl⟩))
 ·intro h x hx
  obtain ⟨j,hj,rfl⟩:=List.mem_map.mp hx
  rw [h j (List.mem_range.mp hj)]
  exact Bool.false_ne_true
structure SideIs (cs:List Int) (W:List Nat) (b n nt:Nat):Prop where
 cnt:CountIs cs W
 nt:nt=W.length
 n:n=W.sum+W.length+b
theorem SideIs.il {cs:List Int} {W:List Nat} {b n nt t:Nat} (h:SideIs cs W b n nt) (ht:1 <= t):ilZ cs b nt (t:Int)=((ilW W b t:Nat):Int):=by
 rw [h.nt];exact h.cnt.ilZ ht
theorem ilW_one (W:List Nat) (b:Nat):ilW W b 1=W.sum+W.length+b:=by
 unfold ilW
 have:(W.map (· / 1))=W:=by simp
 rw [this];omega
theorem ilW_big {W:List Nat} {b t:Nat} (h:∀ w∈W,w < t):ilW W b t=b+t * W.length:=by
 unfold ilW
 have:(W.map (· / t)).sum=0:=by
  induction W with
  | nil=>rfl
  | cons w W ih=>rw [List.map_cons,List.sum_cons,ih fun v hv=>h v (.tail _ hv),Nat.div_eq_of_lt (h w (.head _))]
 rw [this,Nat.zero_add]
theorem lg_le {cs:List Int} {W:List Nat} {b n nt r:Nat} (h:SideIs cs W b n nt) (hr:lgZ cs b <= (r:Int)):(∀ w∈W,w <= r) /\ b <= r /\ cs.length <= r+1:=by
 unfold lgZ at hr
 have h1:((cs.length:Int) - 1) <= r:=Int.le_trans (Int.le_max_left _ _) hr
 have h2:(b:Int) <= r:=Int.le_trans (Int.le_max_right _ _) hr
 exact ⟨fun w hw=>by have:=h.cnt.lt w hw;omega,by omega,by omega⟩
theorem lg_is {cs:List Int} {W:List Nat} {b n nt M:Nat} (h:SideIs cs W b n nt) (h1:∀ w∈W,w <= M) (h2:b <= M) (h3:M∈W \/ M=b):lgZ cs b=(M:Int):=by
 unfold lgZ
 have e1:cs.length <= M+1:=by
  cases e:cs.length with
  | zero=>omega
  | succ k=>have:=h1 k (h.cnt.last k e);omega
 rcases h3 with h3 | h3
 ·have:=h.cnt.lt M h3
  omega
 ·omega
section
variable {cs1 cs2:List Int} {W1 W2:List Nat} {b1 n1 nt1 b2 n2 nt2 r:Nat} (h1:SideIs cs1 W1 b1 n1 nt1) (h2:SideIs cs2 W2 b2 n2 nt2) (hr:(r:Int)=max (lgZ cs1 b1) (lgZ cs2 b2))
include h1 h2 hr
theorem less_says:lessB cs1 cs2 b1 b2 n1 n2 nt1 nt2=true ↔ witZ notLess cs1 cs2 b1 b2 nt1 nt2 (r+1)=[]:=by
 obtain ⟨w1,hb1,l1⟩:=lg_le (r:=r) h1 (by omega)
 obtain ⟨w2,hb2,l2⟩:=lg_le (r:=r) h2 (by omega)
 have hq:witZ notLess cs1 cs2 b1 b2 nt1 nt2 (r+1)=[] ↔ ∀ j,j < r+1 -> ilW W1 b1 (j+1) < ilW W2 b2 (j+1):=by
  rw [wit_nil]
  refine forall_congr' fun j=>forall_congr' fun hj=>?_
  unfold notLess rowZ
  rw [decide_eq_false_iff_not]
  show ¬ (ilZ cs1 b1 nt1 ((j+1:Nat):Int) ≥ ilZ cs2 b2 nt2 ((j+1:Nat):Int)) ↔ _
  rw [h1.il (by omega),h2.il (by omega)]
  omega
 rw [hq]
 have f1:=ilW_one W1 b1
 have f2:=ilW_one W2 b2
 rw [<- h1.n] at f1
 rw [<- h2.n] at f2
 unfold lessB
 by_cases hn:n1 ≥ n2
 ·rw [if_pos hn]
  refine ⟨(fun h=>by cases h),fun h=>?_⟩
  have:=h 0 (by omega)
  rw [Nat.zero_add,f1,f2] at this
  omega
 ·rw [if_neg hn]
  by_cases hs:cs1.length <= 1 /\ cs2.length <= 1
  ·rw [if_pos hs,decide_eq_true_iff]
   have g1:∀ t,1 <= t -> ilW W1 b1 t=b1+t * nt1:=fun t ht=>by rw [h1.nt];exact ilW_big fun w hw=>by have:=h1.cnt.lt w hw;omega
   have g2:∀ t,1 <= t -> ilW W2 b2 t=b2+t * nt2:=fun t ht=>by rw [h2.nt];exact ilW_big fun w hw=>by have:=h2.cnt.lt w hw;omega
   have k1:=g1 1 (Nat.le_refl _)
   have k2:=g2 1 (Nat.le_refl _)
   rw [f1] at k1
   rw [f2] at k2
   constructor
   ·intro h j hj
    rw [g1 _ (by omega),g2 _ (by omega)]
    have h':nt1 <= nt2:=by omega
    obtain ⟨d,rfl⟩:=Nat.exists_eq_add_of_le h'
    rw [Nat.mul_add]
    have:d <= (j+1) * d:=Nat.le_mul_of_pos_left _ (by omega)
    omega
   ·intro h
    by_cases h':nt1 <= nt2
    ·omega
    ·have h3:nt2+1 <= nt1:=by omega
     obtain ⟨d,rfl⟩:=Nat.exists_eq_add_of_le h3
     exfalso
     have h4:=h b2 (by omega)
     rw [g1 _ (by omega),g2 _ (by omega),Nat.mul_add,Nat.mul_add] at h4
     omega
  ·rw [if_neg hs,<- hr,Int.toNat_natCast,List.all_eq_true]
   constructor
   ·intro h j hj
    cases j with
    | zero=>rw [Nat.zero_add,f1,f2];omega
    | succ j =>
     have:=of_decide_eq_true (h j (List.mem_range.mpr (by omega)))
     rw [h1.il (by omega),h2.il (by omega)] at this
     show ilW W1 b1 (j+2) < ilW W2 b2 (j+2)
     omega
   ·intro h j hj
    have hj:=List.mem_range.mp hj
    refine decide_eq_true ?_
    rw [h1.il (by omega),h2.il (by omega)]
    have:=h (j+1) (by omega)
    have:ilW W1 b1 (j+2) < ilW W2 b2 (j+2):=this
    omega
theorem equal_says:(cs1=cs2 /\ b1=b2) ↔ witZ notSame cs1 cs2 b1 b2 nt1 nt2 (r+1)=[]:=by
 obtain ⟨w1,hb1,l1⟩:=lg_le (r:=r) h1 (by omega)
 obtain ⟨w2,hb2,l2⟩:=lg_le (r:=r) h2 (by omega)
 have hq:witZ notSame cs1 cs2 b1 b2 nt1 nt2 (r+1)=[] ↔ ∀ j,j < r+1 -> ilW W1 b1 (j+1)=ilW W2 b2 (j+1):=by
  rw [wit_nil]
  refine forall_congr' fun j=>forall_congr' fun hj=>?_
  unfold notSame rowZ
  rw [decide_eq_false_iff_not]
  show ¬ (ilZ cs1 b1 nt1 ((j+1:Nat):Int)≠ilZ cs2 b2 nt2 ((j+1:Nat):Int)) ↔ _
  rw [h1.il (by omega),h2.il (by omega)]
  omega
 rw [hq]
 constructor
 ·rintro ⟨rfl,rfl⟩ j hj
  have e:nt1=nt2:=by
   have e1:=CountIs.sum h1.cnt.val h1.cnt.lt
   have e2:=CountIs.sum h2.cnt.val h2.cnt.lt
   rw [h1.nt,h2.nt];omega
  subst e;have i1:=h1.il (t:=j+1) (by omega)
  have i2:=h2.il (t:=j+1) (by omega)
  omega
 ·intro h
  have e:=h r (by omega)
  rw [ilW_big fun w hw=>by have:=w1 w hw;omega,ilW_big fun w hw=>by have:=w2 w hw;omega] at e
  have e1:W1.length=W2.length:=by
   have e3:=congrArg (· / (r+1)) e
   simp only [Nat.add_mul_div_left _ _ (show 0 < r+1 by omega),Nat.div_eq_of_lt (show b1 < r+1 by omega),Nat.div_eq_of_lt (show b2 < r+1 by omega)] at e3
   omega
  have e2:b1=b2:=by rw [e1] at e;omega
  refine ⟨h1.cnt.ext h2.cnt (places_tell (r:=r) e1 w1 w2 fun t ht=>?_),e2⟩
  by_cases ht2:t <= r+1
  ·have e3:=h (t - 1) (by omega)
   rw [show t - 1+1=t by omega] at e3
   unfold ilW at e3
   rw [e2,e1] at e3
   have e4:t * ((W1.map (· / t)).sum+W2.length)=t * ((W2.map (· / t)).sum+W2.length):=by omega
   have:=Nat.eq_of_mul_eq_mul_left (by omega) e4
   omega
  ·have z:∀ W:List Nat,(∀ w∈W,w <= r) -> (W.map (· / t)).sum=0:=by
    intro W hw;induction W with
    | nil=>rfl
    | cons w W ih=>rw [List.map_cons,List.sum_cons,ih fun v hv=>hw v (.tail _ hv),Nat.div_eq_of_lt (by have:=hw w (.head _);omega)]
   rw [z W1 w1,z W2 w2]
end
end
section
noncomputable abbrev ofL (l:List Nat):Str:=⟨l.toArray⟩
theorem ofL_toL (l:List Nat):(ofL l).cps.toList=l:=rfl
theorem toL_ofL (x:Str):ofL x.cps.toList=x:=by
 apply Str.ext'
 simp [ofL]
theorem app_cps (x y:Str):(x ++ y).cps.toList=x.cps.toList ++ y.cps.toList:=by
 show (Str.append x y).cps.toList=_
 simp [Str.append]
theorem cut_one {c:Nat}:∀ {a b x y:List Nat},c∉a -> c∉b -> a ++ c::x=b ++ c::y -> a=b /\ x=y
 | [],[],x,y,_,_,h=>⟨rfl,(List.cons.inj h).2⟩
 | [],d::b,x,y,_,hb,h=>absurd (by rw [(List.cons.inj h).1];exact .head _) hb
 | d::a,[],x,y,ha,_,h=>absurd (by rw [<- (List.cons.inj h).1];exact .head _) ha
 | d::a,e::b,x,y,ha,hb,h=>by
  obtain ⟨h1,h2⟩:=List.cons.inj h
  obtain ⟨h3,h4⟩:=cut_one (a:=a) (b:=b) (fun h=>ha (.tail _ h)) (fun h=>hb (.tail _ h)) h2
  exact ⟨by rw [h1,h3],h4⟩
theorem join_inj {c:Nat}:∀ {ls ls':List Str},ls≠[] -> ls'≠[] -> (∀ p∈ls,c∉p.cps.toList) -> (∀ p∈ls',c∉p.cps.toList) -> (Str.join ⟨#[c]⟩ ls).cps.toList=(Str.join ⟨#[c]⟩ ls').cps.toList -> ls=ls'
 | [],_,h,_,_,_,_=>absurd rfl h
 | _::_,[],_,h,_,_,_=>absurd rfl h
 | [a],[b],_,_,_,_,h=>by rw [<- toL_ofL a,<- toL_ofL b];exact congrArg (fun l=>[ofL l]) h
 | [a],b::d::r,_,_,ha,_,h=>by
  exfalso
  have e:(Str.join ⟨#[c]⟩ (b::d::r)).cps.toList=b.cps.toList ++ c::(Str.join ⟨#[c]⟩ (d::r)).cps.toList:=by
   show ((b ++ (⟨#[c]⟩:Str) ++ Str.join ⟨#[c]⟩ (d::r):Str)).cps.toList=_
   rw [app_cps,app_cps];simp
  rw [e] at h
  refine ha a (.head _) ?_
  have h':a.cps.toList=_:=h
  rw [h'];simp
 | a::d::r,[b],_,_,_,hb,h=>by
  exfalso
  have e:(Str.join ⟨#[c]⟩ (a::d::r)).cps.toList=a.cps.toList ++ c::(Str.join ⟨#[c]⟩ (d::r)).cps.toList:=by
   show ((a ++ (⟨#[c]⟩:Str) ++ Str.join ⟨#[c]⟩ (d::r):Str)).cps.toList=_
   rw [app_cps,app_cps];simp
  rw [e] at h
  refine hb b (.head _) ?_
  have h':_=b.cps.toList:=h
  rw [<- h'];simp
 | a::d::r,b::d'::r',_,_,ha,hb,h=>by
  have e:∀ (a d:Str) (r:List Str),(Str.join ⟨#[c]⟩ (a::d::r)).cps.toList=a.cps.toList ++ c::(Str.join ⟨#[c]⟩ (d::r)).cps.toList:=fun a d r=>by
   show ((a ++ (⟨#[c]⟩:Str) ++ Str.join ⟨#[c]⟩ (d::r):Str)).cps.toList=_
   rw [app_cps,app_cps];simp
  rw [e,e] at h
  obtain ⟨h1,h2⟩:=cut_one (ha a (.head _)) (hb b (.head _)) h
  have ih:=join_inj (ls:=d::r) (ls':=d'::r') (by simp) (by simp) (fun p hp=>ha p (.tail _ hp)) (fun p hp=>hb p (.tail _ hp)) h2
  rw [ih,<- toL_ofL a,<- toL_ofL b,h1]
theorem split_join {c:Nat} {ls:List Str} (h:ls≠[]) (hf:∀ p∈ls,c∉p.cps.toList):Txt.split (Str.join ⟨#[c]⟩ ls) ⟨#[c]⟩=ls:=by
 refine join_inj (c:=c) (fun e=>?_) h (StrLaws.split_free _ c) hf (by rw [StrLaws.join_split])
 have:=split_pos (Str.join ⟨#[c]⟩ ls) ⟨#[c]⟩
 rw [e] at this
 exact absurd this (by decide)
theorem join_ends (p:List Nat):∀ ws:List (List Nat),(Str.join ⟨#[59]⟩ ((ws ++ [p]).map ofL)).cps.toList=(ws.map fun w=>w ++ [59]).flatten ++ p
 | []=>rfl
 | w::ws=>by
  have ih:=join_ends p ws
  obtain ⟨d,r,e⟩:∃ d r,(ws ++ [p]).map ofL=d::r:=by cases ws<;>exact ⟨_,_,rfl⟩
  rw [List.cons_append,List.map_cons]
  rw [e] at ih ⊢
  show ((ofL w ++ (⟨#[59]⟩:Str) ++ Str.join ⟨#[59]⟩ (d::r):Str)).cps.toList=_
  rw [app_cps,app_cps,ih]
  simp
theorem split_words (l:List Nat):Txt.split (ofL l) (";":Str)=((wordsW l).1 ++ [(wordsW l).2]).map ofL:=by
 have e:ofL l=Str.join ⟨#[59]⟩ (((wordsW l).1 ++ [(wordsW l).2]).map ofL):=by
  rw [<- toL_ofL (Str.join _ _),join_ends,words_join]
 have e2:(";":Str)=⟨#[59]⟩:=rfl
 rw [e2]
 conv=>lhs;rw [e]
 refine split_join (by simp) fun p hp=>?_
 obtain ⟨w,hw,rfl⟩:=List.mem_map.mp hp
 rw [ofL_toL]
 rcases List.mem_append.mp hw with h | h
 ·exact (words_free l).1 w h
 ·rw [List.mem_singleton.mp h];exact (words_free l).2
noncomputable def rowStr (l:List Nat):Str:=flatL (l.filter fun c=>c != 124)
theorem rowsOf_chunks (cells:List Nat) (t:Nat):rowsOf (ofL cells) t=(chunksOf t cells).map rowStr:=by
 unfold rowsOf chunksOf
 rw [List.map_map]
 have:(ofL cells).cps.size=cells.length:=rfl
 rw [this]
 rfl
theorem rowsAll_words (t:Nat) (ws:List (List Nat)) (p:List Nat):rowsAll ((ws ++ [p]).map ofL) t ((ws ++ [p]).map ofL).length=(rowsW t (ws,p)).map rowStr:=by
 have e1:((ws ++ [p]).map ofL).length=ws.length+1:=by simp
 rw [e1,rowsAll_succ]
 unfold rowsW
 rw [List.map_append (l₂:=chunksOf t p)]
 have e2:∀ k (h:k < ws.length),((ws ++ [p]).map ofL).getD k ""=ofL ws[k]:=fun k h=>by
  rw [List.getD_eq_getElem?_getD,List.getElem?_map,List.getElem?_append_left h,List.getElem?_eq_getElem h]
  rfl
 congr 1
 ·unfold rowsAll
  rw [List.map_flatten,List.map_map]
  congr 1
  refine List.ext_getElem (by simp) fun i h1 h2=>?_
  have hi:i < ws.length:=by simpa using h1
  simp only [List.getElem_map,List.getElem_range,Function.comp]
  rw [<- rowsOf_chunks]
  congr 1
  unfold cellsOf
  rw [if_pos (by rw [e1];omega),e2 i hi,<- toL_ofL (_ ++ _),app_cps]
  rfl
 ·rw [<- rowsOf_chunks]
  congr 1
  unfold cellsOf
  rw [if_neg (by rw [e1];omega),List.getD_eq_getElem?_getD,List.getElem?_map,List.getElem?_append_right (Nat.le_refl _),Nat.sub_self]
  rfl
theorem chunk_zero (c:Nat) (S:LS):chunkStep 0 c S=chunkStep 2 c S:=by
 obtain ⟨ls,k,cs⟩:=S
 unfold chunkStep
 cases cs with
 | cons a r=>simp
 | nil =>
  cases k with
  | zero=>simp
  | succ k=>simp
theorem laid_zero (k0:Nat) (l:List Nat):laidL 0 k0 l=laidL 2 k0 l:=by
 unfold laidL runL
 have e:signStep 0=signStep 2:=by
  funext S c
  unfold signStep
  rw [chunk_zero]
 rw [e]
theorem newline_is {S:LS} {h:Nat} (hk:S.k=2 * h) (h4:∀ c∈S.cs,c≠124):newlineStep S=⟨S.ls ++ (if (List.replicate h 124 ++ S.cs)=[] then [] else [rowStr (List.replicate h 124 ++ S.cs)]),0,[]⟩:=by
 obtain ⟨ls,k,cs⟩:=S
 simp only at hk h4
 subst hk;have e:rowStr (List.replicate h 124 ++ cs)=flatL cs:=by
  unfold rowStr
  rw [List.filter_append,List.filter_eq_nil_iff.mpr (fun a ha=>by rw [List.eq_of_mem_replicate ha];decide),List.nil_append,List.filter_eq_self.mpr (fun a ha=>by simpa using h4 a ha)]
 unfold newlineStep
 rw [e]
 cases cs with
 | cons a r=>simp
 | nil =>
  cases h with
  | zero=>simp
  | succ h =>
   simp only [ne_eq,not_true_eq_false,if_false]
   rw [if_pos (by omega),if_neg (by simp [List.replicate_succ])]
   rfl
theorem laid_rows {t:Nat} (ht:1 <= t):∀ (l:List Nat) (S:LS) (h:Nat),S.k=2 * h -> h+S.cs.length <= t -> (∀ c∈S.cs,c≠124) -> (∀ c∈l,c≠124) →
  (newlineStep (l.foldl (signStep (2 * t)) S)).ls=S.ls ++ (rowsL t (List.replicate h 124 ++ S.cs) l).map rowStr
 | [],S,h,hk,hl,h4,hl4=>by
  rw [List.foldl_nil,newline_is hk h4,rowsL]
  split<;>simp
 | c::r,S,h,hk,hl,h4,hl4=>by
  have hc:=hl4 c (.head _)
  have hr:∀ c∈r,c≠124:=fun d hd=>hl4 d (.tail _ hd)
  have hlen:(List.replicate h 124 ++ S.cs).length=h+S.cs.length:=by simp
  rw [List.foldl_cons,rowsL,hlen]
  have ih0:=fun ls=>laid_rows ht r ⟨ls,0,[]⟩ 0 rfl (Nat.zero_le _) (fun c hc=>nomatch hc) hr
  by_cases hf:h+S.cs.length+1 <= t
  ·rw [if_pos hf]
   have e1:chunkStep (2 * t) c S=⟨S.ls,S.k,S.cs ++ [c]⟩:=by
    unfold chunkStep
    rw [if_pos (by omega)]
   have h4':∀ d∈S.cs ++ [c],d≠124:=fun d hd=>by
    rcases List.mem_append.mp hd with h | h
    ·exact h4 d h
    ·rw [List.mem_singleton.mp h];exact hc
   have e0:signStep (2 * t) S c=if c=59 then newlineStep (chunkStep (2 * t) c S) else chunkStep (2 * t) c S:=rfl
   rw [e0,e1]
   by_cases h59:c=59
   ·rw [if_pos h59,if_pos h59,newline_is (S:=⟨S.ls,S.k,S.cs ++ [c]⟩) (h:=h) hk h4',ih0]
    rw [if_neg (by simp)]
    simp
   ·rw [if_neg h59,if_neg h59,laid_rows ht r ⟨S.ls,S.k,S.cs ++ [c]⟩ h hk (by simp;omega) h4' hr]
    simp
  ·rw [if_neg hf]
   have e1:chunkStep (2 * t) c S=⟨S.ls ++ [rowStr (List.replicate h 124 ++ S.cs)],0,[c]⟩:=by
    have n1:=newline_is hk h4
    unfold chunkStep
    rw [if_neg (by omega)]
    unfold newlineStep at n1
    have hne:(List.replicate h 124 ++ S.cs)≠[]:=fun e=>by
     have:=congrArg List.length e
     rw [hlen,List.length_nil] at this
     omega
    rw [if_neg hne] at n1
    by_cases g1:S.cs≠[]
    ·rw [if_pos g1] at n1 ⊢
     have n2:=congrArg LS.ls n1
     dsimp only at n2
     rw [n2]
    ·rw [if_neg g1] at n1 ⊢
     by_cases g2:S.k > 0
     ·rw [if_pos g2] at n1 ⊢
      have n2:=congrArg LS.ls n1
      dsimp only at n2
      rw [n2]
     ·exfalso
      have:S.cs=[]:=by simpa using g1
      rw [this] at hf
      simp at hf
      omega
   have h4':∀ d∈[c],d≠124:=fun d hd=>by rw [List.mem_singleton.mp hd];exact hc
   have e0:signStep (2 * t) S c=if c=59 then newlineStep (chunkStep (2 * t) c S) else chunkStep (2 * t) c S:=rfl
   rw [e0,e1]
   by_cases h59:c=59
   ·rw [if_pos h59,if_pos h59,newline_is (S:=⟨S.ls ++ [rowStr (List.replicate h 124 ++ S.cs)],0,[c]⟩) (h:=0) rfl h4',ih0]
    simp
   ·rw [if_neg h59,if_neg h59,laid_rows ht r ⟨S.ls ++ [rowStr (List.replicate h 124 ++ S.cs)],0,[c]⟩ 0 rfl (by simp;omega) h4' hr]
    simp
noncomputable abbrev fullL (hd:Nat) (l:List Nat):List Nat:=List.replicate hd 124 ++ l
noncomputable abbrev pageRows (t hd:Nat) (l:List Nat):List Str:=(rowsW t (wordsW (fullL hd l))).map rowStr
noncomputable abbrev partsS (hd:Nat) (l:List Nat):List Str:=Txt.split (ofL (fullL hd l)) (";":Str)
theorem cut_page (t hd:Nat) (l:List Nat):cutS (partsS hd l) t=Txt.join ("\n":Str) (pageRows t hd l):=by
 unfold cutS
 rw [partsS,split_words,rowsAll_words]
theorem rowsL_full {t hd:Nat} (ht:1 <= t) (hh:hd <= 1) (l:List Nat):rowsL t (List.replicate hd 124 ++ []) l=rowsW t (wordsW (fullL hd l)):=by
 rw [rowsL_words ht l _ (by simp;omega),List.append_nil,fullL,words_free_app fun h=>absurd (List.eq_of_mem_replicate h) (by decide)]
theorem laid_page {t hd:Nat} (ht:1 <= t) (hh:hd <= 1) {l:List Nat} (h4:∀ c∈l,c≠124):laidL (2 * t) (2 * hd) l=cutS (partsS hd l) t:=by
 rw [cut_page]
 unfold laidL runL
 rw [laid_rows ht l ⟨[],2 * hd,[]⟩ hd rfl (by simp;omega) (fun c hc=>nomatch hc) h4,rowsL_full ht hh,List.nil_append]
theorem laid_page0 {hd:Nat} (hh:hd <= 1) {l:List Nat} (h4:∀ c∈l,c≠124):laidL (2 * 0) (2 * hd) l=cutS (partsS hd l) 1:=by
 rw [<- laid_page (Nat.le_refl 1) hh h4,laid_zero]
end
section
noncomputable def lawB:List Stmt:=sBody (dAt 22)
noncomputable def lawSc:Scope:=sScope (dAt 22)
noncomputable abbrev lawE (L fa:Addr) (ccd:Value):Env:=envOfC "law" lawSc L fa ccd
noncomputable abbrev lawA (L fa:Addr) (ccd:Value):Around:=callerA.deeper (lawE L fa ccd)
structure SD where
 mt:List Nat
 hd:Nat
 t:Tok
 P:Addr
 l:List (Str×Tok)
 nl:Nat
 ws:Addr
noncomputable abbrev SD.txt (d:SD):Value:=.str (ofL d.mt) d.t
noncomputable abbrev SD.wrd (d:SD):List (List Nat)×List Nat:=wordsW (fullL d.hd d.mt)
noncomputable abbrev SD.W (d:SD):List Nat:=d.wrd.1.map List.length
noncomputable abbrev SD.b (d:SD):Nat:=d.wrd.2.length
noncomputable abbrev SD.cs (d:SD):List Int:=d.W.foldl addC []
noncomputable abbrev SD.n (d:SD):Nat:=(fullL d.hd d.mt).length
noncomputable abbrev SD.nt (d:SD):Nat:=d.wrd.1.length
structure SD.Ok (d:SD):Prop where
 sign:∀ c∈d.mt,SignIs c /\ c≠124
 len:d.mt.length <= 60
 hd:d.hd <= 1
 parts:d.l.map (·.1)=partsS d.hd d.mt
structure SD.In (P:Params) (led:List (Addr×Obj)) (d:SD):Prop where
 parts:(d.P,W.listOf (strValues d.l).toArray d.nl)∈led
 ws:WIs P led d.ws d.cs d.b d.n d.nt
theorem SD.In.mono {P:Params} {led led':List (Addr×Obj)} {d:SD} (h:d.In P led) (hs:∀ p∈led,p∈led'):d.In P led':=⟨hs _ h.parts,h.ws.mono hs⟩
theorem cA4 {a b c d Q:Prop} (h:a /\ b /\ c /\ d) (k:a -> b -> c -> d -> Q):Q:=k h.1 h.2.1 h.2.2.1 h.2.2.2
theorem cA5 {a b c d e Q:Prop} (h:a /\ b /\ c /\ d /\ e) (k:a -> b -> c -> d -> e -> Q):Q:=k h.1 h.2.1 h.2.2.1 h.2.2.2.1 h.2.2.2.2
theorem cA7 {a b c d e f g Q:Prop} (h:a /\ b /\ c /\ d /\ e /\ f /\ g) (k:a -> b -> c -> d -> e -> f -> g -> Q):Q:=k h.1 h.2.1 h.2.2.1 h.2.2.2.1 h.2.2.2.2.1 h.2.2.2.2.2.1 h.2.2.2.2.2.2
theorem cA8 {a b c d e f g i Q:Prop} (h:a /\ b /\ c /\ d /\ e /\ f /\ g /\ i) (k:a -> b -> c -> d -> e -> f -> g -> i -> Q):Q:=k h.1 h.2.1 h.2.2.1 h.2.2.2.1 h.2.2.2.2.1 h.2.2.2.2.2.1 h.2.2.2.2.2.2.1 h.2.2.2.2.2.2.2
theorem cA9 {a b c d e f g i j Q:Prop} (h:a /\ b /\ c /\ d /\ e /\ f /\ g /\ i /\ j) (k:a -> b -> c -> d -> e -> f -> g -> i -> j -> Q):Q:=k h.1 h.2.1 h.2.2.1 h.2.2.2.1 h.2.2.2.2.1 h.2.2.2.2.2.1 h.2.2.2.2.2.2.1 h.2.2.2.2.2.2.2.1 h.2.2.2.2.2.2.2.2
inductive SidesJ (P:Params) (zs:List Int) (names:List Str) (m₀:Str -> Option Value) (base:List (Addr×Obj)) (lt lp ll:Addr) (i:Nat) (m₁:Str -> Option Value) (nw:List (Addr×Obj)) (g:Array GenState):Prop
 | mk (a1:AllBare g) (a2:Ov names m₀ m₁) (ds:List SD) (n1 n2 n3:Nat) (ps qs:Array Value) (rest:List (Addr×Obj))
  (a3:nw=(lt,W.listOf (ds.map SD.txt).toArray n1)::(lp,W.listOf (ds.map fun d=>Value.ref d.P).toArray n2)::(ll,W.listOf (ds.map fun d=>Value.ref d.ws).toArray n3)::(140,tblO ps)::(147,tblO qs)::rest)
  (a4:TabIs ⟨93,19,93,63⟩ ps) (a5:TabIs ⟨96,32,96,85⟩ qs) (a6:ds.length=i) (a7:ds.map (fun d=>(d.hd:Int))=zs.take i) (a8:∀ p∈base,p∈rest)
  (a9:∀ q∈rest,q.1≠lt /\ q.1≠lp /\ q.1≠ll /\ q.1≠140 /\ q.1≠147) (b1:∀ d∈ds,d.Ok /\ d.In P rest)
theorem ne_led {h₀ h:Heap} {L x y:Addr} {o o':Obj} {led:List (Addr×Obj)} (N:News h₀ L h led) (h1:(x,o)∈led) (h2:(y,o')∈led) (hne:o≠o'):@Ne Nat x y:=fun e=>by
 have e1:=N.get h1
 have e2:=N.get h2
 rw [e,e2] at e1
 exact hne (Option.some.inj e1).symm
theorem two_list {α:Type} {l:List α} (h:l.length=2):∃ a b,l=[a,b]:=by
 cases l with
 | nil=>cases h
 | cons a l=>cases l with
  | nil=>cases h
  | cons b l=>exact ⟨a,b,by rw [List.length_eq_zero_iff.mp (Nat.succ.inj (Nat.succ.inj h))]⟩
theorem two_of {i:Nat} (h:i < 2):i=0 \/ i=1:=(Nat.le_one_iff_eq_zero_or_eq_one).mp (Nat.le_of_lt_succ h)
theorem got_all {α:Type} {ns:List α} (l:List Nat) (h:∀ j∈l,j < ns.length):(l.filterMap (ns[·]?)).length=l.length:=by
 induction l with
 | nil=>rfl
 | cons j l ih=>rw [List.filterMap_cons_some (List.getElem?_eq_getElem (h j (.head _)))];exact congrArg Nat.succ (ih fun q hq=>h q (.tail _ hq))
theorem pick_four {ns:List Int} (h:ns.length=8) {i:Nat} (hi:i < 2):∃ zs,pickNums ns (some (4 * (i:Int))) (some (4 * (i:Int)+4)) none=zs /\ zs.length=4 /\ ∀ z∈zs,z∈ns:=by
 refine ⟨_,rfl,?_,fun z hz=>?_⟩
 ·unfold pickNums
  rw [h]
  rcases two_of hi with rfl | rfl
  ·exact got_all [0,1,2,3] (by rw [h];decide)
  ·exact got_all [4,5,6,7] (by rw [h];decide)
 ·obtain ⟨j,_,hj⟩:=List.mem_filterMap.mp hz
  exact List.mem_of_getElem? hj
section
variable {prog:Program} {w:World} {A:Around} {E:Value -> Shared -> Prop} {s:Shared} {h₀:Heap} {L:Addr} {m:Str -> Option Value} {rest:List (Addr×Obj)}
theorem lst_app {ln:Addr} {vs:List Value} {n:Nat} {v:Value} {Q:Value -> Shared -> Prop} (F:Fr h₀ L s.heap m) (N:News h₀ L s.heap ((ln,W.listOf vs.toArray n)::rest)) (hoff:∀ q∈rest,q.1≠ln) (hsz:vs.length <= 1000)
  (h:∀ h',Fr h₀ L h' m -> News h₀ L h' ((ln,W.listOf (vs ++ [v]).toArray (n+1))::rest) -> Q .none { s with heap:=h' }) :
  wpAny (model prog w) A (call (.builtin "list.append") [.ref ln,v]) Q E s:=lst_appendV F N (.head hoff) hsz h
end
theorem mul_bar {k:Nat} (h:k <= 1):Txt.mul ("|":Str) (k:Int)=ofL (List.replicate k 124):=by
 rcases two_of (Nat.lt_succ_of_le h) with rfl | rfl<;>decide +kernel
theorem mul_blank {k:Nat} (h:k <= 1):Txt.mul (" ":Str) (k:Int)=ofL (List.replicate k 32):=by
 rcases two_of (Nat.lt_succ_of_le h) with rfl | rfl<;>decide +kernel
theorem ofL_app (a b:List Nat):ofL a ++ ofL b=ofL (a ++ b):=by rw [<- toL_ofL (ofL a ++ ofL b),app_cps]
theorem head_at {z0 z1:Int} (t0 t1:Tok) (h0:0 <= z0 /\ z0 < 2) (h1:0 <= z1 /\ z1 < 2) {i:Nat} (hi:i < 2):∃ hd:Nat,hd <= 1 /\ ([z0,z1]:List Int)[i]?=some (hd:Int) /\ ∃ t,(#[Value.int z0 t0,Value.int z1 t1])[((i:Nat):Int).toNat]?=some (.int (hd:Int) t):=by
 rcases two_of hi with rfl | rfl
 ·exact ⟨z0.toNat,Nat.le_of_lt_succ (tnlt (k:=2) h0.1 h0.2),by rw [Int.toNat_of_nonneg h0.1];rfl,t0,by rw [Int.toNat_of_nonneg h0.1];rfl⟩
 ·exact ⟨z1.toNat,Nat.le_of_lt_succ (tnlt (k:=2) h1.1 h1.2),by rw [Int.toNat_of_nonneg h1.1];rfl,t1,by rw [Int.toNat_of_nonneg h1.1];rfl⟩
noncomputable def markN (c:Nat):Nat:=if c=59 then 9 else 32
noncomputable def markT (c:Nat):Str:=one (markN c)
theorem ws_words (l:List Nat):∀ (S:WS) (cur:List Nat),cur.length=S.b -> (l.map markN).foldl wsStep S=⟨((preW cur (wordsW l)).1.map List.length).foldl addC S.count,(preW cur (wordsW l)).2.length,S.n+l.length,S.nt+(preW cur (wordsW l)).1.length⟩:=by
 induction l with
 | nil =>
  intro S cur h;show S=⟨S.count,(cur ++ []).length,S.n+0,S.nt+0⟩
  rw [List.append_nil,h];rfl
 | cons c r ih =>
  intro S cur h;rw [List.map_cons,List.foldl_cons,wordsW,List.length_cons,<- Nat.add_assoc,Nat.add_right_comm]
  by_cases hc:c=59
  ·subst hc
   rw [ih _ [] rfl,preW_nil,if_pos rfl]
   show _=WS.mk (List.foldl addC S.count (List.map List.length ((cur ++ [])::(wordsW r).1))) (wordsW r).2.length _ (S.nt+((wordsW r).1.length+1))
   rw [List.append_nil,List.map_cons,List.foldl_cons,h,<- Nat.add_assoc,Nat.add_right_comm S.nt]
   rfl
  ·have e:wsStep S (markN c)=⟨S.count,S.b+1,S.n+1,S.nt⟩:=by
    unfold markN
    rw [if_neg hc]
    rfl
   rw [e,ih _ (cur ++ [c]) (by rw [List.length_append,h];rfl),if_neg hc,preW_app]
theorem ws_full (l:List Nat):wsRun (l.map markN)=⟨((wordsW l).1.map List.length).foldl addC [],(wordsW l).2.length,l.length,(wordsW l).1.length⟩:=by
 unfold wsRun
 rw [ws_words l _ [] rfl,preW_nil,Nat.zero_add,Nat.zero_add]
theorem full_marks (hd:Nat) (l:List Nat):(fullL hd l).map markN=List.replicate hd 32 ++ l.map markN:=by
 rw [List.map_append,List.map_replicate];rfl
theorem marks_join (l:List Nat):Txt.join ("":Str) (l.map markT)=ofL (l.map markN):=by
 rw [<- toL_ofL (Txt.join _ _),txt_join,join_cps,List.map_map]
 congr 1
 induction l with
 | nil=>rfl
 | cons a l ih=>rw [List.map_cons,List.flatten_cons,ih,List.map_cons];rfl
theorem side_is (d:SD):SideIs d.cs d.W d.b d.n d.nt:=by
 refine ⟨?_,(List.length_map ..).symm,?_⟩
 ·have:=CountIs.nil.fold d.W
  rwa [List.nil_append] at this
 ·have e:=congrArg List.length (words_join (fullL d.hd d.mt))
  rw [List.length_append,List.length_flatten,List.map_map] at e
  show (fullL d.hd d.mt).length=_
  rw [<- e]
  have:∀ ws:List (List Nat),(ws.map (List.length ∘ fun w=>w ++ [59])).sum=(ws.map List.length).sum+(ws.map List.length).length:=by
   intro ws;induction ws with
   | nil=>rfl
   | cons w ws ih=>simp only [List.map_cons,List.sum_cons,ih,List.length_cons,Function.comp,List.length_append,List.length_nil];omega
  rw [this]
theorem SD.Ok.room {d:SD} (h:d.Ok):(fullL d.hd d.mt).length <= 100:=by
 unfold fullL
 rw [List.length_append,List.length_replicate]
 exact Nat.le_trans (Nat.add_le_add h.hd h.len) (by decide)
noncomputable def Cool (o:Obj):Prop:=o.cls=.type "list" \/ o.cls=.type "range_iterator" \/ o.cls=.none \/ ∃ v,o.data=.cell v
theorem Cool.list (vs:Array Value) (n:Nat):Cool (W.listOf vs n):=.inl rfl
theorem Cool.tbl (ps:Array Value):Cool (tblO ps):=.inr (.inr (.inl rfl))
theorem ty_ne {a b:String} (h:a≠b):Value.type a≠Value.type b:=fun e=>h (by injection e)
noncomputable def Hot (o:Obj):Prop:=o.cls≠.type "list" /\ o.cls≠.type "range_iterator" /\ o.cls≠.none /\ ∀ v,o.data≠.cell v
theorem hot_ne {o o':Obj} (h:Hot o') (c:Cool o):o'≠o:=fun e=>by
 subst e;exact c.elim h.1 fun c=>c.elim h.2.1 fun c=>c.elim h.2.2.1 fun c=>c.elim h.2.2.2
theorem new_off4 {P:Params} {h₀ h:Heap} {L nm ct ws wd x:Addr} {a b:Value} {vs:List Value} {raw:Str} {n nt:Int} {sm:Bool} {t:WTok} {o:Obj} {led:List (Addr×Obj)} (N:News h₀ L h led) (h1:(nm,tup2 a b)∈led) (h2:(ct,tupOf vs)∈led) (h3:(ws,instObj 315 wd)∈led) (h4:(wd,wsO P raw n nt nm sm t)∈led)
  (hx:(x,o)∈led) (ho:Cool o):@Ne Nat nm x /\ @Ne Nat ct x /\ @Ne Nat ws x /\ @Ne Nat wd x :=
 ⟨ne_led N h1 hx (hot_ne ⟨ty_ne (by decide),ty_ne (by decide),Value.noConfusion,fun _=>Data.noConfusion⟩ ho),ne_led N h2 hx (hot_ne ⟨ty_ne (by decide),ty_ne (by decide),Value.noConfusion,fun _=>Data.noConfusion⟩ ho),
  ne_led N h3 hx (hot_ne ⟨Value.noConfusion,Value.noConfusion,Value.noConfusion,fun _=>Data.noConfusion⟩ ho),ne_led N h4 hx (hot_ne ⟨ty_ne (by decide),ty_ne (by decide),Value.noConfusion,fun _=>Data.noConfusion⟩ ho)⟩
theorem SD.sizes (d:SD) (h:(fullL d.hd d.mt).length <= 100):d.cs.length <= 900 /\ d.b <= 900 /\ ∀ c∈d.cs,0 <= c /\ c <= 1000:=by
 have k:=side_is d
 have e:(fullL d.hd d.mt).length=d.W.sum+d.W.length+d.b:=k.n
 have le:∀ (W:List Nat) (w:Nat),w∈W -> w <= W.sum:=by
  intro W w hw;induction W with
  | nil=>cases hw
  | cons a W ih =>
   rw [List.sum_cons]
   rcases List.mem_cons.mp hw with h | h
   ·omega
   ·have:=ih h;omega
 refine ⟨?_,by omega,fun c hc=>?_⟩
 ·cases q:d.cs.length with
  | zero=>omega
  | succ m=>have:=le _ _ (k.cnt.last m q);omega
 ·have:=CountIs.nonneg k.cnt.val c hc
  omega
theorem text_marks (hd:Nat) (l:List Nat):ofL (List.replicate hd 32) ++ ofL (l.map markN) ++ ("x\t ":Str)=ofL ((fullL hd l).map markN ++ 120::[9,32]):=by
 have e:("x\t ":Str)=ofL [120,9,32]:=by decide +kernel
 rw [e,ofL_app,ofL_app,full_marks]
theorem take4 {h₀ h:Heap} {L:Addr} {a b c d:Addr×Obj} {rest:List (Addr×Obj)} (N:News h₀ L h (a::b::c::d::rest)):∃ n4,n4=[a,b,c,d] /\ News h₀ L h (n4 ++ rest):=⟨_,rfl,N⟩
theorem off4 {x n1 n2 n3 n4:Addr} {o1 o2 o3 o4:Obj} {n41:List (Addr×Obj)} (e:n41=[(n1,o1),(n2,o2),(n3,o3),(n4,o4)]) (h:@Ne Nat n1 x /\ @Ne Nat n2 x /\ @Ne Nat n3 x /\ @Ne Nat n4 x):∀ q∈n41,q.1≠x:=fun q hq=>by
 rw [e] at hq
 simp only [List.mem_cons,List.not_mem_nil,or_false] at hq
 rcases hq with h' | h' | h' | h'
 ·rw [h'];exact h.1
 ·rw [h'];exact h.2.1
 ·rw [h'];exact h.2.2.1
 ·rw [h'];exact h.2.2.2
theorem rows_few:∀ {rs:List (List Nat)},(∀ r∈rs,r≠[]) -> rs.length <= rs.flatten.length
 | [],_=>Nat.le_refl _
 | r::rs,h=>by
  have ih:=rows_few (rs:=rs) fun x hx=>h x (.tail _ hx)
  have h1:1 <= r.length:=by
   cases r with
   | nil=>exact absurd rfl (h [] (.head _))
   | cons=>simp
  rw [List.flatten_cons,List.length_append,List.length_cons]
  omega
theorem rowStr_len (r:List Nat):(rowStr r).length <= 2 * r.length:=by
 unfold rowStr
 rw [flatL_length]
 have:=List.length_filter_le (fun c=>c != 124) r
 omega
theorem rows_sum:∀ (rs:List (List Nat)),(((rs.map rowStr).map (·.length)).sum) <= 2 * rs.flatten.length
 | []=>Nat.le_refl _
 | r::rs=>by
  have ih:=rows_sum rs
  have:=rowStr_len r
  rw [List.map_cons,List.map_cons,List.sum_cons,List.flatten_cons,List.length_append]
  omega
theorem rowsAll_most (ls:List Str) {t:Nat} (ht:1 <= t) (k:Nat):(rowsAll ls t k).length <= (rowsAll ls t ls.length).length:=by
 have up:∀ d k,(rowsAll ls t k).length <= (rowsAll ls t (k+d)).length:=by
  intro d;induction d with
  | zero=>exact fun k=>Nat.le_refl _
  | succ d ih =>
   intro k;refine Nat.le_trans (ih k) ?_
   rw [show k+(d+1)=(k+d)+1 by omega,rowsAll_succ,List.length_append]
   omega
 have over:∀ d,(rowsAll ls t (ls.length+d)).length=(rowsAll ls t ls.length).length:=by
  intro d;induction d with
  | zero=>rfl
  | succ d ih =>
   rw [show ls.length+(d+1)=(ls.length+d)+1 by omega,rowsAll_succ,List.length_append,ih,rowsOf_length]
   have e:(cellsOf ls (ls.length+d)).cps.size=0:=by
    unfold cellsOf
    rw [if_neg (by omega),List.getD_eq_getElem?_getD,List.getElem?_eq_none (by omega)]
    rfl
   rw [e,Nat.zero_add,Nat.div_eq_of_lt (by omega),Nat.add_zero]
 by_cases h:k <= ls.length
 ·obtain ⟨d,hd⟩:=Nat.exists_eq_add_of_le h
  rw [hd]
  exact up d k
 ·obtain ⟨d,hd⟩:=Nat.exists_eq_add_of_le (show ls.length <= k by omega)
  rw [hd,over d]
  exact Nat.le_refl _
theorem words_len (l:List Nat):(wordsW l).1.length+(wordsW l).2.length <= l.length /\ ∀ w∈(wordsW l).1,w.length <= l.length:=by
 have e:=congrArg List.length (words_join l)
 rw [List.length_append,List.length_flatten,List.map_map] at e
 rw [<- e]
 generalize (wordsW l).1=ws
 generalize (wordsW l).2=p
 have:ws.length <= (ws.map (List.length ∘ fun w=>w ++ [59])).sum /\ ∀ w∈ws,w.length <= (ws.map (List.length ∘ fun w=>w ++ [59])).sum:=by
  induction ws with
  | nil=>exact ⟨Nat.le_refl _,fun w h=>nomatch h⟩
  | cons a ws ih =>
   have ea:(List.length ∘ fun w=>w ++ [59]) a=a.length+1:=by simp
   rw [List.map_cons,List.sum_cons,ea,List.length_cons]
   refine ⟨by omega,fun w hw=>?_⟩
   rcases List.mem_cons.mp hw with h | h
   ·rw [h];omega
   ·have:=ih.2 w h;omega
 refine ⟨by omega,fun w hw=>?_⟩
 have:=this.2 w hw
 omega
theorem parts_sizes {hd t:Nat} {l:List Nat} (ht:1 <= t) (hl:(fullL hd l).length <= 100):(partsS hd l).length <= 300 /\ (∀ k,(rowsAll (partsS hd l) t k).length <= 900) /\ (∀ k,((partsS hd l).getD k "").cps.size <= 900) ∧
  (((rowsAll (partsS hd l) t (partsS hd l).length).map (·.length)).sum+(rowsAll (partsS hd l) t (partsS hd l).length).length <= 1048576):=by
 obtain ⟨w1,w2⟩:=words_len (fullL hd l)
 have e2:rowsAll (partsS hd l) t (partsS hd l).length=(rowsW t (wordsW (fullL hd l))).map rowStr:=by
  unfold partsS
  rw [split_words]
  exact rowsAll_words t _ _
 have e3:(rowsW t (wordsW (fullL hd l))).length <= (fullL hd l).length:=by
  have:=rows_few (rowsW_ne ht (l:=fullL hd l) fun _ _=>rfl)
  rwa [rowsW_flat ht] at this
 have e4:=rows_sum (rowsW t (wordsW (fullL hd l)))
 rw [rowsW_flat ht] at e4
 have e5:(rowsAll (partsS hd l) t (partsS hd l).length).length <= 100:=by rw [e2,List.length_map];omega
 refine ⟨?_,fun k=>?_,fun k=>?_,?_⟩
 ·unfold partsS
  rw [split_words,List.length_map,List.length_append,List.length_singleton]
  omega
 ·have:=rowsAll_most (partsS hd l) ht k
  omega
 ·unfold partsS
  rw [split_words,List.getD_eq_getElem?_getD]
  cases q:(((wordsW (fullL hd l)).1 ++ [(wordsW (fullL hd l)).2]).map ofL)[k]? with
  | none=>exact Nat.zero_le _
  | some x =>
   obtain ⟨w,hw,rfl⟩:=List.mem_map.mp (List.mem_of_getElem? q)
   show w.length <= 900
   rcases List.mem_append.mp hw with h | h
   ·have:=w2 w h;omega
   ·rw [List.mem_singleton.mp h];omega
 ·rw [e2] at e5 ⊢
  omega
theorem mem4 {a b c d:Addr×Obj} {n41:List (Addr×Obj)} (e:n41=[a,b,c,d]):a∈n41 /\ b∈n41 /\ c∈n41 /\ d∈n41:=by
 subst e;exact ⟨.head _,.tail _ (.head _),.tail _ nx1,.tail _ nx2⟩
structure Core (P:Params) (L lt lp ll lh:Addr) (d0 d1:SD) (R:List (Addr×Obj)):Prop where
 heads:∃ t0 t1 n,(lh,W.listOf #[.int (d0.hd:Int) t0,.int (d1.hd:Int) t1] n)∈R
 texts:∃ n,(lt,W.listOf #[d0.txt,d1.txt] n)∈R
 parts:∃ n,(lp,W.listOf #[.ref d0.P,.ref d1.P] n)∈R
 leads:∃ n,(ll,W.listOf #[.ref d0.ws,.ref d1.ws] n)∈R
 cell:∃ o,(L+1+1+1,o)∈R /\ o.data=.cell (some (.ref ll))
 in0:d0.In P R
 in1:d1.In P R
 ok0:d0.Ok
 ok1:d1.Ok
theorem Core.mono {P:Params} {L lt lp ll lh:Addr} {d0 d1:SD} {R R':List (Addr×Obj)} (h:Core P L lt lp ll lh d0 d1 R) (hs:∀ p∈R,p∈R'):Core P L lt lp ll lh d0 d1 R' :=
 ⟨let ⟨a,b,c,d⟩:=h.heads;⟨a,b,c,hs _ d⟩,let ⟨a,b⟩:=h.texts;⟨a,hs _ b⟩,let ⟨a,b⟩:=h.parts;⟨a,hs _ b⟩,let ⟨a,b⟩:=h.leads;⟨a,hs _ b⟩,let ⟨a,b,c⟩:=h.cell;⟨a,hs _ b,c⟩,h.in0.mono hs,h.in1.mono hs,h.ok0,h.ok1⟩
theorem fr_known {h₀ h:Heap} {L:Addr} {m:Str -> Option Value} {a:Str} {v:Option Value} (F:Fr h₀ L h m) (e:m a=v):Fr h₀ L h (fun z=>if z=a then v else m z):=by
 have:(fun z=>if z=a then v else m z)=m:=by
  funext z
  by_cases hz:z=a
  ·rw [if_pos hz,hz,e]
  ·rw [if_neg hz]
 rw [this]
 exact F
structure Names (lt lp lh:Addr) (m:Str -> Option Value):Prop where
 texts:m "texts"=some (.ref lt)
 parts:m "parts"=some (.ref lp)
 heads:m "heads"=some (.ref lh)
theorem Names.set {lt lp lh:Addr} {m:Str -> Option Value} {a:Str} {v:Option Value} (h:Names lt lp lh m) (h1:("texts":Str)≠a) (h2:("parts":Str)≠a) (h3:("heads":Str)≠a):Names lt lp lh (fun z=>if z=a then v else m z) :=
 ⟨(if_neg h1).trans h.texts,(if_neg h2).trans h.parts,(if_neg h3).trans h.heads⟩
theorem Names.form {lt lp lh:Addr} {m:Str -> Option Value} (h:Names lt lp lh m) {h₀ h':Heap} {L:Addr} (F:Fr h₀ L h' m):Fr h₀ L h' (fun z=>if z=("texts":Str) then some (.ref lt) else if z=("parts":Str) then some (.ref lp) else if z=("heads":Str) then some (.ref lh) else m z):=by
 have F1:=fr_known F h.heads
 have F2:=fr_known F1 (a:="parts") (v:=some (.ref lp)) ((if_neg (by decide +kernel)).trans h.parts)
 exact fr_known F2 (a:="texts") (v:=some (.ref lt)) ((if_neg (by decide +kernel)).trans ((if_neg (by decide +kernel)).trans h.texts))
noncomputable def IsInt {α:Type} (f:α -> Int):α -> Value -> Prop:=fun a y=>∃ t,y=.int (f a) t
theorem ints_paired {α:Type} {f:α -> Int} {l:List α} {ys:List Value} (h:Paired (IsInt f) l ys):IntsAre ys (l.map f):=by
 induction h with
 | nil=>exact .nil
 | cons h _ ih =>
  obtain ⟨t,rfl⟩:=h
  exact .cons _ _ ih
theorem ints_some {α:Type} {P:Int -> Prop} {l:List α} {ys:List Value} (h:Paired (fun _ y=>∃ z t,y=.int z t /\ P z) l ys):∃ ns,IntsAre ys ns /\ ns.length=l.length /\ ∀ z∈ns,P z:=by
 induction h with
 | nil=>exact ⟨[],.nil,rfl,fn⟩
 | cons h _ ih =>
  obtain ⟨z,t,rfl,hz⟩:=h
  obtain ⟨ns,h1,h2,h3⟩:=ih
  exact ⟨z::ns,.cons _ _ h1,congrArg Nat.succ h2,fc hz h3⟩
theorem strs_at (l:List (Str×Tok)):∀ i v,i < l.length -> (strValues l).toArray[i]?=some v -> ∃ p,l[i]?=some p /\ v=.str p.1 p.2:=by
 intro i v hi h;unfold strValues at h
 rw [List.getElem?_toArray,List.getElem?_map,List.getElem?_eq_getElem hi] at h
 exact ⟨l[i],List.getElem?_eq_getElem hi,(Option.some.inj h).symm⟩
theorem src_led {h₀:Heap} {ax:Addr} {vs:Array Value} {n:Nat} {led:List (Addr×Obj)} (hm:(ax,W.listOf vs n)∈led):LCg.SrcAt h₀ ax vs led:=.inr ⟨_,hm,rfl,_,rfl⟩
theorem parts_lens (d:SD) (h:d.Ok):d.l.map (fun p=>((p.1.cps.size:Nat):Int))=(d.W ++ [d.b]).map fun w=>((w:Nat):Int):=by
 have e:d.l.map (fun p=>((p.1.cps.size:Nat):Int))=(d.l.map (·.1)).map fun x=>((x.cps.size:Nat):Int):=by rw [List.map_map];rfl
 rw [e,h.parts,partsS,split_words,List.map_map]
 show _=((d.wrd.1.map List.length) ++ [d.wrd.2.length]).map _
 rw [List.map_append,List.map_append,List.map_map]
 rfl
theorem longest_is (d0 d1:SD) (h0:d0.Ok) (h1:d1.Ok) {M:Int} (hM:M∈(d0.l ++ d1.l).map (fun p=>((p.1.cps.size:Nat):Int))) (hall:∀ a∈(d0.l ++ d1.l).map (fun p=>((p.1.cps.size:Nat):Int)),a <= M) :
  ∃ r:Nat,M=(r:Int) /\ (r:Int)=max (lgZ d0.cs d0.b) (lgZ d1.cs d1.b) /\ r <= 100:=by
 rw [List.map_append,parts_lens d0 h0,parts_lens d1 h1,<- List.map_append] at hM hall
 obtain ⟨r,hr,rfl⟩:=List.mem_map.mp hM
 have hle:∀ w∈(d0.W ++ [d0.b]) ++ (d1.W ++ [d1.b]),w <= r:=fun w hw=>by
  exact Int.ofNat_le.mp (hall _ (List.mem_map.mpr ⟨w,hw,rfl⟩))
 have key:∀ d:SD,d.Ok -> (∀ w∈d.W ++ [d.b],w <= r) -> lgZ d.cs d.b <= (r:Int) /\ (r∈d.W ++ [d.b] -> lgZ d.cs d.b=(r:Int)) /\ (r∈d.W ++ [d.b] -> r <= 100):=by
  intro d hd hw;have k:=side_is d
  have hW:∀ w∈d.W,w <= r:=fun w h=>hw w (List.mem_append_left _ h)
  have hb:d.b <= r:=hw _ (by simp)
  refine ⟨?_,fun hr=>lg_is k hW hb ?_,fun hr=>?_⟩
  ·have e1:d.cs.length <= r+1:=by
    cases e:d.cs.length with
    | zero=>exact Nat.zero_le _
    | succ m=>exact Nat.succ_le_succ (hW m (k.cnt.last m e))
   exact Int.max_le.mpr ⟨Int.sub_right_le_of_le_add (Int.ofNat_le.mpr e1),Int.ofNat_le.mpr hb⟩
  ·rcases List.mem_append.mp hr with h | h
   ·exact .inl h
   ·exact .inr (List.mem_singleton.mp h)
  ·have e:=words_len (fullL d.hd d.mt)
   have e2:=hd.room
   rcases List.mem_append.mp hr with h | h
   ·obtain ⟨w,hw',hwr⟩:=List.mem_map.mp h
    exact hwr▸Nat.le_trans (e.2 w hw') e2
   ·rw [List.mem_singleton.mp h]
    exact Nat.le_trans (Nat.le_trans (Nat.le_add_left _ _) e.1) e2
 have k0:=key d0 h0 fun w hw=>hle w (List.mem_append_left _ hw)
 have k1:=key d1 h1 fun w hw=>hle w (List.mem_append_right _ hw)
 refine ⟨r,rfl,?_,?_⟩
 ·rcases List.mem_append.mp hr with h | h
  ·rw [k0.2.1 h,Int.max_eq_left k1.1]
  ·rw [k1.2.1 h,Int.max_eq_right k0.1]
 ·rcases List.mem_append.mp hr with h | h
  ·exact k0.2.2 h
  ·exact k1.2.2 h
theorem part_small {d:SD} (h:d.Ok):∀ c∈d.l,c.1.cps.size <= 900:=fun c hc=>by
 obtain ⟨k,hk⟩:=List.getElem?_of_mem (List.mem_map.mpr ⟨c,hc,rfl⟩:c.1∈d.l.map (·.1))
 have es:=(parts_sizes (hd:=d.hd) (l:=d.mt) (Nat.le_refl 1) h.room).2.2.1 k
 rw [h.parts] at hk
 rw [List.getD_eq_getElem?_getD,hk] at es
 exact es
theorem parts_some {d:SD} (h:d.Ok):1 <= d.l.length:=by
 have e:=congrArg List.length h.parts
 rw [List.length_map] at e
 rw [e]
 exact split_pos _ _
theorem Names.formed {lt lp lh:Addr} (m:Str -> Option Value):Names lt lp lh (fun z=>if z=("texts":Str) then some (.ref lt) else if z=("parts":Str) then some (.ref lp) else if z=("heads":Str) then some (.ref lh) else m z) :=
 ⟨if_pos rfl,(if_neg (by decide +kernel)).trans (if_pos rfl),(if_neg (by decide +kernel)).trans ((if_neg (by decide +kernel)).trans (if_pos rfl))⟩
noncomputable def endsL (d:SD) (i:Nat):List Int:=(List.range i).map fun j=>((ilW d.W d.b (j+1):Nat):Int)
theorem endsL_succ (d:SD) (i:Nat):endsL d (i+1)=endsL d i ++ [((ilW d.W d.b (i+1):Nat):Int)]:=by
 unfold endsL
 rw [List.range_succ,List.map_append]
 rfl
inductive EndsJ (lt lp lh L e0 e1:Addr) (d0 d1:SD) (r:Nat) (tr:Tok) (R:List (Addr×Obj)) (i:Nat) (m₁:Str -> Option Value) (nw:List (Addr×Obj)) (g:Array GenState):Prop
 | mk (a1:AllBare g) (a2:Names lt lp lh m₁) (a3:m₁ "longest"=some (.int ((r:Nat):Int) tr)) (v0 v1:List Value) (n0 n1:Nat) (ps qs:Array Value) (os:Obj) (vos:Option Value)
  (a4:nw=(L+1+1+1+1,os)::(e0,W.listOf v0.toArray n0)::(e1,W.listOf v1.toArray n1)::(140,tblO ps)::(147,tblO qs)::R) (a5:os.data=.cell vos)
  (a6:IntsAre v0 (endsL d0 i)) (a7:IntsAre v1 (endsL d1 i)) (a8:TabIs ⟨93,19,93,63⟩ ps) (a9:TabIs ⟨96,32,96,85⟩ qs)
inductive EndsI (lt lp lh e0 e1:Addr) (d0 d1:SD) (r i:Nat) (tr tt:Tok) (R:List (Addr×Obj)) (k:Nat) (m₁:Str -> Option Value) (nw:List (Addr×Obj)) (g:Array GenState):Prop
 | mk (a1:AllBare g) (a2:Names lt lp lh m₁) (a3:m₁ "longest"=some (.int ((r:Nat):Int) tr)) (a4:m₁ "t"=some (.int ((i+1:Nat):Int) tt)) (v0 v1:List Value) (n0 n1:Nat) (ps qs:Array Value)
  (a5:nw=(e0,W.listOf v0.toArray n0)::(e1,W.listOf v1.toArray n1)::(140,tblO ps)::(147,tblO qs)::R)
  (a6:IntsAre v0 (endsL d0 (if 1 <= k then i+1 else i))) (a7:IntsAre v1 (endsL d1 (if 2 <= k then i+1 else i))) (a8:TabIs ⟨93,19,93,63⟩ ps) (a9:TabIs ⟨96,32,96,85⟩ qs)
end
section
theorem ends_is (l:List Nat):Txt.endswith (ofL l) (";":Str)=true ↔ ∃ a,l=a ++ [59]:=by
 have e:(";":Str)=⟨#[59]⟩:=rfl
 have k:=StrLaws.subAt_one (ofL l) 59 (l.length - 1)
 have h1:(ofL l).length=l.length:=rfl
 rw [e]
 unfold Txt.endswith
 rw [Bool.and_eq_true,decide_eq_true_eq]
 constructor
 ·rintro ⟨h,h'⟩
  have h9:1 <= l.length:=by
   have:0+1 <= (ofL l).length:=h
   omega
  have h':=k.mp ⟨(by show l.length - 1+1 <= l.length;omega),h'⟩
  rw [ofL_toL] at h'
  rcases List.eq_nil_or_concat l with e | ⟨a,b,e⟩
  ·rw [e] at h9;simp at h9
  ·rw [List.concat_eq_append] at e
   subst e;rw [List.length_append,List.length_singleton,Nat.add_sub_cancel,List.getElem?_append_right (Nat.le_refl _),Nat.sub_self] at h'
   have:b=59:=by simpa using h'
   rw [this]
   exact ⟨a,rfl⟩
 ·rintro ⟨a,rfl⟩
  have q:=k.mpr (by
   rw [ofL_toL,List.length_append,List.length_singleton,Nat.add_sub_cancel,List.getElem?_append_right (Nat.le_refl _),Nat.sub_self]
   rfl)
  refine ⟨?_,q.2⟩
  show 0+1 <= (a ++ [59]).length
  simp
theorem rowStr_free {r:List Nat} (h:10∉r):10∉(rowStr r).cps.toList:=by
 unfold rowStr
 rw [flatL_cps]
 intro hm;obtain ⟨p,hp,h2⟩:=List.mem_flatten.mp hm
 obtain ⟨c,hc,rfl⟩:=List.mem_map.mp hp
 simp only [List.mem_cons,List.not_mem_nil,or_false] at h2
 rcases h2 with h2 | h2
 ·exact absurd h2 (by decide)
 ·exact h (by rw [h2];exact (List.mem_filter.mp hc).1)
theorem row_size (r:List Nat):(rowStr r).cps.size=2 * (r.filter fun c=>c != 124).length:=flatL_length _
theorem page_split {t hd:Nat} {l:List Nat} (ht:1 <= t) (h10:10∉l):Txt.split (cutS (partsS hd l) t) ("\n" : Str) = if pageRows t hd l = [] then [("":Str)] else pageRows t hd l:=by
 have e:("\n":Str)=⟨#[10]⟩:=rfl
 rw [cut_page,txt_join,e]
 have hfree:∀ p∈pageRows t hd l,10∉p.cps.toList:=by
  intro p hp;obtain ⟨r,hr,rfl⟩:=List.mem_map.mp hp
  refine rowStr_free fun h=>?_
  have h2:10∈(rowsW t (wordsW (fullL hd l))).flatten:=List.mem_flatten.mpr ⟨r,hr,h⟩
  rw [rowsW_flat ht] at h2
  rcases List.mem_append.mp h2 with h3 | h3
  ·exact absurd (List.eq_of_mem_replicate h3) (by decide)
  ·exact h10 h3
 split
 ·next h =>
  rw [h]
  exact split_join (c:=10) (ls:=[("":Str)]) (by simp) (fun p hp=>by rw [List.mem_singleton.mp hp];decide +kernel)
 ·next h=>exact split_join h hfree
theorem last_rest {l:List Nat} (h:∃ a,l=a ++ [59]):(wordsW l).2=[] /\ (wordsW l).1≠[]:=by
 obtain ⟨a,rfl⟩:=h
 have e:=words_join (a ++ [59])
 have f:=words_free (a ++ [59])
 generalize wordsW (a ++ [59])=x at e f
 obtain ⟨ws,p⟩:=x
 simp only at e f ⊢
 have hp:p=[]:=by
  rcases List.eq_nil_or_concat p with h | ⟨q,b,h⟩
  ·exact h
  ·rw [List.concat_eq_append] at h
   subst h;rw [<- List.append_assoc] at e
   have:=(List.append_inj' e rfl).2
   have hb:b=59:=by simpa using this
   exact absurd (by rw [hb];simp) f.2
 refine ⟨hp,fun h=>?_⟩
 rw [h,hp] at e
 exact absurd e.symm (by simp)
theorem open_rest {l:List Nat} (h:¬ ∃ a,l=a ++ [59]) (hp:(wordsW l).2=[]):l=[] /\ (wordsW l).1=[]:=by
 have e:=words_join l
 rw [hp,List.append_nil] at e
 rcases List.eq_nil_or_concat (wordsW l).1 with h1 | ⟨ws,w,h1⟩
 ·rw [h1] at e
  exact ⟨e.symm,h1⟩
 ·exfalso
  rw [List.concat_eq_append] at h1
  rw [h1] at e
  refine h ⟨(ws.map fun w=>w ++ [59]).flatten ++ w,?_⟩
  rw [<- e]
  simp
theorem place_is {d:SD} (h:d.Ok) {t:Nat} (ht:1 <= t):placeN (Txt.split (cutS (partsS d.hd d.mt) t) ("\n" : Str)) d.hd t (Txt.endswith (ofL d.mt) (";":Str))=ilW d.W d.b t:=by
 have h10:10∉d.mt:=fun hm=>by
  have:=(h.sign 10 hm).1.2
  exact absurd this (by decide +kernel)
 rw [page_split ht h10]
 have hlen:=rowsW_len ht d.wrd.1 d.wrd.2
 have eil:ilW d.W d.b t=d.wrd.2.length+t * ((d.wrd.1.map fun w=>w.length / t).sum+d.wrd.1.length):=by
  unfold ilW
  show d.wrd.2.length+t * (((d.wrd.1.map List.length).map (· / t)).sum+(d.wrd.1.map List.length).length)=_
  rw [List.map_map,List.length_map]
  rfl
 rw [eil]
 have erow:(pageRows t d.hd d.mt).length=(rowsW t d.wrd).length:=by rw [List.length_map]
 by_cases hc:∃ a,d.mt=a ++ [59]
 ·obtain ⟨a,ha⟩:=hc
  obtain ⟨hp,hw⟩:=last_rest (l:=fullL d.hd d.mt) ⟨List.replicate d.hd 124 ++ a,by rw [fullL,ha,List.append_assoc]⟩
  have hp':d.wrd.2=[]:=hp
  have hw':d.wrd.1≠[]:=hw
  have hw1:1 <= d.wrd.1.length:=by
   cases q:d.wrd.1 with
   | nil=>exact absurd q hw'
   | cons=>simp
  have e0:(rowsW t d.wrd).length=(d.wrd.1.map fun w=>w.length / t).sum+d.wrd.1.length:=by
   have:(rowsW t d.wrd).length=_:=hlen
   rw [this,hp',List.length_nil,Nat.zero_add,Nat.div_eq_of_lt (by omega),Nat.add_zero]
  have hne:pageRows t d.hd d.mt≠[]:=fun e=>by
   rw [e] at erow
   rw [e0] at erow
   simp at erow
   omega
  rw [if_neg hne,(ends_is d.mt).mpr ⟨a,ha⟩]
  unfold placeN
  rw [if_pos rfl,erow,e0,hp',List.length_nil,Nat.zero_add]
 ·have hcl:Txt.endswith (ofL d.mt) (";":Str)=false:=Bool.eq_false_iff.mpr fun e=>hc ((ends_is d.mt).mp e)
  have hcf:¬ ∃ a,fullL d.hd d.mt=a ++ [59]:=fun ⟨a,ha⟩=>by
   rcases List.eq_nil_or_concat d.mt with e | ⟨q,b,e⟩
   ·rw [fullL,e,List.append_nil] at ha
    have:59∈List.replicate d.hd 124:=by rw [ha];simp
    exact absurd (List.eq_of_mem_replicate this) (by decide)
   ·rw [List.concat_eq_append] at e
    rw [fullL,e,<- List.append_assoc] at ha
    have:=(List.append_inj' ha rfl).2
    have hb:b=59:=by simpa using this
    exact hc ⟨q,by rw [e,hb]⟩
  rw [hcl]
  unfold placeN
  rw [if_neg Bool.false_ne_true]
  by_cases hp:d.wrd.2=[]
  ·obtain ⟨f1,f2⟩:=open_rest hcf hp
   have f2':d.wrd.1=[]:=f2
   have hr:pageRows t d.hd d.mt=[]:=by
    show (rowsW t d.wrd).map rowStr=[]
    have:d.wrd=([],[]):=Prod.ext f2' hp
    rw [this]
    simp [rowsW,chunks_nil t ht]
   have hh:d.hd=0:=by
    have:=congrArg List.length f1
    rw [List.length_append,List.length_replicate,List.length_nil] at this
    omega
   rw [if_pos hr,hp,f2',hh]
   simp
   decide +kernel
  ·obtain ⟨a,r,e1,e2,e3⟩:=chunks_last ht hp
   have erw:rowsW t d.wrd=((d.wrd.1.map fun w=>chunksOf t (w ++ [59])).flatten ++ a) ++ [r]:=by
    unfold rowsW
    rw [e1,List.append_assoc]
   generalize hA:(d.wrd.1.map fun w=>chunksOf t (w ++ [59])).flatten=A at erw
   have hAl:A.length=(d.wrd.1.map fun w=>w.length / t).sum+d.wrd.1.length:=by
    have e5:(rowsW t (d.wrd.1,d.wrd.2)).length=_:=hlen
    have e6:(chunksOf t d.wrd.2).length=(d.wrd.2.length+t - 1) / t:=chunks_len _
    unfold rowsW at e5
    rw [List.length_append,hA,e6] at e5
    omega
   have epr:pageRows t d.hd d.mt=(A ++ a).map rowStr ++ [rowStr r]:=by
    show (rowsW t d.wrd).map rowStr=_
    rw [erw,List.map_append]
    rfl
   have hne:pageRows t d.hd d.mt≠[]:=by rw [epr];simp
   have hl:(pageRows t d.hd d.mt).length=A.length+a.length+1:=by rw [epr];simp;omega
   rw [if_neg hne,hl,Nat.add_sub_cancel]
   have eg:(pageRows t d.hd d.mt).getD (A.length+a.length) ("":Str)=rowStr r:=by
    rw [epr,List.getD_eq_getElem?_getD,List.getElem?_append_right (by simp),List.length_map,List.length_append,Nat.sub_self]
    rfl
   rw [eg,row_size,Nat.mul_div_cancel_left _ (by decide),<- hAl]
   have hflat:(A ++ a).flatten ++ r=fullL d.hd d.mt:=by
    have:=rowsW_flat ht (fullL d.hd d.mt)
    have h':(rowsW t d.wrd).flatten=fullL d.hd d.mt:=this
    rw [erw,List.flatten_append] at h'
    simpa using h'
   have key:(r.filter fun c=>c != 124).length+(if A.length+a.length+1=1 then d.hd else 0)=r.length:=by
    by_cases hz:A.length+a.length=0
    ·rw [if_pos (by omega)]
     have hAa:A ++ a=[]:=List.length_eq_zero_iff.mp (by rw [List.length_append];exact hz)
     rw [hAa,List.flatten_nil,List.nil_append] at hflat
     rw [hflat,List.filter_append,List.filter_eq_nil_iff.mpr (fun c hc=>by rw [List.eq_of_mem_replicate hc];decide),List.nil_append,List.filter_eq_self.mpr (fun c hc=>by simpa using (h.sign c hc).2)]
     simp
     omega
    ·rw [if_neg (by omega),Nat.add_zero]
     have hr:∀ c∈r,c≠124:=by
      have hfl:d.hd <= (A ++ a).flatten.length:=by
       have h1:1 <= (A ++ a).flatten.length:=by
        have:=rows_few (rs:=A ++ a) fun x hx=>rowsW_ne ht (l:=fullL d.hd d.mt) (fun _ _=>rfl) x (by
         show x∈rowsW t d.wrd
         rw [erw]
         exact List.mem_append_left _ hx)
        rw [List.length_append] at this
        omega
       have:=h.hd
       omega
      have e7:(A ++ a).flatten.drop d.hd ++ r=d.mt:=by
       have:=congrArg (List.drop d.hd) hflat
       rw [List.drop_append_of_le_length hfl] at this
       rw [this,fullL,List.drop_append_of_le_length (by simp)]
       simp
      intro c hc;exact (h.sign c (by rw [<- e7];exact List.mem_append_right _ hc)).2
     rw [List.filter_eq_self.mpr fun c hc=>by simpa using hr c hc]
   have e2':t * a.length+r.length=d.wrd.2.length:=e2
   rw [Nat.mul_add]
   omega
theorem page_size {d:SD} (h:d.Ok) {t:Nat} (ht:1 <= t):(cutS (partsS d.hd d.mt) t).cps.size <= 500:=by
 have jl:∀ ls:List Str,(Str.join ⟨#[10]⟩ ls).cps.toList.length <= (ls.map (·.length)).sum+ls.length:=by
  intro ls;induction ls with
  | nil=>exact Nat.le_refl _
  | cons x ls ih =>
   cases ls with
   | nil=>show x.cps.toList.length <= x.length+0+1;rw [Array.length_toList];show x.length <= _;omega
   | cons y ls =>
    have e:(Str.join ⟨#[10]⟩ (x::y::ls)).cps.toList=x.cps.toList ++ 10::(Str.join ⟨#[10]⟩ (y::ls)).cps.toList:=by
     show ((x ++ (⟨#[10]⟩:Str) ++ Str.join ⟨#[10]⟩ (y::ls):Str)).cps.toList=_
     rw [app_cps,app_cps];simp
    rw [e,List.length_append,List.length_cons,List.map_cons,List.sum_cons,List.length_cons]
    have:x.cps.toList.length=x.length:=Array.length_toList
    omega
 have hfl:(fullL d.hd d.mt).length <= 61:=by have:=h.len;have:=h.hd;simp;omega
 have e:cutS (partsS d.hd d.mt) t=Txt.join ("\n":Str) ((rowsW t (wordsW (fullL d.hd d.mt))).map rowStr):=cut_page t d.hd d.mt
 have e10:("\n":Str)=⟨#[10]⟩:=rfl
 rw [txt_join,e10] at e
 have j:=jl ((rowsW t (wordsW (fullL d.hd d.mt))).map rowStr)
 have s1:=rows_sum (rowsW t (wordsW (fullL d.hd d.mt)))
 rw [rowsW_flat ht] at s1
 have s2:=rows_few (rowsW_ne ht (l:=fullL d.hd d.mt) fun _ _=>rfl)
 rw [rowsW_flat ht] at s2
 have s3:((rowsW t (wordsW (fullL d.hd d.mt))).map rowStr).length=(rowsW t (wordsW (fullL d.hd d.mt))).length:=List.length_map ..
 rw [e,<- Array.length_toList]
 omega
theorem page_parts {d:SD} (h:d.Ok) {t:Nat} (ht:1 <= t):(Txt.split (cutS (partsS d.hd d.mt) t) ("\n":Str)).length <= 1000 /\ 1 <= (Txt.split (cutS (partsS d.hd d.mt) t) ("\n":Str)).length /\ ∀ z∈Txt.split (cutS (partsS d.hd d.mt) t) ("\n":Str),z.cps.size <= 10000:=by
 have e:=page_size h ht
 refine ⟨?_,split_pos _ _,fun z hz=>?_⟩
 ·have:=split_le (cutS (partsS d.hd d.mt) t) ("\n":Str)
  have e2:(cutS (partsS d.hd d.mt) t).length=(cutS (partsS d.hd d.mt) t).cps.size:=rfl
  omega
 ·have:=part_short hz
  have e2:(cutS (partsS d.hd d.mt) t).length=(cutS (partsS d.hd d.mt) t).cps.size:=rfl
  have e3:z.length=z.cps.size:=rfl
  omega
theorem size_ends (r:Nat):Builtin.Range.rangeSize 1 ((r:Int)+2) 1=((r+1:Nat):Int):=by
 rw [rangeSize_nat];omega
theorem small_ends {r:Nat} (h:r <= 100):Builtin.Range.small 1 ((r:Int)+2) 1=true:=small_one (by omega) (by omega) (by omega) (by omega)
theorem endsL_len (d:SD) (n:Nat):(endsL d n).length=n:=by simp [endsL]
theorem endsL_getD (d:SD) {n j:Nat} (h:j < n):(endsL d n).getD j 0=((ilW d.W d.b (j+1):Nat):Int):=by
 unfold endsL
 rw [List.getD_eq_getElem?_getD,List.getElem?_map,List.getElem?_range h]
 rfl
theorem SD.full_len {d:SD} (h:d.Ok):(fullL d.hd d.mt).length <= 61:=by
 have:=h.len
 have:=h.hd
 simp
 omega
theorem back_hyps {d:SD} (h:d.Ok) {r:Nat} (hr:lgZ d.cs d.b <= (r:Int)) :
  (endsL d (r+1)).getD ((endsL d (r+1)).length - 1) 0=(d.b:Int)+((endsL d (r+1)).length:Int) * (d.nt:Int) /\ d.b < (endsL d (r+1)).length /\ (padTo d.cs (r+1)).length=(endsL d (r+1)).length ∧
  (∀ c∈padTo d.cs (r+1),0 <= c /\ c <= 1000) /\ d.nt <= 1000 /\ (padTo d.cs (r+1)).sum=(d.nt:Int) ∧
  (∀ t,1 <= t -> t < (endsL d (r+1)).length -> (endsL d (r+1)).getD (t - 1) 0=(d.b:Int)+(t:Int) * (ilS (padTo d.cs (r+1)) (endsL d (r+1)).length t+(d.nt:Int))):=by
 have k:=side_is d
 obtain ⟨w1,w2,w3⟩:=lg_le k hr
 have e:=endsL_len d (r+1)
 have pv:∀ i,(padTo d.cs (r+1)).getD i 0=((d.W.count i:Nat):Int):=fun i=>by rw [padTo_getD];exact k.cnt.val i
 have pl:(padTo d.cs (r+1)).length=r+1:=padTo_len w3
 have hWl:d.W.length=d.nt:=k.nt.symm
 have hnt:d.nt <= 61:=by
  have:=(words_len (fullL d.hd d.mt)).1
  have:=d.full_len h
  show (wordsW (fullL d.hd d.mt)).1.length <= 61
  omega
 rw [e]
 refine ⟨?_,by omega,pl,fun c hc=>?_,by omega,?_,fun t ht1 ht2=>?_⟩
 ·rw [Nat.add_sub_cancel,endsL_getD d (by omega),ilW_big fun w hw=>by have:=w1 w hw;omega,hWl]
  rw [Int.natCast_add,Int.natCast_mul]
 ·have:=CountIs.nonneg pv c hc
  omega
 ·rw [CountIs.sum pv fun w hw=>by have:=w1 w hw;omega,hWl]
 ·rw [endsL_getD d (by omega),show t - 1+1=t by omega,CountIs.ilS pv ht1 fun w hw=>by have:=w1 w hw;omega]
  unfold ilW
  rw [hWl,Int.natCast_add,Int.natCast_mul,Int.natCast_add]
theorem back_first_is (d:SD) (r:Nat):(endsL d (r+1)).getD 0 0=(d.n:Int):=by
 rw [endsL_getD d (by omega),ilW_one,(side_is d).n]
noncomputable def selfD (n nt:Int) (cs:List Int) (b:Nat):PyData:=.tuple [.int n,.int nt,normD cs b]
theorem self_eqv (n nt:Int) (cs:List Int) (b:Nat):PyData.eqv (selfD n nt cs b) (selfD n nt cs b)=true:=by
 simp only [selfD,PyData.eqv,PyData.eqvAll,norm_eqv]
 simp
theorem self_shaped (n nt:Int) (cs:List Int) (b:Nat):SeqAt.shaped (selfD n nt cs b)=true:=by
 simp [selfD,normD,SeqAt.shaped,PyData.canLay0,PyData.canLayAll0,PyData.depth,PyData.depthAll,ke_canLayAll0,ke_depthAll]
theorem self_reads {h₀ h:Heap} {L x nm ct:Addr} {led:List (Addr×Obj)} {vs:List Value} {cs:List Int} {b:Nat} {n nt:Int} {tb t1 t2:Tok} {k:Nat} (N:News h₀ L h led) (h0:(x,(⟨.type "tuple",none,.seq #[.int n t1,.int nt t2,.ref nm] k,#[]⟩:Obj))∈led) (h1:(nm,tup2 (.ref ct) (.int (b:Nat) tb))∈led) (h2:(ct,tupOf vs)∈led) (hi:IntsAre vs cs):Reads h (.ref x) (selfD n nt cs b) [] :=
 reads_tuple_at (N.get h0) rfl rfl (.cons (.int _ _) (.cons (.int _ _) (.cons (norm_reads N h1 h2 hi) .nil)))
theorem known_eq {m:Str -> Option Value} {a:Str} {v:Option Value} (e:m a=v):(fun z=>if z=a then v else m z)=m:=by
 funext z
 by_cases hz:z=a
 ·rw [if_pos hz,hz,e]
 ·rw [if_neg hz]
end
section
noncomputable def trD (k:Int×Int×Int):PyData:=.tuple [.int k.1,.int k.2.1,.int k.2.2]
noncomputable def rowsD (ks:List (Int×Int×Int)):PyData:=.list (ks.map trD)
noncomputable def triD (a b c:List (Int×Int×Int)):PyData:=.list [rowsD a,rowsD b,rowsD c]
theorem tr_lay:∀ ks:List (Int×Int×Int),PyData.canLayAll0 (ks.map trD)=true
 | []=>rfl
 | k::r=>by simp [PyData.canLayAll0,PyData.canLay0,trD,tr_lay r]
theorem tr_depth:∀ ks:List (Int×Int×Int),PyData.depthAll (ks.map trD) <= 1
 | []=>Nat.zero_le _
 | k::r=>by
  have:=tr_depth r
  simp only [List.map_cons,PyData.depthAll,trD,PyData.depth]
  omega
theorem rows_shaped (ks:List (Int×Int×Int)):SeqAt.shaped (rowsD ks)=true:=by
 have:=tr_depth ks
 simp only [SeqAt.shaped,rowsD,PyData.canLay0,tr_lay,PyData.depth,Bool.true_and,decide_eq_true_eq]
 omega
theorem tri_shaped (a b c:List (Int×Int×Int)):SeqAt.shaped (triD a b c)=true:=by
 have h1:=tr_depth a
 have h2:=tr_depth b
 have h3:=tr_depth c
 simp only [SeqAt.shaped,triD,rowsD,PyData.canLay0,PyData.canLayAll0,tr_lay,PyData.depth,PyData.depthAll,Bool.true_and,Bool.and_self,decide_eq_true_eq]
 omega
theorem tr_eqv:∀ ks:List (Int×Int×Int),PyData.eqvAll (ks.map trD) (ks.map trD)=true
 | []=>by simp [PyData.eqvAll]
 | k::r=>by simp [PyData.eqvAll,PyData.eqv,trD,tr_eqv r]
theorem tri_eqv (a b c:List (Int×Int×Int)):PyData.eqv (triD a b c) (triD a b c)=true:=by
 simp [triD,rowsD,PyData.eqv,PyData.eqvAll,tr_eqv]
theorem rows_none (ks:List (Int×Int×Int)):PyData.eqv (rowsD ks) (rowsD [])=decide (ks=[]):=by
 cases ks<;>simp [rowsD,PyData.eqv,PyData.eqvAll]
theorem trs_read {h₀ h:Heap} {L:Addr} {led:List (Addr×Obj)} (N:News h₀ L h led):∀ {ps:List TC},(∀ c∈ps,c.ent∈led) -> ReadsAll h (ps.map TC.val) ((ps.map TC.key).map trD) []
 | [],_=>.nil
 | c::r,he=>by
  have:=trs_read N (ps:=r) fun d hd=>he d (.tail _ hd)
  exact .cons (as:=[]) (bs:=[]) (reads_tuple_at (N.get (he c (.head _))) rfl rfl (.cons (.int _ _) (.cons (.int _ _) (.cons (.int _ _) .nil)))) this
theorem rows_read {h₀ h:Heap} {L al:Addr} {led:List (Addr×Obj)} {ps:List TC} {n:Nat} (N:News h₀ L h led) (hm:(al,W.listOf (ps.map TC.val).toArray n)∈led) (he:∀ c∈ps,c.ent∈led):Reads h (.ref al) (rowsD (ps.map TC.key)) [al] :=
 reads_list_at (as:=[]) (N.get hm) rfl rfl (by simpa using trs_read N he)
theorem tri_read {h:Heap} {al a b c:Addr} {n:Nat} {x y z:List (Int×Int×Int)} (hl:h.get? al=some (W.listOf #[.ref a,.ref b,.ref c] n)) (ha:Reads h (.ref a) (rowsD x) [a]) (hb:Reads h (.ref b) (rowsD y) [b]) (hc:Reads h (.ref c) (rowsD z) [c]):Reads h (.ref al) (triD x y z) [al,a,b,c] :=
 reads_list_at hl rfl rfl (.cons (as:=[a]) ha (.cons (as:=[b]) hb (.cons (as:=[c]) (bs:=[]) hc .nil)))
noncomputable def flipK (k:Int×Int×Int):Int×Int×Int:=(k.1,k.2.2,k.2.1)
theorem flip_rows (cs1 cs2:List Int) (b1 b2 nt1 nt2 k:Nat):(((List.range k).map (rowZ cs1 cs2 b1 b2 nt1 nt2)).filter fun q=>notLess (flipK q)).map flipK=witZ notLess cs2 cs1 b2 b1 nt2 nt1 k:=by
 unfold witZ
 have e:(List.range k).map (rowZ cs2 cs1 b2 b1 nt2 nt1)=((List.range k).map (rowZ cs1 cs2 b1 b2 nt1 nt2)).map flipK:=by rw [List.map_map];rfl
 rw [e]
 exact (List.filter_map (f:=flipK) (p:=notLess) (l:=(List.range k).map (rowZ cs1 cs2 b1 b2 nt1 nt2))).symm
theorem paired_tc {α:Type} {l:List TC} {ys:List Value} (h:Paired (fun (c:TC) y=>y=c.val) l ys):ys=l.map TC.val:=by
 induction h with
 | nil=>rfl
 | cons h _ ih=>rw [h,ih];rfl
theorem tcs_at {ps:List TC}:∀ i v,i < ps.length -> (ps.map TC.val).toArray[i]?=some v -> ∃ c,ps[i]?=some c /\ v=c.val:=by
 intro i v hi h;rw [List.getElem?_toArray,List.getElem?_map,List.getElem?_eq_getElem hi] at h
 exact ⟨ps[i],List.getElem?_eq_getElem hi,(Option.some.inj h).symm⟩
theorem filter_key {q:Int×Int×Int -> Bool} (ps:List TC):(ps.filter fun c=>q c.key).map TC.key=(ps.map TC.key).filter q:=by
 rw [List.filter_map]
 rfl
noncomputable def RowsJ (R:List (Addr×Obj)) (f:Nat -> List (Int×Int×Int)):Nat -> List Value -> List (Addr×Obj) -> Prop:=fun i ys nw =>
 ∃ ps:List TC,ys=ps.map TC.val /\ (∀ c∈ps,c.ent∈nw) /\ (∀ p∈R,p∈nw) /\ ps.map TC.key=f i
theorem ints_get {vs:List Value} {ns:List Int} {k:Nat} (h:IntsAre vs ns) (hk:k < ns.length):∃ t,vs.toArray[k]?=some (.int (ns.getD k 0) t):=by
 have hl:=h.length
 have hlt:k < vs.length:=by omega
 obtain ⟨z,u,e1,e2⟩:=IntsAre.at h k vs[k] (List.getElem?_eq_getElem hlt)
 refine ⟨u,?_⟩
 rw [List.getElem?_toArray,List.getElem?_eq_getElem hlt,e1,List.getD_eq_getElem?_getD,e2]
 rfl
theorem ends_get {d:SD} {vs:List Value} {n j:Nat} (h:IntsAre vs (endsL d n)) (hj:j < n):∃ t,vs.toArray[(((j+1:Nat):Int) - 1).toNat]?=some (.int (ilZ d.cs d.b d.nt ((j+1:Nat):Int)) t):=by
 obtain ⟨t,e⟩:=ints_get (k:=j) h (by rw [endsL_len];exact hj)
 refine ⟨t,?_⟩
 rw [show (((j+1:Nat):Int) - 1).toNat=j by omega,e,endsL_getD d hj,(side_is d).il (by omega)]
theorem off1_mem {D:Addr}:∀ {l:List (Addr×Obj)},LCg.Off1 D l -> ∀ p∈l,p.1≠D
 | [],_,_,h=>nomatch h
 | _::_,x,p,h=>by
  rcases List.mem_cons.mp h with rfl | h
  ·exact x.1
  ·exact off1_mem x.2 p h
theorem ints_gen {h₀ h:Heap} {L a:Addr} {R:List (Addr×Obj)} {vs:Array Value} {lo hi st:Option Int} {ns:List Int} {C:Prop} (i:IntsAre (slicePick vs lo hi st).toList ns)
  (N:News h₀ L h ((a,{ cls:=.type "list",data:=.seq (slicePick vs lo hi st) })::R)) (k:∀ zl:List Value,IntsAre zl ns -> News h₀ L h ((a,{ cls:=.type "list",data:=.seq zl.toArray })::R) -> C):C :=
 k _ i (by rw [Array.toArray_toList];exact N)
end
section
noncomputable def okB (p:Str×Str):Bool:=(prepT p.1 == p.2) && (p.2.cps.toList.all fun c=>decide (c < 0x110000) && !Txt.isspace (one c) && (c != 124)) && decide (p.1.cps.size <= 4) && decide (p.2.cps.size <= 4)
theorem ok_sep:sepL.all okB=true:=by decide +kernel
theorem ok_several:severalL.all okB=true:=by decide +kernel
theorem ok_beside:besideL.all (fun z=>okB (one z.toNat,one z.toNat))=true:=by decide +kernel
theorem ok_hidden:hiddenL.all (fun z=>okB (one z.toNat,("":Str)))=true:=by decide +kernel
theorem ok_rest:(List.range 27).all (fun j=>okB (one (65013+(j:Int)).toNat,("":Str)) || decide (j < 11))=true:=by decide +kernel
theorem ok_caps:(List.range 26).all (fun j=>okB (one (65+(j:Int)).toNat,one (97+(j:Int)).toNat))=true:=by decide +kernel
noncomputable def lettersL:List (Int×Str):=basesL.tail.flatMap fun z=>(List.range 26).map fun (j:Nat)=>(z+(j:Int),one (97+(j:Int)).toNat)
theorem ok_sub:lettersL.isSublist b3Src=true:=by decide +kernel
theorem ok_b1:lettersL.all (fun q=>!b1Has (oneF (one q.1.toNat)) && oneF (one q.1.toNat) == q.1 && (q.2.cps.toList.map fun c=>(endT c).cps.toList).flatten == q.2.cps.toList)=true:=by decide +kernel
theorem okKeys_find:∀ (lo:Int) (l:List (Int×Str)),okKeys lo l=true -> ∀ q∈l,(l.find? fun p=>p.1 == q.1)=some q
 | lo,p::r,h,q,hq=>by
  simp only [okKeys_c,Bool.and_eq_true,decide_eq_true_eq] at h
  rcases List.mem_cons.mp hq with rfl | hq
  ·exact List.find?_cons_of_pos (beq_self_eq_true _)
  ·rw [List.find?_cons_of_neg (p:=fun p:Int×Str=>p.1 == q.1) (fun e=>Int.ne_of_lt (okKeys_all _ _ h.2 q hq).1 (eq_of_beq e)),okKeys_find _ _ h.2 q hq]
noncomputable def fL (l:List Nat):List Nat:=((l.filter fun c=>!b1Has (oneF (one c))).map fun c=>(mapB3 (one c)).cps.toList).flatten
noncomputable def pL (l:List Nat):List Nat:=((fL l).map fun c=>(endT c).cps.toList).flatten
theorem fold_cps (y:Str):(foldT y).cps.toList=fL y.cps.toList:=by
 unfold foldT fL
 rw [txt_join,join_cps,List.map_map]
 rfl
theorem prep_cps (y:Str):(prepT y).cps.toList=pL y.cps.toList:=by
 unfold prepT pL
 rw [txt_join,join_cps,List.map_map,fold_cps]
 rfl
theorem fL_app (a b:List Nat):fL (a ++ b)=fL a ++ fL b:=by
 unfold fL
 rw [List.filter_append,List.map_append,List.flatten_append]
theorem pL_app (a b:List Nat):pL (a ++ b)=pL a ++ pL b:=by
 unfold pL
 rw [fL_app,List.map_append,List.flatten_append]
theorem pL_len (l:List Nat):(pL l).length=(fL l).length:=by
 unfold pL
 generalize fL l=k
 induction k with
 | nil=>rfl
 | cons c k ih =>
  have h1:(endT c).cps.toList.length=1:=by
   have:=endT_len c
   rw [Array.length_toList];exact this
  rw [List.map_cons,List.flatten_cons,List.length_append,ih,h1,List.length_cons,Nat.add_comm]
structure PairOk (p:Str×Str):Prop where
 prep:pL p.1.cps.toList=p.2.cps.toList
 sign:∀ c∈p.2.cps.toList,SignIs c /\ c≠124
 s1:p.1.cps.toList.length <= 4
 s2:p.2.cps.toList.length <= 4
theorem ok_pair {p:Str×Str} (h:okB p=true):PairOk p:=by
 unfold okB at h
 simp only [Bool.and_eq_true,decide_eq_true_eq,List.all_eq_true,Bool.not_eq_true',bne_iff_ne] at h
 obtain ⟨⟨⟨h1,h2⟩,h3⟩,h4⟩:=h
 refine ⟨?_,fun c hc=>?_,by rw [Array.length_toList];exact h3,by rw [Array.length_toList];exact h4⟩
 ·rw [<- prep_cps,eq_of_beq h1]
 ·obtain ⟨⟨a,b⟩,c⟩:=h2 c hc
  exact ⟨⟨a,b⟩,c⟩
theorem ok_letter {q:Int×Str} {y:Str} (h:q∈lettersL) (P:PairOk (y,q.2)):PairOk (one q.1.toNat,q.2):=by
 have hb:=List.all_eq_true.mp ok_b1 q h
 simp only [Bool.and_eq_true,beq_iff_eq,Bool.not_eq_true'] at hb
 have hf:b3F (oneF (one q.1.toNat))=some q.2:=by
  unfold b3F
  rw [hb.1.2,okKeys_find 0 _ b3_keys q ((List.isSublist_iff_sublist.mp ok_sub).subset h)];rfl
 refine ⟨?_,P.sign,Nat.le_of_ble_eq_true rfl,P.s2⟩
 show pL [q.1.toNat]=_
 unfold pL fL
 rw [List.filter_cons_of_pos (by rw [hb.1.1];rfl),List.filter_nil,List.map_cons,mapB3_some hf,List.map_nil,List.flatten_cons,List.flatten_nil,List.append_nil,hb.2]
theorem ok_empty:PairOk (("":Str),("":Str)):=ok_pair (by decide +kernel)
theorem getD_in {α:Type} {l:List α} {d:α} {k:Nat} (h:k < l.length):l.getD k d∈l:=by
 rw [List.getD_eq_getElem?_getD,List.getElem?_eq_getElem h]
 exact List.getElem_mem h
theorem ok_pair1 {n:Int} (h0:0 <= n):PairOk (pair1 n):=by
 have c1:0 <= (n.fdiv 12).fmod 26 /\ (n.fdiv 12).fmod 26 < 26:=mod_bnd (by decide)
 have c2:0 <= (n.fdiv 12).fmod 13 /\ (n.fdiv 12).fmod 13 < 13:=mod_bnd (by decide)
 have c3:0 <= n.fmod 12 /\ n.fmod 12 < 12:=mod_bnd (by decide)
 unfold pair1
 split
 ·next h =>
  have hc:=List.all_eq_true.mp ok_caps ((n.fdiv 12).fmod 26).toNat (List.mem_range.mpr (tnlt (k:=26) c1.1 c1.2))
  have hz:=getD_in (d:=0) (show (n.fmod 12).toNat < basesL.length from tnlt (k:=11) c3.1 h)
  revert hz
  generalize basesL.getD _ _=z
  rw [<- Int.toNat_of_nonneg c1.1]
  intro hz;rcases List.mem_cons.mp hz with rfl | hz
  ·exact ok_pair hc
  ·exact ok_letter (List.mem_flatMap.mpr ⟨z,hz,List.mem_map.mpr ⟨_,List.mem_range.mpr (tnlt (k:=26) c1.1 c1.2),rfl⟩⟩) (ok_pair hc)
 ·exact ok_pair (List.all_eq_true.mp ok_beside _ (getD_in (d:=0) (show ((n.fdiv 12).fmod 13).toNat < besideL.length from tnlt (k:=13) c2.1 c2.2)))
theorem ok_pair2 (n:Int):PairOk (pair2 n):=by
 have c3:0 <= n.fmod 12 /\ n.fmod 12 < 12:=mod_bnd (by decide)
 exact ok_pair (List.all_eq_true.mp ok_several _ (getD_in (show (n.fmod 12).toNat < severalL.length from tnlt (k:=12) c3.1 c3.2)))
theorem ok_pair3 (n:Int):PairOk (pair3 n):=by
 have c3:0 <= n.fmod 27 /\ n.fmod 27 < 27:=mod_bnd (by decide)
 unfold pair3
 split
 ·next h=>exact ok_pair (List.all_eq_true.mp ok_hidden _ (getD_in (d:=0) (show (n.fmod 27).toNat < hiddenL.length from tnlt (k:=11) c3.1 h)))
 ·next h =>
  have hj:=List.all_eq_true.mp ok_rest (n.fmod 27).toNat (List.mem_range.mpr (tnlt (k:=27) c3.1 c3.2))
  rw [Int.toNat_of_nonneg c3.1,Bool.or_eq_true,decide_eq_true_eq] at hj
  rcases hj with hj | hj
  ·exact ok_pair hj
  ·exact absurd ((Int.toNat_lt c3.1).mp hj) h
theorem ok_pairK (k:Int) {n:Int} (h0:0 <= n):PairOk (pairK k n):=by
 unfold pairK
 split
 ·exact ok_empty
 ·split
  ·exact ok_pair1 h0
  ·split
   ·exact ok_pair2 n
   ·exact ok_pair3 n
theorem ok_sepK (k:Int):PairOk (sepL.getD ((k.fmod 2).toNat) (("":Str),("":Str))):=by
 have c3:0 <= k.fmod 2 /\ k.fmod 2 < 2:=mod_bnd (by decide)
 exact ok_pair (List.all_eq_true.mp ok_sep _ (getD_in (show (k.fmod 2).toNat < sepL.length from tnlt (k:=2) c3.1 c3.2)))
theorem ok_word (k:Nat) {v:Int} (h0:0 <= v):(∀ p∈wordL k v,PairOk p) /\ (wordL k v).length <= 3:=by
 have d1:0 <= v.fdiv 144:=by rw [Int.fdiv_eq_ediv_of_nonneg _ (by decide)];exact Int.ediv_nonneg h0 (by decide)
 have d2:0 <= v.fdiv 150:=by rw [Int.fdiv_eq_ediv_of_nonneg _ (by decide)];exact Int.ediv_nonneg h0 (by decide)
 unfold wordL
 split
 ·split
  ·refine ⟨fun p hp=>?_,by simp⟩
   simp only [List.mem_append,List.mem_cons,List.not_mem_nil,or_false] at hp
   rcases hp with (h | h) | h
   ·rw [h];exact ok_pairK _ d1
   ·rw [h];exact ok_pairK _ d2
   ·rw [h];exact ok_sepK _
  ·refine ⟨fun p hp=>?_,by simp⟩
   simp only [List.mem_append,List.mem_cons,List.not_mem_nil,or_false] at hp
   rcases hp with h | h
   ·rw [h];exact ok_pairK _ d1
   ·rw [h];exact ok_pairK _ d2
 ·exact ⟨(fun p hp=>nomatch hp),Nat.zero_le _⟩
theorem ok_all:∀ {l:List (Str×Str)},(∀ p∈l,PairOk p) -> pL (l.map fun p=>p.1.cps.toList).flatten=(l.map fun p=>p.2.cps.toList).flatten /\ (l.map fun p=>p.1.cps.toList).flatten.length <= 4 * l.length /\ (l.map fun p=>p.2.cps.toList).flatten.length <= 4 * l.length /\ ∀ c∈(l.map fun p=>p.2.cps.toList).flatten,SignIs c /\ c≠124
 | [],_=>⟨rfl,Nat.le_refl _,Nat.le_refl _,(fun c h=>nomatch h)⟩
 | p::l,h=>by
  obtain ⟨h1,h2,h3,h4⟩:=ok_all (l:=l) fun q hq=>h q (.tail _ hq)
  have hp:=h p (.head _)
  simp only [List.map_cons,List.flatten_cons,List.length_append,List.length_cons]
  refine ⟨by rw [pL_app,h1,hp.prep],by rw [Nat.mul_succ,Nat.add_comm];exact Nat.add_le_add h2 hp.s1,by rw [Nat.mul_succ,Nat.add_comm];exact Nat.add_le_add h3 hp.s2,fun c hc=>?_⟩
  rcases List.mem_append.mp hc with h5 | h5
  ·exact hp.sign c h5
  ·exact h4 c h5
theorem drawn_ok {zs:List Int} (h:zs.length=4) (hb:∀ z∈zs,0 <= z /\ z < 1000000):(Txt.join ("":Str) ((drawnL zs 4).map (·.1))).cps.size <= 300 /\ (foldT (Txt.join ("":Str) ((drawnL zs 4).map (·.1)))).cps.size <= 1000 /\ prepT (Txt.join ("":Str) ((drawnL zs 4).map (·.1)))=Txt.join ("":Str) ((drawnL zs 4).map (·.2)) /\ (∀ c∈(Txt.join ("":Str) ((drawnL zs 4).map (·.2))).cps.toList,SignIs c /\ c≠124) /\ (Txt.join ("":Str) ((drawnL zs 4).map (·.2))).cps.toList.length <= 60:=by
 have hz:∀ k,0 <= zs.getD k 0:=fun k=>by
  rw [List.getD_eq_getElem?_getD]
  cases e:zs[k]? with
  | none=>exact Int.le_refl _
  | some z=>exact (hb z (List.mem_of_getElem? e)).1
 have hw:=fun k=>ok_word k (hz k)
 have hall:∀ p∈drawnL zs 4,PairOk p:=fun p hp=>by
  unfold drawnL at hp
  obtain ⟨q,hq,hp⟩:=List.mem_flatten.mp hp
  obtain ⟨k,_,rfl⟩:=List.mem_map.mp hq
  exact (hw k).1 p hp
 have hlen:(drawnL zs 4).length <= 12:=by
  have e:drawnL zs 4=wordL 0 (zs.getD 0 0) ++ (wordL 1 (zs.getD 1 0) ++ (wordL 2 (zs.getD 2 0) ++ (wordL 3 (zs.getD 3 0) ++ []))):=rfl
  rw [e]
  rw [List.length_append,List.length_append,List.length_append,List.length_append]
  exact Nat.add_le_add (hw 0).2 (Nat.add_le_add (hw 1).2 (Nat.add_le_add (hw 2).2 (hw 3).2))
 obtain ⟨g1,g2,g3,g4⟩:=ok_all hall
 have g5:4 * (drawnL zs 4).length <= 48:=Nat.mul_le_mul_left 4 hlen
 have j1:(Txt.join ("":Str) ((drawnL zs 4).map (·.1))).cps.toList=((drawnL zs 4).map fun p=>p.1.cps.toList).flatten:=by rw [txt_join,join_cps,List.map_map];rfl
 have j2:(Txt.join ("":Str) ((drawnL zs 4).map (·.2))).cps.toList=((drawnL zs 4).map fun p=>p.2.cps.toList).flatten:=by rw [txt_join,join_cps,List.map_map];rfl
 refine ⟨?_,?_,?_,?_,?_⟩
 ·rw [<- Array.length_toList,j1];exact Nat.le_trans g2 (Nat.le_trans g5 (by decide))
 ·rw [<- Array.length_toList,fold_cps,j1,<- pL_len,g1];exact Nat.le_trans g3 (Nat.le_trans g5 (by decide))
 ·rw [<- toL_ofL (prepT _),prep_cps,j1,g1,<- j2,toL_ofL]
 ·rw [j2];exact g4
 ·rw [j2];exact Nat.le_trans g3 (Nat.le_trans g5 (by decide))
end
theorem reg42:True:=by
 w_top off
 k_with "I"=>skip
 k_with "j"=>fail_if_success k_extra "J"
 k_with "ite"=>(k_extra "j";k_here;with_reducible first | refine ite_p (by with_unfolding_all rfl) ?_ | refine ite_n (by with_unfolding_all exact Bool.false_ne_true) ?_)
 k_with "exec If"=>(k_extra "j";k_here;k_dflt (refine wpAny_If ?_))
 k_with "exec For"=>(k_extra "j";k_extra "hg")
 k_with "exec For Name Call cons nil"=>(k_extra "j";k_extra "hg")
 k_with "exec Assign cons ListComp"=>(k_extra "j";k_extra "hg")
 k_with "eval ListComp"=>(k_extra "j";k_extra "hg")
 k_with "CompSrc"=>(k_extra "j";k_extra "hg")
 k_with "subscriptTail Name Slice ref ref"=>(k_extra "j";k_extra "hg")
 k_with "call ref"=>(k_extra "j";k_extra "hg")
 k_with "call builtin:str.split"=>(k_extra "j";k_extra "hg")
 k_with "call builtin:list.append"=>(k_extra "j";k_extra "hg")
 k_with "binaryOp Mult str int"=>(k_extra "j";k_extra "hg")
 k_with "compareOp NotEq ref ref"=>(k_extra "j";k_extra "hg")
 k_with "compareOp Eq ref ref"=>(k_extra "j";k_extra "hg")
 k_with "subscriptTail"=>(k_extra "j";k_extra "hg")
 trivial
section
section
variable {w:World} {mean:ExcName -> Option Value} {mg mb:Str -> Option Value} {p:Program} {loose:List Str} {fa:Addr} {ccd:Value} {h₀:Heap} {L:Addr} {s:Shared} {Q:Flow -> Shared -> Prop} {E:Value -> Shared -> Prop} {m₀:Str -> Option Value}
noncomputable def S_law_sides {lt lp ll lh ln:Addr} {z0 z1:Int} {t0 t1:Tok} {ys:List Value} {ns:List Int} {nl:Nat} {oe os ol:Obj}:Prop:=∀ (B:Below callerA h₀ [] h₀) (X:(KK w.params).In h₀) (T:Top p loose mean mg mb h₀) (F:Fr h₀ L s.heap (fun y=>if y=("texts":Str) then some (.ref lt) else if y=("parts":Str) then some (.ref lp) else if y=("heads":Str) then some (.ref lh) else if y=("numbers":Str) then some (.ref ln) else m₀ y)) (N:News h₀ L s.heap ((L+1+1+1+1,os)::(lt,W.listOf #[] 0)::(lp,W.listOf #[] 0)::(ll,W.listOf #[] 0)::(140,tblO #[])::(147,tblO #[])::(lh,W.listOf #[.int z0 t0,.int z1 t1] 0)::(ln,W.listOf ys.toArray nl)::(L+1+1+1,ol)::(L+1+1+1+1+1,oe)::[])) (hol:ol.data=.cell (some (.ref ll))) (hos:os.data=.cell none) (hg:AllBare s.gens) (hi:IntsAre ys ns) (hnl:ns.length=8) (hnb:∀ z∈ns,0 <= z /\ z < 1000000) (hz0:0 <= z0 /\ z0 < 2) (hz1:0 <= z1 /\ z1 < 2) (hca:∀ q∈((lt,W.listOf #[] 0)::(lp,W.listOf #[] 0)::(ll,W.listOf #[] 0)::(140,tblO #[])::(147,tblO #[])::(lh,W.listOf #[.int z0 t0,.int z1 t1] 0)::(ln,W.listOf ys.toArray nl)::(L+1+1+1,ol)::(L+1+1+1+1+1,oe)::[]:List (Addr×Obj)),q.1≠L+1+1+1+1) (hoff:∀ q∈((lh,W.listOf #[.int z0 t0,.int z1 t1] 0)::(ln,W.listOf ys.toArray nl)::(L+1+1+1,ol)::(L+1+1+1+1+1,oe)::[]:List (Addr×Obj)),q.1≠lt /\ q.1≠lp /\ q.1≠ll /\ q.1≠140 /\ q.1≠147) (hdis:@Ne Nat lt lp /\ @Ne Nat lt ll /\ @Ne Nat lp ll /\ @Ne Nat lt 140 /\ @Ne Nat lt 147 /\ @Ne Nat lp 140 /\ @Ne Nat lp 147 /\ @Ne Nat ll 140 /\ @Ne Nat ll 147) (hdone:∀ h' tk g' m' news' o' v',Fr h₀ L h' m' -> o'.data=.cell v' -> News h₀ L h' ((L+1+1+1+1,o')::news') -> (∀ p∈news',p.1≠L+1+1+1+1) -> 
  SidesJ w.params [z0,z1] ["spelled","meant","marks"] (fun y=>if y=("texts":Str) then some (.ref lt) else if y=("parts":Str) then some (.ref lp) else if y=("heads":Str) then some (.ref lh) else if y=("numbers":Str) then some (.ref ln) else m₀ y) [(lh,W.listOf #[.int z0 t0,.int z1 t1] 0),(ln,W.listOf ys.toArray nl),(L+1+1+1,ol),(L+1+1+1+1+1,oe)] lt lp ll 2 m' news' g' →
  wpAny (model rw_rw0127_01.row.prog w) (lawA L fa ccd) (execs (lawB.drop 7) (lawE L fa ccd)) Q E { s with heap:=h',toks:=tk,gens:=g' }) (hE:PassesOwn (model rw_rw0127_01.row.prog w) (lawA L fa ccd) (lawE L fa ccd) E),wpAny (model rw_rw0127_01.row.prog w) (lawA L fa ccd) (execs (lawB.drop 6) (lawE L fa ccd)) Q E s
namespace e_law_sides
noncomputable abbrev Sd:=fun z:((((_×_×_)×(_×_)×_×_)×(_×_×_)×(_×_)×_×_)×((_×_×_)×(_×_)×_×_)×((_×_)×_×_)×(_×_)×_×_)=>@S_law_sides z.1.1.1.1 z.1.1.1.2.1 z.1.1.1.2.2 z.1.1.2.1.1 z.1.1.2.1.2 z.1.1.2.2.1 z.1.1.2.2.2 z.1.2.1.1 z.1.2.1.2.1 z.1.2.1.2.2 z.1.2.2.1.1 z.1.2.2.1.2 z.1.2.2.2.1 z.1.2.2.2.2 z.2.1.1.1 z.2.1.1.2.1 z.2.1.1.2.2 z.2.1.2.1.1 z.2.1.2.1.2 z.2.1.2.2.1 z.2.1.2.2.2 z.2.2.1.1.1 z.2.2.1.1.2 z.2.2.1.2.1 z.2.2.1.2.2 z.2.2.2.1.1 z.2.2.2.1.2 z.2.2.2.2.1 z.2.2.2.2.2
@[irreducible] def κ:=pick (by k_extra "ne") Sd
def h₀_:=κ.1.2.1.2.1
def L_:=κ.1.2.1.2.2
def lt_:=κ.2.1.1.1
def lp_:=κ.2.1.1.2.1
def ll_:=κ.2.1.1.2.2
def z0_:=κ.2.1.2.2.1
def z1_:=κ.2.1.2.2.2
def ys_:=κ.2.2.1.2.1
def nl_:=κ.2.2.2.1.1
noncomputable abbrev Sc:=@S_law_sides κ.1.1.1.1 κ.1.1.1.2.1 κ.1.1.1.2.2 κ.1.1.2.1.1 κ.1.1.2.1.2 κ.1.1.2.2.1 κ.1.1.2.2.2 κ.1.2.1.1 h₀_ L_ κ.1.2.2.1.1 κ.1.2.2.1.2 κ.1.2.2.2.1 κ.1.2.2.2.2 lt_ lp_ ll_ κ.2.1.2.1.1 κ.2.1.2.1.2 z0_ z1_ κ.2.2.1.1.1 κ.2.2.1.1.2 ys_ κ.2.2.1.2.2 nl_ κ.2.2.2.1.2 κ.2.2.2.2.1 κ.2.2.2.2.2
noncomputable def seg_A:PSigma fun P:Tok -> Nat -> Heap -> Nat -> Tok -> Tok -> Tok -> Nat -> Tok -> (Str -> Option Value) -> Heap -> Nat -> Array GenState -> (List (Addr×Obj)) -> Addr -> Obj -> List SD -> Nat -> Nat -> Nat -> Array Value -> Array Value -> (List (Addr×Obj)) -> (Str -> Option Value) -> (List (Addr×Obj)) -> List Int -> Prop=>(∀ a b c d e f g h i j k l m n o p q r s t u v w x y z,P a b c d e f g h i j k l m n o p q r s t u v w x y z) -> Sc:=⟨_,by
 intro hP;unfold Sc S_law_sides
 intro B X T F N hol hos hg hi hnl hnb hz0 hz1 hca hoff hdis hdone hE;have e1:lawSc=lawSc:=rfl
 conv at e1=>{ rhs;whnf }
 have e2:lawB.drop 6=lawB.drop 6:=rfl
 conv at e2=>{ rhs;whnf }
 rw [e2]
 unfold lawA lawE at hdone hE ⊢
 rw [e1] at hdone hE ⊢
 clear e1 e2;revert X;k_fill;intro X;k_steps;refine unhalt ?_;k_dflt (refine' For_C' F ?k1 ?k2 ?_ (by intro _;rfl) hE;(case k1=>exact rfl);(case k2=>exact rfl))
 k_steps;(rename Fr _ _ _ _=>lF');(rename News _ _ _ _=>lN');(rename IsRange _ _ _ _ _ _ _ _=>lR');k_dflt (refine' rangeC (n:=2) rfl rfl lR' ?sm ?sz lF' hos lN' hca (SidesJ κ.1.1.1.1.params [z0_,z1_] ["spelled","meant","marks"] _ [(κ.2.1.2.1.1,W.listOf #[.int z0_ κ.2.2.1.1.1,.int z1_ κ.2.2.1.1.2] 0),(κ.2.1.2.1.2,W.listOf ys_.toArray nl_),(L_+1+1+1,κ.2.2.2.2.2),(L_+1+1+1+1+1,κ.2.2.2.1.2)] lt_ lp_ ll_) ⟨hg,Ov.refl,[],0,0,0,#[],#[],_,rfl,.inl rfl,.inl rfl,rfl,rfl,fun _ h=>h,hoff,(fun c hc=>nomatch hc)⟩ (fun i u m₁ news₁ h tk g own it o₁ hi2 hJ hoff1 hown hit hic F' ho1 N'=>?_) (fun h' tk' g'' m' news' o' v' F' ho' N' hoff' hJ=>?dn))
 case dn=>exact wpAny_execs_nil (hdone h' _ g'' m' news' o' v' F' ho' N' hoff' hJ)
 case sm=>decide +kernel
 case sz=>decide +kernel
 clear hdone lF' lN' lR';obtain ⟨hg1,hov,ds,n1,n2,n3,ps,qs,rest,rfl,ht1,ht2,hdl,hdz,hsub,hrest,hds⟩:=hJ
 rw [show (0:Int)+(i:Int) * 1=(i:Nat) by omega] at ho1
 obtain ⟨gm,F''⟩:=fr_form0 hov F'
 simp only [ovF_n,ovF_c] at F''
 have F3:Fr h₀_ L_ h _:=F''
 clear F' hov F'';obtain ⟨R,hR⟩:∃ R,R=own ++ rest:=⟨_,rfl⟩
 have N3:News h₀_ L_ h ((L_+1+1+1+1,o₁)::(lt_,W.listOf (ds.map SD.txt).toArray n1)::(lp_,W.listOf (ds.map fun d=>Value.ref d.P).toArray n2)::(ll_,W.listOf (ds.map fun d=>Value.ref d.ws).toArray n3)::(140,tblO ps)::(147,tblO qs)::R):=fun p hp=>N' p (by
  rw [hR] at hp
  revert p;w_head)
 have hR1:∀ q∈R,q.1≠lt_ /\ q.1≠lp_ /\ q.1≠ll_ /\ q.1≠140 /\ q.1≠147:=fun q hq=>by
  rw [hR] at hq
  rcases List.mem_append.mp hq with h | h
  ·rw [hown q h]
   exact ⟨fun e=>(hoff1 _ (.head _)).1 e.symm,fun e=>(hoff1 _ nx1).1 e.symm,fun e=>(hoff1 _ nx2).1 e.symm,fun e=>(hoff1 _ nx3).1 e.symm,fun e=>(hoff1 _ nx4).1 e.symm⟩
  ·exact hrest q h
 have hR2:∀ q∈R,q.1≠L_+1+1+1+1:=fun q hq=>by
  rw [hR] at hq
  rcases List.mem_append.mp hq with h | h
  ·rw [hown q h];exact hic
  ·exact (hoff1 q (by w_why)).2
 have m1:(κ.2.1.2.1.1,W.listOf #[.int z0_ κ.2.2.1.1.1,.int z1_ κ.2.2.1.1.2] 0)∈R:=by rw [hR];exact List.mem_append_right _ (hsub _ (by w_why))
 have m2:(κ.2.1.2.1.2,W.listOf ys_.toArray nl_)∈R:=by rw [hR];exact List.mem_append_right _ (hsub _ (by w_why))
 have m3:(L_+1+1+1,κ.2.2.2.2.2)∈R:=by rw [hR];exact List.mem_append_right _ (hsub _ (by w_why))
 have m4:(L_+1+1+1+1+1,κ.2.2.2.1.2)∈R:=by rw [hR];exact List.mem_append_right _ (hsub _ (by w_why))
 refine cA9 hdis ?_
 intro x1 x2 x3 x4 x5 x6 x7 x8 x9;clear hdis;have y1:@Ne Nat lt_ (L_+1+1+1+1):=hca _ (.head _)
 have y2:@Ne Nat lp_ (L_+1+1+1+1):=hca _ nx1
 have y3:@Ne Nat ll_ (L_+1+1+1+1):=hca _ nx2
 have y4:@Ne Nat 140 (L_+1+1+1+1):=hca _ nx3
 have y5:@Ne Nat 147 (L_+1+1+1+1):=hca _ nx4
 clear N';obtain ⟨zs,hz9,hzl,hzm⟩:=pick_four hnl hi2
 have hzb:∀ z∈zs,0 <= z /\ z < 1000000:=fun z hz=>hnb z (hzm z hz)
 rename_i x2_A x3_A x16_A x17_A x18_A x19_A x20_A x21_A x22_A x23_A;revert B T x2_A x3_A hol hos hg hi hnl hnb hz0 hz1 hca hoff hE X x23_A hi2 hown hit hic ho1 hg1 ht1 ht2 hdl hdz hsub hrest hds hoff1 F3 hR N3 hR1 hR2 m1 m2 m3 m4 x1 x2 x3 x4 x5 x6 x7 x8 x9 y1 y2 y3 y4 y5 hz9 hzl hzm hzb
 exact hP x16_A x17_A x18_A x19_A x20_A x21_A x22_A i u m₁ h tk g own it o₁ ds n1 n2 n3 ps qs rest gm R zs⟩
noncomputable abbrev SA:=fun z:((((Tok×Nat×Heap)×Nat×Tok×Tok)×(Tok×Nat×Tok)×((Str -> Option Value)×Heap)×Nat×Array GenState)×(((List (Addr×Obj))×Addr×Obj)×List SD×Nat×Nat)×(Nat×Array Value×Array Value)×((List (Addr×Obj))×(Str -> Option Value))×(List (Addr×Obj))×List Int)=>seg_A.1 z.1.1.1.1 z.1.1.1.2.1 z.1.1.1.2.2 z.1.1.2.1 z.1.1.2.2.1 z.1.1.2.2.2 z.1.2.1.1 z.1.2.1.2.1 z.1.2.1.2.2 z.1.2.2.1.1 z.1.2.2.1.2 z.1.2.2.2.1 z.1.2.2.2.2 z.2.1.1.1 z.2.1.1.2.1 z.2.1.1.2.2 z.2.1.2.1 z.2.1.2.2.1 z.2.1.2.2.2 z.2.2.1.1 z.2.2.1.2.1 z.2.2.1.2.2 z.2.2.2.1.1 z.2.2.2.1.2 z.2.2.2.2.1 z.2.2.2.2.2
@[irreducible] def σA:=pick (by k_extra "ne") SA
def i_A:=σA.1.2.1.2.1
def u_A:=σA.1.2.1.2.2
def h_A:=σA.1.2.2.1.2
def tk_A:=σA.1.2.2.2.1
def g_A:=σA.1.2.2.2.2
def o₁_A:=σA.2.1.1.2.2
def ds_A:=σA.2.1.2.1
def n1_A:=σA.2.1.2.2.1
def n2_A:=σA.2.1.2.2.2
def n3_A:=σA.2.2.1.1
def ps_A:=σA.2.2.1.2.1
def qs_A:=σA.2.2.1.2.2
def R_A:=σA.2.2.2.2.1
noncomputable def seg_B:PSigma fun P:Heap -> List Value -> Addr -> Tok -> Tok -> Heap -> Nat -> Str -> List Nat -> Heap -> Heap -> Heap -> Nat -> Tok -> Heap -> Nat -> Heap -> Nat -> Tok -> Tok -> Nat -> Tok -> Nat -> Addr -> (List (Str×Tok)) -> Heap -> Nat -> Heap -> Heap -> List Value -> Addr -> Heap -> Nat -> Tok -> Nat -> Heap -> Nat -> Tok -> Nat -> Tok -> Nat -> Tok -> Nat -> Prop=>(∀ a b c d e f g h i j k l m n o p q r s t u v w x y z A B C D E F G H I J K L M N O Q R,P a b c d e f g h i j k l m n o p q r s t u v w x y z A B C D E F G H I J K L M N O Q R) -> seg_A.1 σA.1.1.1.1 σA.1.1.1.2.1 σA.1.1.1.2.2 σA.1.1.2.1 σA.1.1.2.2.1 σA.1.1.2.2.2 σA.1.2.1.1 i_A u_A σA.1.2.2.1.1 h_A tk_A g_A σA.2.1.1.1 σA.2.1.1.2.1 o₁_A ds_A n1_A n2_A n3_A ps_A qs_A σA.2.2.2.1.1 σA.2.2.2.1.2 R_A σA.2.2.2.2.2:=⟨_,by
 intro hP;intro B T x2_A x3_A hol hos hg hi hnl hnb hz0 hz1 hca hoff hE X x23_A hi2 hown hit hic ho1 hg1 ht1 ht2 hdl hdz hsub hrest hds hoff1 F3 hR N3 hR1 hR2 m1 m2 m3 m4 x1 x2 x3 x4 x5 x6 x7 x8 x9 y1 y2 y3 y4 y5 hz9 hzl hzm hzb;k_steps;refine unhalt ?_;k_dflt (refine' slice_list F3 N3 (list_in N3 ?hm) (IsPart.int _ _) (IsPart.int _ _) (fun h5 F5 N5=>?_) ?s ?t ?z;(case hm=>k_mem);(case s=>with_unfolding_all rfl);(case t=>intro _;with_unfolding_all rfl);(case z=>simp [sizeLine_eq,hi.length,hnl]))
 have i5:=IntsAre.pick hi (some (4 * (i_A:Int))) (some (4 * (i_A:Int)+4)) none
 rw [hz9] at i5
 clear F3 N3;refine ints_gen i5 N5 fun zl i5 N5=>?_
 have d9:=drawn_ok hzl hzb
 have d1:=d9.1
 have d2:=d9.2.1
 have d3:=d9.2.2.1
 have d4:=d9.2.2.2.1
 have d5:=d9.2.2.2.2
 clear d9;k_steps;refine unhalt ?_;k_dflt (refine' law_drawn ?B F5 X T ?hk ?hd ?hu N5 (nl:=0) (.head _) i5 hzl hzb ?_;(case B=>k_asm);(case hk=>first | exact rfl | assumption);(case hd=>ktr_room);(case hu=>k_extra "hu");k_whole)
 intro Td ta tb h6 tk6 F6 N6;try dsimp only
 clear F5 N5 i5;generalize Txt.join ("":Str) ((drawnL σA.2.2.2.2.2 4).map (·.1))=S at N6 d1 d2 d3
 generalize Txt.join ("":Str) ((drawnL σA.2.2.2.2.2 4).map (·.2))=M at N6 d3 d4 d5
 clear hzl hzb hzm hz9;obtain ⟨ml,rfl⟩:∃ ml,M=ofL ml:=⟨M.cps.toList,(toL_ofL M).symm⟩
 have d4':∀ c∈ml,SignIs c /\ c≠124:=d4
 have d5':ml.length <= 60:=d5
 clear d4 d5;k_steps;refine unhalt ?_;(rename Fr _ _ _ _=>lF');(rename News _ _ _ _=>lN');k_dflt (refine' law_prep ?B lF' X T ?hk ?hd ?hu lN' d1 d2 ?_;(case B=>k_asm);(case hk=>first | exact rfl | assumption);(case hd=>ktr_room);(case hu=>k_extra "hu");k_whole)
 intro t7 h7 tk7 F7 N7;rw [d3]
 try dsimp only
 clear lF' lN';k_steps;case _=>exact absurd ‹(ofL ml != ofL ml)=true› (by simp)
 refine unhalt ?_;(rename Fr _ _ _ _=>lF');(rename News _ _ _ _=>lN');have N8:News h₀_ L_ _ ((lt_,W.listOf (ds_A.map SD.txt).toArray n1_A)::(lp_,W.listOf (ds_A.map fun d=>Value.ref d.P).toArray n2_A)::(ll_,W.listOf (ds_A.map fun d=>Value.ref d.ws).toArray n3_A)::(140,tblO ps_A)::(147,tblO qs_A)::(L_+1+1+1+1,o₁_A)::R_A):=fun p hp=>lN' p (by
  revert p;w_head)
 k_dflt (refine' lst_app lF' N8 ?off ?z ?_)
 case z=>simp [hdl];omega
 case off =>
  refine (fc ?_ (fc ?_ (fc ?_ (fc ?_ (fc ?_ (fun q h_A=>?_))))))<;>first | with_reducible assumption | with_reducible exact Ne.symm (by assumption) | exact (hR1 q h_A).1
 intro h8 F8 N9;try dsimp only
 clear lF' lN' N8;obtain ⟨hn,hn1,hdi,th,hdv⟩:=head_at κ.2.2.1.1.1 κ.2.2.1.1.2 hz0 hz1 hi2
 have m5:∀ p∈R_A,p∈((lt_,W.listOf (ds_A.map SD.txt ++ [Value.str (ofL ml) tb]).toArray (n1_A+1))::(lp_,W.listOf (ds_A.map fun d=>Value.ref d.P).toArray n2_A)::(ll_,W.listOf (ds_A.map fun d=>Value.ref d.ws).toArray n3_A)::(140,tblO ps_A)::(147,tblO qs_A)::(L_+1+1+1+1,o₁_A)::R_A):=by w_head
 k_steps;refine unhalt ?_;k_dflt (refine' item_pick (fun _ v=>v=.int (hn:Int) th) ?N ?hm ?h0 ?hk ?hP ?_;(case N=>exact N9);(case hm=>exact m5 _ m1);(case h0=>omega);(case hk=>omega);(case hP=>exact ⟨_,hdv,rfl⟩))
 rintro v rfl
 k_steps;refine unhalt ?_;k_dflt (refine SB.mul (mulOk_of 16 1048576 (by decide) (by omega) (by omega) (by decide) (by decide)) fun t9 k9=>?_)
 rw [mul_bar hn1]
 have q1:(ofL (List.replicate hn 124)).length <= 1:=by show (List.replicate hn 124).toArray.size <= 1;simpa using hn1
 have q2:(ofL ml).length <= 60:=by show ml.toArray.size <= 60;simpa using d5'
 k_steps;refine unhalt ?_;have eS:ofL (List.replicate hn 124) ++ ofL ml=ofL (fullL hn ml):=ofL_app _ _
 rw [eS]
 have q3:(fullL hn ml).length <= 61:=by simp;omega
 k_dflt (refine' KSpl.split1 F8 N9 (by decide) ?_ ?sz;(case sz=>(rw [sizeLine_eq];show (fullL hn ml).toArray.size+2 <= _;simp;omega)))
 intro D l' h10 k10 el al F10 N10 lD;clear F8 N9;have hlD:∀ p∈R_A,@Ne Nat p.1 D:=fun p hp=>Nat.ne_of_lt (lD p (m5 p hp))
 have v1:@Ne Nat lt_ D:=Nat.ne_of_lt (lD _ (.head _))
 have v2:@Ne Nat lp_ D:=Nat.ne_of_lt (lD _ nx1)
 have v3:@Ne Nat ll_ D:=Nat.ne_of_lt (lD _ nx2)
 have v4:@Ne Nat 140 D:=Nat.ne_of_lt (lD _ nx3)
 have v5:@Ne Nat 147 D:=Nat.ne_of_lt (lD _ nx4)
 have v6:@Ne Nat (L_+1+1+1+1) D:=Nat.ne_of_lt (lD _ nx5)
 clear lD m5;try dsimp only
 k_steps;refine unhalt ?_;have N11:News h₀_ L_ h10 ((lp_,W.listOf (ds_A.map fun d=>Value.ref d.P).toArray n2_A)::(lt_,W.listOf (ds_A.map SD.txt ++ [Value.str (ofL ml) tb]).toArray (n1_A+1))::(ll_,W.listOf (ds_A.map fun d=>Value.ref d.ws).toArray n3_A)::(140,tblO ps_A)::(147,tblO qs_A)::(L_+1+1+1+1,o₁_A)::(D,W.listOf (strValues l').toArray 0)::R_A):=fun p hp=>N10 p (by
  revert p;w_head)
 clear N10;k_dflt (refine' lst_app F10 N11 ?off ?z ?_)
 case z=>simp [hdl];omega
 case off =>
  refine (fc ?_ (fc ?_ (fc ?_ (fc ?_ (fc ?_ (fc ?_ (fun q h_A=>?_)))))))<;>first | with_reducible assumption | with_reducible exact Ne.symm (by assumption) | exact (hR1 q h_A).2.1
 intro h12 F12 N12;try dsimp only
 clear F10 N11;k_steps;refine unhalt ?_;k_dflt (refine LC_text (F₀:=by k_asm) (by with_unfolding_all rfl) (by decide) (by rfl) (by decide) (by rfl) ?_)
 k_steps;(rename Fr _ _ _ _=>lF');(rename News _ _ _ _=>lN');k_dflt (refine' TSrc.intro rfl lF' lN' ?z (fun g_A=>rest_pure (l:=ml) IsSign (IsText markT) (by simp) signs_of ?turn ?fin);(case z=>rw [sizeLine_eq];have q2':(ofL ml).cps.size <= 60:=q2;omega))
 case turn =>
  rintro c v I oI C oC D m₂ ys_ h_A tk_A E' hc ⟨u_A,rfl⟩ hC hx F' N' off ne
  (try clear lF');(try clear lN')
  k_steps
  ·(rename (_ == _)=true=>e9)
   have e8:markT c=("\t":Str):=by
    have:c=59:=congrArg (fun z:Str=>z.cps.getD 0 0) (eq_of_beq e9)
    rw [this];rfl
   exact (ce_mk (by assumption) (by assumption) off trivial ⟨rfl,_,by rw [e8]⟩)
  ·(rename (_ == _)=false=>e9)
   have e8:markT c=(" ":Str):=by
    have:¬ c=59:=fun h_A=>by rw [h_A] at e9;cases e9
    unfold markT markN
    rw [if_neg this];rfl
   exact (ce_mk (by assumption) (by assumption) off trivial ⟨rfl,_,by rw [e8]⟩)
 case fin =>
  intro ys_ hp;have hs:=strs_paired hp
  (try clear lF');(try clear lN')
  k_steps;(rename Fr _ _ _ _=>lF');(rename News _ _ _ _=>lN');k_dflt (refine' join_listW (ys:=ml.map markT) (items:=ys_.toArray) ⟨_,News.get lN' (by k_mem),rfl,_,rfl⟩ ?hi ?hs ?hz (fun t' k'=>?_);(case hi=>simpa using hs);(case hs=>decide +kernel);(case hz=>have e5:=sum_ones (fun c=>(markT c).length) (fun _=>rfl) ml;simp only [List.map_map,Function.comp_def,List.length_map] at e5 ⊢;omega))
  rw [marks_join]
  have q4:(ofL (ml.map markN)).length <= 60:=by show (ml.map markN).toArray.size <= 60;simpa using d5'
  k_steps;(try clear lF');(try clear lN')
  (rename Fr _ _ _ _=>F14);(rename News _ _ _ _=>lN');have N14:News h₀_ L_ _ ((ll_,W.listOf (ds_A.map fun d=>Value.ref d.ws).toArray n3_A)::(lt_,W.listOf (ds_A.map SD.txt ++ [Value.str (ofL ml) tb]).toArray (n1_A+1))::(lp_,W.listOf ((ds_A.map fun d=>Value.ref d.P) ++ [Value.ref D]).toArray (n2_A+1))::(140,tblO ps_A)::(147,tblO qs_A)::(L_+1+1+1+1,o₁_A)::(D,W.listOf (strValues l').toArray 0)::R_A):=fun p hp=>lN' p (by
   revert p;w_head)
  clear lN';have m5:∀ p∈R_A,p∈((ll_,W.listOf (ds_A.map fun d=>Value.ref d.ws).toArray n3_A)::(lt_,W.listOf (ds_A.map SD.txt ++ [Value.str (ofL ml) tb]).toArray (n1_A+1))::(lp_,W.listOf ((ds_A.map fun d=>Value.ref d.P) ++ [Value.ref D]).toArray (n2_A+1))::(140,tblO ps_A)::(147,tblO qs_A)::(L_+1+1+1+1,o₁_A)::(D,W.listOf (strValues l').toArray 0)::R_A):=by w_head
  refine unhalt ?_;k_dflt (refine' item_pick (fun _ v=>v=.int (hn:Int) th) ?N ?hm ?h0 ?hk ?hP ?_;(case N=>exact N14);(case hm=>exact m5 _ m1);(case h0=>omega);(case hk=>omega);(case hP=>exact ⟨_,hdv,rfl⟩))
  rintro v rfl
  k_steps;refine unhalt ?_;k_dflt (refine SB.mul (mulOk_of 16 1048576 (by decide) (by omega) (by omega) (by decide) (by decide)) fun t15 k15=>?_)
  rw [mul_blank hn1]
  have q5:(ofL (List.replicate hn 32)).length <= 1:=by show (List.replicate hn 32).toArray.size <= 1;simpa using hn1
  k_steps;refine unhalt ?_;rw [text_marks hn ml]
  rename_i x64_B x65_B x66_B x67_B x71_B x82_B x83_B x84_B x105_B x106_B x107_B x108_B x112_B x120_B x121_B x122_B x123_B x124_B x125_B;revert B T hol hos hg hi hnl hnb hz0 hz1 hca hoff hE X x23_A hi2 hown hit hic ho1 hg1 ht1 ht2 hdl hdz hsub hrest hds hoff1 hR hR1 hR2 m1 m2 m3 m4 x1 x2 x3 x4 x5 x6 x7 x8 x9 y1 y2 y3 y4 y5 d1 d2 d3 d4' d5' x71_B hn1 hdi hdv q1 q2 x84_B eS q3 el al hlD v1 v2 v3 v4 v5 v6 hp hs x108_B q4 F14 N14 m5 q5 x122_B x125_B
  exact hP h5 zl Td ta tb h6 tk6 S ml x64_B x65_B x66_B x67_B t7 h7 tk7 h8 hn th t9 k9 x82_B x83_B D l' h10 k10 h12 g_A ys_ x105_B x106_B x107_B t' k' x112_B tk t15 k15 x120_B x121_B x123_B x124_B⟩
noncomputable abbrev SB:=fun z:(((((Heap×List Value)×Addr×Tok×Tok)×(Heap×Nat)×Str×List Nat×Heap)×((Heap×Heap)×Nat×Tok×Heap)×(Nat×Heap×Nat)×Tok×Tok×Nat)×(((Tok×Nat)×Addr×(List (Str×Tok))×Heap)×(Nat×Heap×Heap)×List Value×Addr×Heap)×((Nat×Tok)×Nat×Heap×Nat)×(Tok×Nat×Tok)×Nat×Tok×Nat)=>seg_B.1 z.1.1.1.1.1 z.1.1.1.1.2 z.1.1.1.2.1 z.1.1.1.2.2.1 z.1.1.1.2.2.2 z.1.1.2.1.1 z.1.1.2.1.2 z.1.1.2.2.1 z.1.1.2.2.2.1 z.1.1.2.2.2.2 z.1.2.1.1.1 z.1.2.1.1.2 z.1.2.1.2.1 z.1.2.1.2.2.1 z.1.2.1.2.2.2 z.1.2.2.1.1 z.1.2.2.1.2.1 z.1.2.2.1.2.2 z.1.2.2.2.1 z.1.2.2.2.2.1 z.1.2.2.2.2.2 z.2.1.1.1.1 z.2.1.1.1.2 z.2.1.1.2.1 z.2.1.1.2.2.1 z.2.1.1.2.2.2 z.2.1.2.1.1 z.2.1.2.1.2.1 z.2.1.2.1.2.2 z.2.1.2.2.1 z.2.1.2.2.2.1 z.2.1.2.2.2.2 z.2.2.1.1.1 z.2.2.1.1.2 z.2.2.1.2.1 z.2.2.1.2.2.1 z.2.2.1.2.2.2 z.2.2.2.1.1 z.2.2.2.1.2.1 z.2.2.2.1.2.2 z.2.2.2.2.1 z.2.2.2.2.2.1 z.2.2.2.2.2.2
@[irreducible] def σB:=pick (by k_extra "ne") SB
def tb_B:=σB.1.1.1.2.2.2
def ml_B:=σB.1.1.2.2.2.1
def hn_B:=σB.1.2.2.1.2.2
def D_B:=σB.2.1.1.2.1
def l'_B:=σB.2.1.1.2.2.1
theorem core_A_B:seg_B.1 σB.1.1.1.1.1 σB.1.1.1.1.2 σB.1.1.1.2.1 σB.1.1.1.2.2.1 tb_B σB.1.1.2.1.1 σB.1.1.2.1.2 σB.1.1.2.2.1 ml_B σB.1.1.2.2.2.2 σB.1.2.1.1.1 σB.1.2.1.1.2 σB.1.2.1.2.1 σB.1.2.1.2.2.1 σB.1.2.1.2.2.2 σB.1.2.2.1.1 σB.1.2.2.1.2.1 hn_B σB.1.2.2.2.1 σB.1.2.2.2.2.1 σB.1.2.2.2.2.2 σB.2.1.1.1.1 σB.2.1.1.1.2 D_B l'_B σB.2.1.1.2.2.2 σB.2.1.2.1.1 σB.2.1.2.1.2.1 σB.2.1.2.1.2.2 σB.2.1.2.2.1 σB.2.1.2.2.2.1 σB.2.1.2.2.2.2 σB.2.2.1.1.1 σB.2.2.1.1.2 σB.2.2.1.2.1 σB.2.2.1.2.2.1 σB.2.2.1.2.2.2 σB.2.2.2.1.1 σB.2.2.2.1.2.1 σB.2.2.2.1.2.2 σB.2.2.2.2.1 σB.2.2.2.2.2.1 σB.2.2.2.2.2.2:=by
  intro B T hol hos hg hi hnl hnb hz0 hz1 hca hoff hE X x23_A hi2 hown hit hic ho1 hg1 ht1 ht2 hdl hdz hsub hrest hds hoff1 hR hR1 hR2 m1 m2 m3 m4 x1 x2 x3 x4 x5 x6 x7 x8 x9 y1 y2 y3 y4 y5 d1 d2 d3 d4' d5' x71_B hn1 hdi hdv q1 q2 x84_B eS q3 el al hlD v1 v2 v3 v4 v5 v6 hp hs x108_B q4 F14 N14 m5 q5 x122_B x125_B;k_dflt (refine' ws_make ?B F14 X T ?hk ?hd ?hu N14 (pre:=(fullL hn_B ml_B).map markN) (post:=[9,32]) ?hy ?hp ?ha ?_;(case B=>k_asm);(case hk=>first | exact rfl | assumption);(case hd=>ktr_room);(case hu=>k_extra "hu");k_whole)
  case hy=>show ((fullL hn_B ml_B).map markN ++ 120::[9,32]).toArray.size <= 300;simp;omega
  case hp=>rfl
  case ha =>
   intro c hc;obtain ⟨c',_,rfl⟩:=List.mem_map.mp hc
   unfold markN
   split<;>simp
  intro ws wd nm ct vw tw tbw h16 tk16 F16 N16 hvw;rw [ws_full] at N16 hvw
  try dsimp only at N16
  try dsimp only at hvw
  try dsimp only
  clear F14 N14 m5;k_steps;refine unhalt ?_;have o1:=fun (x:Addr) (o:Obj) (hx:(x,o)∈_) (ho:Cool o)=>new_off4 N16 (.head _) nx1 nx2 nx3 hx ho
  have wl:=o1 ll_ _ nx4 (.list _ _)
  have wt:=o1 lt_ _ nx5 (.list _ _)
  have wp:=o1 lp_ _ nx6 (.list _ _)
  have w4:=o1 140 _ nx7 (.tbl _)
  have w5:=o1 147 _ nx8 (.tbl _)
  have wc:=o1 (L_+1+1+1+1) _ nx9 (.inr (.inr (.inr ⟨_,ho1⟩)))
  obtain ⟨oi,hoi,hoc⟩:=hit
  have wI:=o1 σA.2.1.1.2.1 oi (by rw [hR];simp [hoi]) (.inr (.inl hoc))
  clear o1;obtain ⟨n41,hn41,N16'⟩:=take4 N16
  have f4:=fun (x:Addr) h_A=>off4 (x:=x) hn41 h_A
  have N17:News h₀_ L_ h16 ((ll_,W.listOf (ds_A.map fun d=>Value.ref d.ws).toArray n3_A)::(140,tblO ps_A)::(147,tblO qs_A)::(lt_,W.listOf (ds_A.map SD.txt ++ [Value.str (ofL ml_B) tb_B]).toArray (n1_A+1))::(lp_,W.listOf ((ds_A.map fun d=>Value.ref d.P) ++ [Value.ref D_B]).toArray (n2_A+1))::(L_+1+1+1+1,o₁_A)::(D_B,W.listOf (strValues l'_B).toArray 0)::(n41 ++ R_A)):=fun p hp=>N16' p (by
   revert p;w_head)
  clear N16 N16';k_dflt (refine' lst_app F16 N17 ?off ?z ?_)
  case z=>simp [hdl];omega
  case off =>
   refine (fc ?_ (fc ?_ (fc ?_ (fc ?_ (fc ?_ (fc ?_ (Mine.fa (fun q h_A=>?_) (fun q h_A=>?_))))))))<;>first | with_reducible assumption | with_reducible exact Ne.symm (by assumption) | exact (hR1 q h_A).2.2.1 | exact f4 _ wl q h_A
  intro h18 F18 N18;try dsimp only
  clear F16 N17;have N19:News h₀_ L_ h18 ((140,tblO ps_A)::(147,tblO qs_A)::((ll_,W.listOf ((ds_A.map fun d=>Value.ref d.ws) ++ [Value.ref ws]).toArray (n3_A+1))::(lt_,W.listOf (ds_A.map SD.txt ++ [Value.str (ofL ml_B) tb_B]).toArray (n1_A+1))::(lp_,W.listOf ((ds_A.map fun d=>Value.ref d.P) ++ [Value.ref D_B]).toArray (n2_A+1))::(L_+1+1+1+1,o₁_A)::(D_B,W.listOf (strValues l'_B).toArray 0)::(n41 ++ R_A))):=fun p hp=>N18 p (by
   revert p;w_head)
  clear N18;k_steps;refine unhalt ?_;k_dflt (refine' item_pick (fun _ v=>v=.int (hn_B:Int) σB.1.2.2.2.1) ?N ?hm ?h0 ?hk ?hP ?_;(case N=>exact N19);(case hm=>exact .tail _ (.tail _ (.tail _ (.tail _ (.tail _ (.tail _ (.tail _ (List.mem_append_right _ m1))))))));(case h0=>omega);(case hk=>omega);(case hP=>exact ⟨_,hdv,rfl⟩))
  rintro v rfl
  k_steps;refine unhalt ?_;have a140:∀ q∈((ll_,W.listOf ((ds_A.map fun d=>Value.ref d.ws) ++ [Value.ref ws]).toArray (n3_A+1))::(lt_,W.listOf (ds_A.map SD.txt ++ [Value.str (ofL ml_B) tb_B]).toArray (n1_A+1))::(lp_,W.listOf ((ds_A.map fun d=>Value.ref d.P) ++ [Value.ref D_B]).toArray (n2_A+1))::(L_+1+1+1+1,o₁_A)::(D_B,W.listOf (strValues l'_B).toArray 0)::(n41 ++ R_A)),q.1≠140:=by
   refine (fc ?_ (fc ?_ (fc ?_ (fc ?_ (fc ?_ (Mine.fa (fun q h_A=>?_) (fun q h_A=>?_)))))))<;>first | with_reducible assumption | with_reducible exact Ne.symm (by assumption) | exact (hR1 q h_A).2.2.2.1 | exact f4 _ w4 q h_A
  have a147:∀ q∈((ll_,W.listOf ((ds_A.map fun d=>Value.ref d.ws) ++ [Value.ref ws]).toArray (n3_A+1))::(lt_,W.listOf (ds_A.map SD.txt ++ [Value.str (ofL ml_B) tb_B]).toArray (n1_A+1))::(lp_,W.listOf ((ds_A.map fun d=>Value.ref d.P) ++ [Value.ref D_B]).toArray (n2_A+1))::(L_+1+1+1+1,o₁_A)::(D_B,W.listOf (strValues l'_B).toArray 0)::(n41 ++ R_A)),q.1≠147:=by
   refine (fc ?_ (fc ?_ (fc ?_ (fc ?_ (fc ?_ (Mine.fa (fun q h_A=>?_) (fun q h_A=>?_)))))))<;>first | with_reducible assumption | with_reducible exact Ne.symm (by assumption) | exact (hR1 q h_A).2.2.2.2 | exact f4 _ w5 q h_A
  k_dflt (refine' law_laid ?B F18 X T ?hk ?hd ?hu N19 (t:=0) a140 a147 ht1 ht2 hg1 (fun c hc=>(d4' c hc).1) ?hy (by omega) (by decide) ?_;(case B=>k_asm);(case hk=>first | exact rfl | assumption);(case hd=>ktr_room);(case hu=>k_extra "hu");k_whole)
  case hy=>show ml_B.toArray.size <= 300;simp;omega
  intro t20 h20 tk20 g20 ps' qs' F20 N20 ht1' ht2' hg20;rw [ofL_toL,laid_page0 hn1 (fun c hc=>(d4' c hc).2)]
  try dsimp only
  clear F18 N19;k_steps;refine unhalt ?_;k_dflt (refine' item_pick (fun _ v=>v=.ref D_B) ?N ?hm ?h0 ?hk ?hP ?_;(case N=>exact N20);(case hm=>exact .tail _ nx3);(case h0=>omega);(case hk=>omega);(case hP=>exact ⟨.ref D_B,by simp [<- hdl],rfl⟩))
  rintro v rfl
  k_steps;refine unhalt ?_;have el':l'_B.map (·.1)=partsS hn_B ml_B:=el
  obtain ⟨s1,s2,s3,s4⟩:=parts_sizes (hd:=hn_B) (l:=ml_B) (Nat.le_refl 1) (by omega)
  have el2:=congrArg List.length el'
  rw [List.length_map] at el2
  k_dflt (refine' law_cut ?B F20 X T ?hk ?hd ?hu N20 (t:=1) (l:=l'_B) (nl:=0) nx6 (by decide) (by decide) (by omega) (by rw [el'];exact s2) (by rw [el'];exact s3) (by rw [el',el2];exact s4) ?_;(case B=>k_asm);(case hk=>first | exact rfl | assumption);(case hd=>ktr_room);(case hu=>k_extra "hu");k_whole)
  intro t21 h21 tk21 F21 N21;rw [el']
  try dsimp only
  clear F20 N20;k_steps;case _=>exact absurd ‹(cutS (partsS hn_B ml_B) 1 != cutS (partsS hn_B ml_B) 1)=true› (by simp)
  (rename Fr _ _ _ _=>F22);(rename News _ _ _ _=>N22);dsimp only [StepC]
  have hov:Ov ["spelled","meant","marks"] (fun y=>if y=("texts":Str) then some (Value.ref lt_) else if y=("parts":Str) then some (Value.ref lp_) else if y=("heads":Str) then some (Value.ref κ.2.1.2.1.1) else if y=("numbers":Str) then some (Value.ref κ.2.1.2.1.2) else κ.1.2.2.2.2 y) _:=(((ov_self (ns:=["spelled","meant","marks"]) (g:=σA.2.2.2.1.2)).set (x:="spelled") (v:=some (Value.str σB.1.1.2.2.1 σB.1.1.1.2.2.1)) (by decide +kernel)).set (x:="meant") (v:=some (Value.str (ofL ml_B) tb_B)) (by decide +kernel)).set (x:="marks") (v:=some (Value.str (ofL (ml_B.map markN)) σB.2.2.1.1.2)) (by decide +kernel)
  refine ⟨h21,_,g20,_,(lt_,W.listOf (ds_A.map SD.txt ++ [Value.str (ofL ml_B) tb_B]).toArray (n1_A+1))::(lp_,W.listOf ((ds_A.map fun d=>Value.ref d.P) ++ [Value.ref D_B]).toArray (n2_A+1))::(ll_,W.listOf ((ds_A.map fun d=>Value.ref d.ws) ++ [Value.ref ws]).toArray (n3_A+1))::(140,tblO ps')::(147,tblO qs')::((D_B,W.listOf (strValues l'_B).toArray 0)::(n41 ++ σA.2.2.2.1.1)),rfl,F22,⟨o₁_A,_,ho1,fun p hp=>N22 p ?nn⟩,?off,hg20,hov,ds_A ++ [⟨ml_B,hn_B,tb_B,D_B,l'_B,0,ws⟩],n1_A+1,n2_A+1,n3_A+1,ps',qs',(D_B,W.listOf (strValues l'_B).toArray 0)::(n41 ++ σA.2.2.2.1.1),?e1,ht1',ht2',?e2,?e3,?e4,?e5,?e6⟩
  case nn =>
   rw [hR]
   revert p;w_head
  case off =>
   have hitR:@Ne Nat σA.2.1.1.2.1 D_B:=hlD (σA.2.1.1.2.1,oi) (by rw [hR];exact List.mem_append_left _ hoi)
   refine (fc ?_ (fc ?_ (fc ?_ (fc ?_ (fc ?_ (fc ?_ (Mine.fa (fun q h_A=>?_) (fun q h_A=>?_))))))))
   ·exact ⟨fun e=>(hoff1 _ (.head _)).1 (List.mem_singleton.mp e),y1⟩
   ·exact ⟨fun e=>(hoff1 _ nx1).1 (List.mem_singleton.mp e),y2⟩
   ·exact ⟨fun e=>(hoff1 _ nx2).1 (List.mem_singleton.mp e),y3⟩
   ·exact ⟨fun e=>(hoff1 _ nx3).1 (List.mem_singleton.mp e),y4⟩
   ·exact ⟨fun e=>(hoff1 _ nx4).1 (List.mem_singleton.mp e),y5⟩
   ·exact ⟨fun e=>hitR (List.mem_singleton.mp e:D_B=σA.2.1.1.2.1).symm,Ne.symm v6⟩
   ·exact ⟨fun e=>f4 σA.2.1.1.2.1 wI q h_A (List.mem_singleton.mp e),f4 _ wc q h_A⟩
   ·exact ⟨fun e=>(hoff1 q (by w_why)).1 (List.mem_singleton.mp e),(hoff1 q (by w_why)).2⟩
  case e1=>simp
  case e2=>simp [hdl]
  case e3=>rw [List.map_append,hdz,List.take_add_one,hdi];rfl
  case e4=>exact fun p hp=>.tail _ (List.mem_append_right _ (hsub p hp))
  case e5 =>
   refine (fc ?_ (Mine.fa (fun q h_A=>?_) (fun q h_A=>?_)))
   ·exact ⟨Ne.symm v1,Ne.symm v2,Ne.symm v3,Ne.symm v4,Ne.symm v5⟩
   ·exact ⟨f4 _ wt q h_A,f4 _ wp q h_A,f4 _ wl q h_A,f4 _ w4 q h_A,f4 _ w5 q h_A⟩
   ·exact hrest q h_A
  case e6 =>
   intro d hd9;rcases List.mem_append.mp hd9 with h_A | h_A
   ·exact ⟨(hds d h_A).1,(hds d h_A).2.mono fun p hp=>.tail _ (List.mem_append_right _ hp)⟩
   ·rw [List.mem_singleton.mp h_A]
    obtain ⟨g1,g2,g3,g4⟩:=mem4 hn41
    obtain ⟨z1_,z2,z3⟩:=SD.sizes ⟨ml_B,hn_B,tb_B,D_B,l'_B,0,ws⟩ (by show (fullL hn_B ml_B).length <= 100;omega)
    exact ⟨⟨d4',d5',hn1,el'⟩,.head _,wd,nm,ct,vw,tw,tbw,_,.tail _ (List.mem_append_left _ g1),.tail _ (List.mem_append_left _ g2),.tail _ (List.mem_append_left _ g3),.tail _ (List.mem_append_left _ g4),hvw,z1_,z2,z3⟩
theorem core_A:seg_A.1 σA.1.1.1.1 σA.1.1.1.2.1 σA.1.1.1.2.2 σA.1.1.2.1 σA.1.1.2.2.1 σA.1.1.2.2.2 σA.1.2.1.1 i_A u_A σA.1.2.2.1.1 h_A tk_A g_A σA.2.1.1.1 σA.2.1.1.2.1 o₁_A ds_A n1_A n2_A n3_A ps_A qs_A σA.2.2.2.1.1 σA.2.2.2.1.2 R_A σA.2.2.2.2.2:=seg_B.2 fun a b c d e f g h i j k l m n o p q r s t u v w x y z A B C D E F G H I J K L M N O Q R=>pick_all (P:=SB) (by with_unfolding_all exact core_A_B) (((((a,b),c,d,e),(f,g),h,i,j),((k,l),m,n,o),(p,q,r),s,t,u),(((v,w),x,y,z),(A,B,C),D,E,F),((G,H),I,J,K),(L,M,N),O,Q,R)
theorem core:Sc:=seg_A.2 fun a b c d e f g h i j k l m n o p q r s t u v w x y z=>pick_all (P:=SA) (by with_unfolding_all exact core_A) ((((a,b,c),d,e,f),(g,h,i),(j,k),l,m),((n,o,p),q,r,s),(t,u,v),(w,x),y,z)
end e_law_sides
theorem law_sides {lt lp ll lh ln:Addr} {z0 z1:Int} {t0 t1:Tok} {ys:List Value} {ns:List Int} {nl:Nat} {oe os ol:Obj}:@S_law_sides w mean mg mb p loose fa ccd h₀ L s Q E m₀ lt lp ll lh ln z0 z1 t0 t1 ys ns nl oe os ol:=@pick_all _ _ e_law_sides.Sd (by with_unfolding_all exact e_law_sides.core) ((((_,_,_),(_,_),_,_),(_,_,_),(_,_),_,_),((_,_,_),(_,_),_,_),((_,_),_,_),(_,_),_,_)
end
end
theorem reg43:True:=by
 w_top off
 trivial
section
section
variable {w:World} {mean:ExcName -> Option Value} {mg mb:Str -> Option Value} {p:Program} {loose:List Str} {fa:Addr} {ccd:Value} {h₀:Heap} {L:Addr} {s:Shared} {Q:Flow -> Shared -> Prop} {E:Value -> Shared -> Prop} {m:Str -> Option Value}
noncomputable def S_law_ends {lt lp ll lh e0 e1 le:Addr} {d0 d1:SD} {ps qs:Array Value} {oe os:Obj} {vos:Option Value} {R:List (Addr×Obj)} {r:Nat} {tr:Tok}:Prop:=∀ (B:Below callerA h₀ [] h₀) (X:(KK w.params).In h₀) (T:Top p loose mean mg mb h₀) (F:Fr h₀ L s.heap m) (hm:Names lt lp lh m) (hlo:m "longest"=some (.int ((r:Nat):Int) tr)) (hr1:r <= 100) (N:News h₀ L s.heap ((L+1+1+1+1,os)::(e0,W.listOf #[] 0)::(e1,W.listOf #[] 0)::(140,tblO ps)::(147,tblO qs)::R)) (hos:os.data=.cell vos) (hC:Core w.params L lt lp ll lh d0 d1 R) (hoe:oe.data=.cell (some (.ref le))) (mle:(le,W.listOf #[.ref e0,.ref e1] 0)∈R) (mce:(L+1+1+1+1+1,oe)∈R) (hoff:∀ q∈R,q.1≠L+1+1+1+1 /\ q.1≠e0 /\ q.1≠e1 /\ q.1≠140 /\ q.1≠147) (hd:@Ne Nat e0 e1 /\ @Ne Nat e0 (L+1+1+1+1) /\ @Ne Nat e1 (L+1+1+1+1) /\ @Ne Nat 140 e0 /\ @Ne Nat 147 e0 /\ @Ne Nat 140 e1 /\ @Ne Nat 147 e1 /\ @Ne Nat 140 (L+1+1+1+1) /\ @Ne Nat 147 (L+1+1+1+1)) (ht1:TabIs ⟨93,19,93,63⟩ ps) (ht2:TabIs ⟨96,32,96,85⟩ qs) (hg:AllBare s.gens) (hdone:∀ h' tk g' m' n0 n1 v0 v1 ps' qs' os' vos',Fr h₀ L h' m' -> Names lt lp lh m' -> m' "longest"=some (.int ((r:Nat):Int) tr) -> os'.data=.cell vos' -> AllBare g' →
  IntsAre v0 (endsL d0 (r+1)) -> IntsAre v1 (endsL d1 (r+1)) →
  News h₀ L h' ((L+1+1+1+1,os')::(e0,W.listOf v0.toArray n0)::(e1,W.listOf v1.toArray n1)::(140,tblO ps')::(147,tblO qs')::R) →
  wpAny (model rw_rw0127_01.row.prog w) (lawA L fa ccd) (execs (lawB.drop 10) (lawE L fa ccd)) Q E { s with heap:=h',toks:=tk,gens:=g' }) (hE:PassesOwn (model rw_rw0127_01.row.prog w) (lawA L fa ccd) (lawE L fa ccd) E),wpAny (model rw_rw0127_01.row.prog w) (lawA L fa ccd) (execs (lawB.drop 9) (lawE L fa ccd)) Q E s
namespace e_law_ends
noncomputable abbrev Sd:=fun z:((((_×_×_)×(_×_)×_×_)×((_×_)×_×_)×(_×_)×_×_)×(((_×_)×_×_)×(_×_)×_×_)×((_×_)×_×_)×(_×_)×_×_)=>@S_law_ends z.1.1.1.1 z.1.1.1.2.1 z.1.1.1.2.2 z.1.1.2.1.1 z.1.1.2.1.2 z.1.1.2.2.1 z.1.1.2.2.2 z.1.2.1.1.1 z.1.2.1.1.2 z.1.2.1.2.1 z.1.2.1.2.2 z.1.2.2.1.1 z.1.2.2.1.2 z.1.2.2.2.1 z.1.2.2.2.2 z.2.1.1.1.1 z.2.1.1.1.2 z.2.1.1.2.1 z.2.1.1.2.2 z.2.1.2.1.1 z.2.1.2.1.2 z.2.1.2.2.1 z.2.1.2.2.2 z.2.2.1.1.1 z.2.2.1.1.2 z.2.2.1.2.1 z.2.2.1.2.2 z.2.2.2.1.1 z.2.2.2.1.2 z.2.2.2.2.1 z.2.2.2.2.2
@[irreducible] def κ:=pick (by k_extra "ne") Sd
def h₀_:=κ.1.2.1.1.2
def L_:=κ.1.2.1.2.1
def e0_:=κ.2.1.1.2.2
def e1_:=κ.2.1.2.1.1
def d0_:=κ.2.1.2.2.1
def d1_:=κ.2.1.2.2.2
def ps_:=κ.2.2.1.1.1
def qs_:=κ.2.2.1.1.2
def os_:=κ.2.2.1.2.2
def vos_:=κ.2.2.2.1.1
def R_:=κ.2.2.2.1.2
def r_:=κ.2.2.2.2.1
noncomputable abbrev Sc:=@S_law_ends κ.1.1.1.1 κ.1.1.1.2.1 κ.1.1.1.2.2 κ.1.1.2.1.1 κ.1.1.2.1.2 κ.1.1.2.2.1 κ.1.1.2.2.2 κ.1.2.1.1.1 h₀_ L_ κ.1.2.1.2.2 κ.1.2.2.1.1 κ.1.2.2.1.2 κ.1.2.2.2.1 κ.1.2.2.2.2 κ.2.1.1.1.1 κ.2.1.1.1.2 κ.2.1.1.2.1 e0_ e1_ κ.2.1.2.1.2 d0_ d1_ ps_ qs_ κ.2.2.1.2.1 os_ vos_ R_ r_ κ.2.2.2.2.2
noncomputable def seg_A:PSigma fun P:Tok -> Nat -> Tok -> Nat -> Heap -> Nat -> Tok -> Tok -> Tok -> Nat -> Tok -> (Str -> Option Value) -> Heap -> Nat -> Array GenState -> (List (Addr×Obj)) -> Addr -> List Value -> List Value -> Nat -> Nat -> Array Value -> Array Value -> Obj -> Option Value -> (List (Addr×Obj)) -> Tok -> Nat -> Heap -> Nat -> Tok -> Tok -> Tok -> Nat -> Tok -> (Str -> Option Value) -> Heap -> Nat -> Array GenState -> (List (Addr×Obj)) -> Addr -> Obj -> List Value -> List Value -> Nat -> Nat -> Array Value -> Array Value -> Tok -> Tok -> Nat -> Nat -> Nat -> SD -> Addr -> Addr -> List Value -> List Value -> Nat -> Nat -> Tok -> (List (Addr×Obj)) -> Prop=>(∀ a b c d e f g h i j k l m n o p q r s t u v w x y z A B C D E F G H I J K L M N O Q R S T U V W X Y Z a1 b1 c1 d1 e1 f1 g1 h1 i1 j1 k1,P a b c d e f g h i j k l m n o p q r s t u v w x y z A B C D E F G H I J K L M N O Q R S T U V W X Y Z a1 b1 c1 d1 e1 f1 g1 h1 i1 j1 k1) -> Sc:=⟨_,by
 intro hP;unfold Sc S_law_ends
 intro B X T F hm hlo hr1 N hos hC hoe mle mce hoff hd ht1 ht2 hg hdone hE;have e1':lawSc=lawSc:=rfl
 conv at e1'=>{ rhs;whnf }
 have e2':lawB.drop 9=lawB.drop 9:=rfl
 conv at e2'=>{ rhs;whnf }
 rw [e2']
 unfold lawA lawE at hdone hE ⊢
 rw [e1'] at hdone hE ⊢
 clear e1' e2';revert X;k_fill;intro X;have F0:=fr_known F hlo
 refine cA9 hd ?_
 intro z1 z2 z3 z4 z5 z6 z7 z8 z9;clear hd;clear F;k_steps;refine unhalt ?_;k_dflt (refine' For_G h₀_ ?k1 ?k2 ?_ (by intro _;rfl) hE;(case k1=>exact rfl);(case k2=>exact rfl))
 k_steps;(rename Fr _ _ _ _=>F1);(rename News _ _ _ _=>N1);(rename IsRange _ _ _ _ _ _ _ _=>lR');k_dflt (refine' rangeG2 (n:=r_+1) rfl lR' ?sm ?sz F1 N1 (EndsJ κ.1.2.2.2.2 κ.2.1.1.1.1 κ.2.1.1.2.1 L_ e0_ e1_ d0_ d1_ r_ κ.2.2.2.2.2 R_) ⟨hg,hm.set (by decide +kernel) (by decide +kernel) (by decide +kernel),if_pos rfl,[],[],0,0,ps_,qs_,os_,vos_,rfl,hos,.nil,.nil,ht1,ht2⟩ (fun i u m₁ news₁ h tk g own it hi hJ hoff1 hown hit F' N'=>?_) (fun h' tk' g'' m' news' F' N' hJ=>?dn))
 case sm=>exact small_ends hr1
 case sz=>exact size_ends r_
 case dn =>
  obtain ⟨g1,g2,g3,v0,v1,n0,n1,ps',qs',os',vos',rfl,g4,g5,g6,g7,g8⟩:=hJ
  exact wpAny_execs_nil (hdone h' _ g'' m' n0 n1 v0 v1 ps' qs' os' vos' F' g2 g3 g4 g1 g5 g6 N')
 clear hdone F1 N1 lR' ht1 ht2 hg hos;obtain ⟨hg1,hm1,hlo1,v0,v1,n0,n1,ps_,qs_,os_,vos_,rfl,hos,hv0,hv1,ht1,ht2⟩:=hJ
 rw [show (1:Int)+(i:Int) * 1=((i+1:Nat):Int) by omega] at F'
 obtain ⟨Ro,hRo⟩:∃ Ro,Ro=own ++ R_:=⟨_,rfl⟩
 have N3:News h₀_ L_ h ((L_+1+1+1+1,os_)::(e0_,W.listOf v0.toArray n0)::(e1_,W.listOf v1.toArray n1)::(140,tblO ps_)::(147,tblO qs_)::Ro):=fun p hp=>N' p (by
  rw [hRo] at hp
  revert p;w_head)
 have hRs:∀ p∈R_,p∈Ro:=fun p hp=>by rw [hRo];exact List.mem_append_right _ hp
 have hoffo:∀ q∈Ro,q.1≠L_+1+1+1+1 /\ q.1≠e0_ /\ q.1≠e1_ /\ q.1≠140 /\ q.1≠147:=fun q hq=>by
  rw [hRo] at hq
  rcases List.mem_append.mp hq with h | h
  ·rw [hown q h]
   exact ⟨fun e=>hoff1 _ (.head _) e.symm,fun e=>hoff1 _ nx1 e.symm,fun e=>hoff1 _ nx2 e.symm,fun e=>hoff1 _ nx3 e.symm,fun e=>hoff1 _ nx4 e.symm⟩
  ·exact hoff q h
 clear N';have F3:Fr h₀_ L_ h _:=F'
 clear F';k_steps;refine unhalt ?_;k_dflt (refine' For_C' F3 ?k1 ?k2 ?_ (by intro _;rfl) hE;(case k1=>exact rfl);(case k2=>exact rfl))
 k_steps;(rename Fr _ _ _ _=>F4);(rename News _ _ _ _=>N4);(rename IsRange _ _ _ _ _ _ _ _=>lR');k_dflt (refine' rangeC (n:=2) rfl rfl lR' ?sm ?sz F4 hos N4 ?ca (EndsI κ.1.2.2.2.2 κ.2.1.1.1.1 κ.2.1.1.2.1 e0_ e1_ d0_ d1_ r_ i κ.2.2.2.2.2 u Ro) ⟨hg1,hm1.set (by decide +kernel) (by decide +kernel) (by decide +kernel),(if_neg (by decide +kernel)).trans hlo1,if_pos rfl,v0,v1,n0,n1,ps_,qs_,rfl,hv0,hv1,ht1,ht2⟩ (fun k uk m₂ news₂ h2 tk2 g2 own2 it2 o₁ hk hJ hoff2 hown2 hit2 hic2 F' ho1 N'=>?_) (fun h' tk' g'' m' news' o' v' F' ho' N' hoff' hJ=>?dn))
 case sm=>decide +kernel
 case sz=>decide +kernel
 case ca =>
  refine (fc ?_ (fc ?_ (fc ?_ (fc ?_ (fun q h=>?_)))))<;>first | assumption | exact (hoffo q h).1
 case dn =>
  obtain ⟨g1,g2,g3,g4,v0',v1',n0',n1',ps',qs',rfl,g5,g6,g7,g8⟩:=hJ
  refine wpAny_execs_nil (wpAny_execs_nil ?_)
  dsimp only [StepG]
  refine ⟨h',_,g'',m',(L_+1+1+1+1,o')::(e0_,W.listOf v0'.toArray n0')::(e1_,W.listOf v1'.toArray n1')::(140,tblO ps')::(147,tblO qs')::R_,rfl,F',fun p hp=>N' p ?nn,?off,g1,g2,g3,v0',v1',n0',n1',ps',qs',o',_,rfl,ho',g5,g6,g7,g8⟩
  case nn =>
   rw [hRo]
   revert p;w_head
  case off =>
   intro q hq hit9;have e9:q.1=it:=by simpa using hit9
   rcases List.mem_cons.mp hq with h | h
   ·rw [h] at e9;exact hoff1 _ (.head _) e9
   ·simp only [List.mem_cons] at h
    rcases h with h | h | h | h | h
    ·rw [h] at e9;exact hoff1 _ nx1 e9
    ·rw [h] at e9;exact hoff1 _ nx2 e9
    ·rw [h] at e9;exact hoff1 _ nx3 e9
    ·rw [h] at e9;exact hoff1 _ nx4 e9
    ·exact hoff1 q (by simp [h]) e9
 clear F4 N4 lR' hv0 hv1 ht1 ht2 hg1 hos;obtain ⟨hg2,hm2,hlo2,htn,v0,v1,n0,n1,ps_,qs_,rfl,hv0,hv1,ht1,ht2⟩:=hJ
 rw [show (0:Int)+(k:Int) * 1=(k:Nat) by omega] at ho1
 obtain ⟨th0,th1,nh,mh⟩:=hC.heads
 obtain ⟨nt,mt⟩:=hC.texts
 obtain ⟨np,mp⟩:=hC.parts
 obtain ⟨d,ea,eb,va,vb,na,nb,hsel⟩:∃ (d:SD) (ea eb:Addr) (va vb:List Value) (na nb:Nat),(k=0 /\ d=d0_ /\ ea=e0_ /\ eb=e1_ /\ va=v0 /\ vb=v1 /\ na=n0 /\ nb=n1) \/ (k=1 /\ d=d1_ /\ ea=e1_ /\ eb=e0_ /\ va=v1 /\ vb=v0 /\ na=n1 /\ nb=n0):=by
  have hk':k=0 \/ k=1:=by omega
  rcases hk' with h | h
  ·exact ⟨_,_,_,_,_,_,_,.inl ⟨h,rfl,rfl,rfl,rfl,rfl,rfl,rfl⟩⟩
  ·exact ⟨_,_,_,_,_,_,_,.inr ⟨h,rfl,rfl,rfl,rfl,rfl,rfl,rfl⟩⟩
 have ix:(#[d0_.txt,d1_.txt]:Array Value)[((k:Nat):Int).toNat]?=some d.txt:=by
  rcases hsel with ⟨h,h',_⟩ | ⟨h,h',_⟩<;>(rw [h,h'];rfl)
 have ip:(#[Value.ref d0_.P,.ref d1_.P]:Array Value)[((k:Nat):Int).toNat]?=some (.ref d.P):=by
  rcases hsel with ⟨h,h',_⟩ | ⟨h,h',_⟩<;>(rw [h,h'];rfl)
 obtain ⟨th,ih⟩:∃ th,(#[Value.int (d0_.hd:Int) th0,.int (d1_.hd:Int) th1]:Array Value)[((k:Nat):Int).toNat]?=some (.int (d.hd:Int) th):=by
  rcases hsel with ⟨h,h',_⟩ | ⟨h,h',_⟩<;>(rw [h,h'];exact ⟨_,rfl⟩)
 have ie:(#[Value.ref e0_,.ref e1_]:Array Value)[((k:Nat):Int).toNat]?=some (.ref ea):=by
  rcases hsel with ⟨h,_,h',_⟩ | ⟨h,_,h',_⟩<;>(rw [h,h'];rfl)
 have dk:d.Ok:=by
  rcases hsel with ⟨_,h',_⟩ | ⟨_,h',_⟩<;>rw [h']
  ·exact hC.ok0
  ·exact hC.ok1
 have dI:d.In κ.1.1.1.1.params R_:=by
  rcases hsel with ⟨_,h',_⟩ | ⟨_,h',_⟩<;>rw [h']
  ·exact hC.in0
  ·exact hC.in1
 have hva:IntsAre va (endsL d i):=by
  rcases hsel with ⟨h,h1,_,_,h2,_⟩ | ⟨h,h1,_,_,h2,_⟩
  ·subst h;rw [h1,h2];exact hv0
  ·subst h;rw [h1,h2];exact hv1
 obtain ⟨y1,y2,y3,y4,y5,y6,y7⟩:@Ne Nat ea eb /\ @Ne Nat ea (L_+1+1+1+1) /\ @Ne Nat eb (L_+1+1+1+1) /\ @Ne Nat 140 ea /\ @Ne Nat 147 ea /\ @Ne Nat 140 eb /\ @Ne Nat 147 eb:=by
  rcases hsel with ⟨_,_,h1,h2,_⟩ | ⟨_,_,h1,h2,_⟩<;>rw [h1,h2]
  ·exact ⟨z1,z2,z3,z4,z5,z6,z7⟩
  ·exact ⟨Ne.symm z1,z3,z2,z6,z7,z4,z5⟩
 obtain ⟨Rb,hRb⟩:∃ Rb,Rb=own2 ++ Ro:=⟨_,rfl⟩
 have N6:News h₀_ L_ h2 ((L_+1+1+1+1,o₁)::(140,tblO ps_)::(147,tblO qs_)::(ea,W.listOf va.toArray na)::(eb,W.listOf vb.toArray nb)::Rb):=fun p hp=>N' p (by
  rw [hRb] at hp
  rcases hsel with ⟨_,_,h1,h2,h3,h4,h5,h6⟩ | ⟨_,_,h1,h2,h3,h4,h5,h6⟩<;>subst h1 h2 h3 h4 h5 h6<;>(revert p;w_head))
 have hoffb:∀ q∈Rb,q.1≠L_+1+1+1+1 /\ q.1≠e0_ /\ q.1≠e1_ /\ q.1≠140 /\ q.1≠147:=fun q hq=>by
  rw [hRb] at hq
  rcases List.mem_append.mp hq with h | h
  ·rw [hown2 q h]
   exact ⟨hic2,fun e=>(hoff2 _ (.head _)).1 e.symm,fun e=>(hoff2 _ nx1).1 e.symm,fun e=>(hoff2 _ nx2).1 e.symm,fun e=>(hoff2 _ nx3).1 e.symm⟩
  ·exact hoffo q h
 have hoffc:∀ q∈Rb,q.1≠ea /\ q.1≠eb:=fun q hq=>by
  rcases hsel with ⟨_,_,h1,h2,_⟩ | ⟨_,_,h1,h2,_⟩<;>rw [h1,h2]
  ·exact ⟨(hoffb q hq).2.1,(hoffb q hq).2.2.1⟩
  ·exact ⟨(hoffb q hq).2.2.1,(hoffb q hq).2.1⟩
 have sR:∀ p∈R_,p∈Rb:=fun p hp=>by rw [hRb];exact List.mem_append_right _ (hRs p hp)
 have m1:=sR _ mh
 have m2:=sR _ mt
 have m3:=sR _ mp
 have m4:=sR _ mle
 have m5:=sR _ mce
 have m6:=sR _ dI.parts
 have F6:Fr h₀_ L_ h2 _:=(hm2.set (v:=some (.int ((i+1:Nat):Int) u)) (by decide +kernel) (by decide +kernel) (by decide +kernel)).form (fr_known F' htn)
 clear F' N';have mB:∀ p∈Rb,p∈((L_+1+1+1+1,o₁)::(140,tblO ps_)::(147,tblO qs_)::(ea,W.listOf va.toArray na)::(eb,W.listOf vb.toArray nb)::Rb):=by w_head
 rename_i x5_A x13_A x23_A x24_A x25_A x26_A x27_A x28_A x29_A x30_A x31_A x32_A x46_A x47_A x48_A x49_A x50_A x51_A x57_A x60_A x61_A x62_A x63_A x64_A x65_A x66_A x67_A x68_A;revert B T hm hlo hr1 x5_A hC hoe mle mce hoff hE X x13_A z1 z2 z3 z4 z5 z6 z7 z8 z9 x32_A hi hown hit hm1 hlo1 hoff1 hRo x57_A hRs hoffo x60_A x68_A hk hown2 hit2 hic2 ho1 hg2 hm2 hlo2 htn hv0 hv1 ht1 ht2 hoff2 mh mt mp hsel ix ip ih ie dk dI hva y1 y2 y3 y4 y5 y6 y7 hRb N6 hoffb hoffc sR m1 m2 m3 m4 m5 m6 F6 mB
 exact hP x23_A x24_A x25_A x26_A x27_A x28_A x29_A x30_A x31_A i u m₁ h tk g own it x46_A x47_A x48_A x49_A x50_A x51_A os_ vos_ Ro x61_A x62_A x63_A x64_A x65_A x66_A x67_A k uk m₂ h2 tk2 g2 own2 it2 o₁ v0 v1 n0 n1 ps_ qs_ th0 th1 nh nt np d ea eb va vb na nb th Rb⟩
noncomputable abbrev SA:=fun z:(((((Tok×Nat×Tok)×(Nat×Heap)×Nat×Tok)×((Tok×Tok)×Nat×Tok)×((Str -> Option Value)×Heap)×Nat×Array GenState)×((((List (Addr×Obj))×Addr)×List Value×List Value)×(Nat×Nat)×Array Value×Array Value)×((Obj×Option Value)×(List (Addr×Obj))×Tok)×(Nat×Heap)×Nat×Tok)×(((Tok×Tok×Nat)×(Tok×(Str -> Option Value))×Heap×Nat)×((Array GenState×(List (Addr×Obj)))×Addr×Obj)×(List Value×List Value)×Nat×Nat)×(((Array Value×Array Value)×Tok×Tok)×(Nat×Nat)×Nat×SD)×((Addr×Addr)×List Value×List Value)×(Nat×Nat)×Tok×(List (Addr×Obj)))=>seg_A.1 z.1.1.1.1.1 z.1.1.1.1.2.1 z.1.1.1.1.2.2 z.1.1.1.2.1.1 z.1.1.1.2.1.2 z.1.1.1.2.2.1 z.1.1.1.2.2.2 z.1.1.2.1.1.1 z.1.1.2.1.1.2 z.1.1.2.1.2.1 z.1.1.2.1.2.2 z.1.1.2.2.1.1 z.1.1.2.2.1.2 z.1.1.2.2.2.1 z.1.1.2.2.2.2 z.1.2.1.1.1.1 z.1.2.1.1.1.2 z.1.2.1.1.2.1 z.1.2.1.1.2.2 z.1.2.1.2.1.1 z.1.2.1.2.1.2 z.1.2.1.2.2.1 z.1.2.1.2.2.2 z.1.2.2.1.1.1 z.1.2.2.1.1.2 z.1.2.2.1.2.1 z.1.2.2.1.2.2 z.1.2.2.2.1.1 z.1.2.2.2.1.2 z.1.2.2.2.2.1 z.1.2.2.2.2.2 z.2.1.1.1.1 z.2.1.1.1.2.1 z.2.1.1.1.2.2 z.2.1.1.2.1.1 z.2.1.1.2.1.2 z.2.1.1.2.2.1 z.2.1.1.2.2.2 z.2.1.2.1.1.1 z.2.1.2.1.1.2 z.2.1.2.1.2.1 z.2.1.2.1.2.2 z.2.1.2.2.1.1 z.2.1.2.2.1.2 z.2.1.2.2.2.1 z.2.1.2.2.2.2 z.2.2.1.1.1.1 z.2.2.1.1.1.2 z.2.2.1.1.2.1 z.2.2.1.1.2.2 z.2.2.1.2.1.1 z.2.2.1.2.1.2 z.2.2.1.2.2.1 z.2.2.1.2.2.2 z.2.2.2.1.1.1 z.2.2.2.1.1.2 z.2.2.2.1.2.1 z.2.2.2.1.2.2 z.2.2.2.2.1.1 z.2.2.2.2.1.2 z.2.2.2.2.2.1 z.2.2.2.2.2.2
@[irreducible] def σA:=pick (by k_extra "ne") SA
def i_A:=σA.1.1.2.1.2.1
def h_A:=σA.1.1.2.2.1.2
def h2_A:=σA.2.1.1.2.2.1
def o₁_A:=σA.2.1.2.1.2.2
def d_A:=σA.2.2.1.2.2.2
def ea_A:=σA.2.2.2.1.1.1
def va_A:=σA.2.2.2.1.2.1
def vb_A:=σA.2.2.2.1.2.2
def na_A:=σA.2.2.2.2.1.1
def nb_A:=σA.2.2.2.2.1.2
def Rb_A:=σA.2.2.2.2.2.2
theorem core_A:seg_A.1 σA.1.1.1.1.1 σA.1.1.1.1.2.1 σA.1.1.1.1.2.2 σA.1.1.1.2.1.1 σA.1.1.1.2.1.2 σA.1.1.1.2.2.1 σA.1.1.1.2.2.2 σA.1.1.2.1.1.1 σA.1.1.2.1.1.2 i_A σA.1.1.2.1.2.2 σA.1.1.2.2.1.1 h_A σA.1.1.2.2.2.1 σA.1.1.2.2.2.2 σA.1.2.1.1.1.1 σA.1.2.1.1.1.2 σA.1.2.1.1.2.1 σA.1.2.1.1.2.2 σA.1.2.1.2.1.1 σA.1.2.1.2.1.2 σA.1.2.1.2.2.1 σA.1.2.1.2.2.2 σA.1.2.2.1.1.1 σA.1.2.2.1.1.2 σA.1.2.2.1.2.1 σA.1.2.2.1.2.2 σA.1.2.2.2.1.1 σA.1.2.2.2.1.2 σA.1.2.2.2.2.1 σA.1.2.2.2.2.2 σA.2.1.1.1.1 σA.2.1.1.1.2.1 σA.2.1.1.1.2.2 σA.2.1.1.2.1.1 σA.2.1.1.2.1.2 h2_A σA.2.1.1.2.2.2 σA.2.1.2.1.1.1 σA.2.1.2.1.1.2 σA.2.1.2.1.2.1 o₁_A σA.2.1.2.2.1.1 σA.2.1.2.2.1.2 σA.2.1.2.2.2.1 σA.2.1.2.2.2.2 σA.2.2.1.1.1.1 σA.2.2.1.1.1.2 σA.2.2.1.1.2.1 σA.2.2.1.1.2.2 σA.2.2.1.2.1.1 σA.2.2.1.2.1.2 σA.2.2.1.2.2.1 d_A ea_A σA.2.2.2.1.1.2 va_A vb_A na_A nb_A σA.2.2.2.2.2.1 Rb_A:=by
 intro B T hm hlo hr1 x5_A hC hoe mle mce hoff hE X x13_A z1 z2 z3 z4 z5 z6 z7 z8 z9 x32_A hi hown hit hm1 hlo1 hoff1 hRo x57_A hRs hoffo x60_A x68_A hk hown2 hit2 hic2 ho1 hg2 hm2 hlo2 htn hv0 hv1 ht1 ht2 hoff2 mh mt mp hsel ix ip ih ie dk dI hva y1 y2 y3 y4 y5 y6 y7 hRb N6 hoffb hoffc sR m1 m2 m3 m4 m5 m6 F6 mB;k_steps;refine unhalt ?_;k_dflt (refine' item_pick (fun _ v=>v=d_A.txt) ?N ?hm ?h0 ?hk ?hP ?_;(case N=>exact N6);(case hm=>exact mB _ m2);(case h0=>omega);(case hk=>omega);(case hP=>exact ⟨_,ix,rfl⟩))
 rintro _ rfl
 k_steps;refine unhalt ?_;k_dflt (refine' item_pick (fun _ v=>v=.int (d_A.hd:Int) σA.2.2.2.2.2.1) ?N ?hm ?h0 ?hk ?hP ?_;(case N=>exact N6);(case hm=>exact mB _ m1);(case h0=>omega);(case hk=>omega);(case hP=>exact ⟨_,ih,rfl⟩))
 rintro _ rfl
 k_steps;refine unhalt ?_;have N7:News h₀_ L_ h2_A ((140,tblO σA.2.2.1.1.1.1)::(147,tblO σA.2.2.1.1.1.2)::((L_+1+1+1+1,o₁_A)::(ea_A,W.listOf va_A.toArray na_A)::(σA.2.2.2.1.1.2,W.listOf vb_A.toArray nb_A)::Rb_A)):=fun p hp=>N6 p (by
  revert p;w_head)
 have a140:∀ q∈((L_+1+1+1+1,o₁_A)::(ea_A,W.listOf va_A.toArray na_A)::(σA.2.2.2.1.1.2,W.listOf vb_A.toArray nb_A)::Rb_A),q.1≠140:=by
  refine (fc ?_ (fc ?_ (fc ?_ (fun q h_A=>?_))))<;>first | exact Ne.symm (by assumption) | exact (hoffb q h_A).2.2.2.1
 have a147:∀ q∈((L_+1+1+1+1,o₁_A)::(ea_A,W.listOf va_A.toArray na_A)::(σA.2.2.2.1.1.2,W.listOf vb_A.toArray nb_A)::Rb_A),q.1≠147:=by
  refine (fc ?_ (fc ?_ (fc ?_ (fun q h_A=>?_))))<;>first | exact Ne.symm (by assumption) | exact (hoffb q h_A).2.2.2.2
 have dl:=dk.len
 have dh:=dk.hd
 k_dflt (refine' law_laid ?B F6 X T ?hk ?hd ?hu N7 (t:=i_A+1) a140 a147 ht1 ht2 hg2 (fun c hc=>(dk.sign c hc).1) ?hy (by omega) (by omega) ?_;(case B=>k_asm);(case hk=>first | exact rfl | assumption);(case hd=>ktr_room);(case hu=>k_extra "hu");k_whole)
 case hy=>show d_A.mt.toArray.size <= 300;simp;omega
 intro t8 h8 tk8 g8 ps' qs' F8 N8 ht1' ht2' hg8;rw [ofL_toL,laid_page (by omega) dh (fun c hc=>(dk.sign c hc).2)]
 try dsimp only
 clear F6 N6 N7 mB;k_steps;(rename Fr _ _ _ _=>F9);(rename News _ _ _ _=>N9);have mB:∀ p∈Rb_A,p∈((140,tblO ps')::(147,tblO qs')::(L_+1+1+1+1,o₁_A)::(ea_A,W.listOf va_A.toArray na_A)::(σA.2.2.2.1.1.2,W.listOf vb_A.toArray nb_A)::Rb_A):=by w_head
 refine unhalt ?_;k_dflt (refine' item_pick (fun _ v=>v=.ref d_A.P) ?N ?hm ?h0 ?hk ?hP ?_;(case N=>exact N9);(case hm=>exact mB _ m3);(case h0=>omega);(case hk=>omega);(case hP=>exact ⟨_,ip,rfl⟩))
 rintro _ rfl
 k_steps;refine unhalt ?_;obtain ⟨s1,s2,s3,s4⟩:=parts_sizes (hd:=d_A.hd) (l:=d_A.mt) (t:=i_A+1) (by omega) (by simp;omega)
 have el2:=congrArg List.length dk.parts
 rw [List.length_map] at el2
 k_dflt (refine' law_cut ?B F9 X T ?hk ?hd ?hu N9 (t:=i_A+1) (l:=d_A.l) (nl:=d_A.nl) (mB _ m6) (by omega) (by omega) (by omega) (by rw [dk.parts];exact s2) (by rw [dk.parts];exact s3) (by rw [dk.parts,el2];exact s4) ?_;(case B=>k_asm);(case hk=>first | exact rfl | assumption);(case hd=>ktr_room);(case hu=>k_extra "hu");k_whole)
 intro t10 h10 tk10 F10 N10;rw [dk.parts]
 try dsimp only
 clear F9 N9 s1 s2 s3 s4;k_steps;case _=>exact absurd ‹(cutS (partsS d_A.hd d_A.mt) (i_A+1) != cutS (partsS d_A.hd d_A.mt) (i_A+1))=true› (by simp)
 refine unhalt ?_;k_dflt (refine' item_pick (fun _ v=>v=.ref ea_A) ?N ?hm ?h0 ?hk ?hP ?_;(case N=>exact N10);(case hm=>exact mB _ m4);(case h0=>omega);(case hk=>omega);(case hP=>exact ⟨_,ie,rfl⟩))
 rintro _ rfl
 k_steps;refine unhalt ?_;k_dflt (refine' item_pick (fun _ v=>v=.int (d_A.hd:Int) σA.2.2.2.2.2.1) ?N ?hm ?h0 ?hk ?hP ?_;(case N=>exact N10);(case hm=>exact mB _ m1);(case h0=>omega);(case hk=>omega);(case hP=>exact ⟨_,ih,rfl⟩))
 rintro _ rfl
 k_steps;refine unhalt ?_;k_dflt (refine' item_pick (fun _ v=>v=d_A.txt) ?N ?hm ?h0 ?hk ?hP ?_;(case N=>exact N10);(case hm=>exact mB _ m2);(case h0=>omega);(case hk=>omega);(case hP=>exact ⟨_,ix,rfl⟩))
 rintro _ rfl
 k_steps;refine unhalt ?_;have pp:=page_parts dk (t:=i_A+1) (by omega)
 have pz:=page_size dk (t:=i_A+1) (by omega)
 k_dflt (refine' law_place ?B F10 X T ?hk ?hd ?hu N10 (t:=i_A+1) (hdd:=d_A.hd) (by omega) (by omega) (by omega) pp.1 pp.2.1 pp.2.2 ?_;(case B=>k_asm);(case hk=>first | exact rfl | assumption);(case hd=>ktr_room);(case hu=>k_extra "hu");k_whole)
 intro t11 h11 tk11 F11 N11;rw [place_is dk (by omega)]
 try dsimp only
 clear F10 N10 pp pz mB;k_steps;refine unhalt ?_;have N12:News h₀_ L_ h11 ((ea_A,W.listOf va_A.toArray na_A)::(140,tblO ps')::(147,tblO qs')::(L_+1+1+1+1,o₁_A)::(σA.2.2.2.1.1.2,W.listOf vb_A.toArray nb_A)::Rb_A):=fun p hp=>N11 p (by
  revert p;w_head)
 have vl:=hva.length
 have vl2:(endsL d_A i_A).length=i_A:=by simp [endsL]
 k_dflt (refine' lst_app F11 N12 ?off ?z ?_)
 case z=>omega
 case off =>
  refine (fc ?_ (fc ?_ (fc ?_ (fc ?_ (fun q h_A=>?_)))))<;>first | with_reducible assumption | with_reducible exact Ne.symm (by assumption) | exact (hoffc q h_A).1
 intro h13 F13 N13;try dsimp only
 clear F11 N11 N12;k_steps;dsimp only [StepC]
 have hva':IntsAre (va_A ++ [Value.int ((ilW d_A.W d_A.b (i_A+1):Nat):Int) t11]) (endsL d_A (i_A+1)):=by
  rw [endsL_succ]
  exact hva.append (.cons _ _ .nil)
 have nm:Names κ.1.2.2.2.2 κ.2.1.1.1.1 κ.2.1.1.2.1 _:=(Names.formed (lt:=κ.1.2.2.2.2) (lp:=κ.2.1.1.1.1) (lh:=κ.2.1.1.2.1) (fun y=>if y=("t":Str) then some (.int ((i_A+1:Nat):Int) σA.1.1.2.1.2.2) else σA.2.1.1.2.1.2 y)).set (a:="page") (v:=some (.str (cutS (partsS d_A.hd d_A.mt) (i_A+1)) t8)) (by decide +kernel) (by decide +kernel) (by decide +kernel)
 have flo:∀ (v:Option Value),(fun y=>if y=("page":Str) then v else if y=("texts":Str) then some (Value.ref κ.1.2.2.2.2) else if y=("parts":Str) then some (Value.ref κ.2.1.1.1.1) else if y=("heads":Str) then some (Value.ref κ.2.1.1.2.1) else if y=("t":Str) then some (Value.int ((i_A+1:Nat):Int) σA.1.1.2.1.2.2) else σA.2.1.1.2.1.2 y) "longest"=some (.int ((r_:Nat):Int) κ.2.2.2.2.2):=fun v =>
  (if_neg (by decide +kernel)).trans ((if_neg (by decide +kernel)).trans ((if_neg (by decide +kernel)).trans ((if_neg (by decide +kernel)).trans ((if_neg (by decide +kernel)).trans hlo2))))
 have ftt:∀ (v:Option Value),(fun y=>if y=("page":Str) then v else if y=("texts":Str) then some (Value.ref κ.1.2.2.2.2) else if y=("parts":Str) then some (Value.ref κ.2.1.1.1.1) else if y=("heads":Str) then some (Value.ref κ.2.1.1.2.1) else if y=("t":Str) then some (Value.int ((i_A+1:Nat):Int) σA.1.1.2.1.2.2) else σA.2.1.1.2.1.2 y) "t"=some (.int ((i_A+1:Nat):Int) σA.1.1.2.1.2.2):=fun v =>
  (if_neg (by decide +kernel)).trans ((if_neg (by decide +kernel)).trans ((if_neg (by decide +kernel)).trans ((if_neg (by decide +kernel)).trans (if_pos rfl))))
 have offs:∀ (x y:Obj),∀ q∈((e0_,x)::(e1_,y)::(140,tblO ps')::(147,tblO qs')::σA.1.2.2.1.2.1),q.1∉[σA.2.1.2.1.2.1] /\ q.1≠L_+1+1+1+1:=by
  intro x y;refine (fc ?_ (fc ?_ (fc ?_ (fc ?_ (fun q h_A=>?_)))))
  ·exact ⟨fun e=>(hoff2 _ (.head _)).1 (List.mem_singleton.mp e),z2⟩
  ·exact ⟨fun e=>(hoff2 _ nx1).1 (List.mem_singleton.mp e),z3⟩
  ·exact ⟨fun e=>(hoff2 _ nx2).1 (List.mem_singleton.mp e),z8⟩
  ·exact ⟨fun e=>(hoff2 _ nx3).1 (List.mem_singleton.mp e),z9⟩
  ·exact ⟨fun e=>(hoff2 q (by w_why)).1 (List.mem_singleton.mp e),(hoffo q h_A).1⟩
 rw [hRb] at N13
 rcases hsel with ⟨hk0,h1,h2_A,h3,h4,h5,h6,h7⟩ | ⟨hk0,h1,h2_A,h3,h4,h5,h6,h7⟩
 ·rw [h2_A,h3] at N13
  refine ⟨h13,_,g8,_,(e0_,W.listOf (va_A ++ [Value.int ((ilW d_A.W d_A.b (i_A+1):Nat):Int) t11]).toArray (na_A+1))::(e1_,W.listOf vb_A.toArray nb_A)::(140,tblO ps')::(147,tblO qs')::σA.1.2.2.1.2.1,rfl,F13,⟨o₁_A,_,ho1,fun p hp=>N13 p ?nn⟩,offs _ _,hg8,nm,flo _,ftt _,_,_,_,_,ps',qs',rfl,?i0,?i1,ht1',ht2'⟩
  case nn =>
   revert p;w_head
  case i0=>rw [if_pos (by omega),<- h1];exact hva'
  case i1=>rw [if_neg (by omega),h5];rwa [if_neg (by omega)] at hv1
 ·rw [h2_A,h3] at N13
  refine ⟨h13,_,g8,_,(e0_,W.listOf vb_A.toArray nb_A)::(e1_,W.listOf (va_A ++ [Value.int ((ilW d_A.W d_A.b (i_A+1):Nat):Int) t11]).toArray (na_A+1))::(140,tblO ps')::(147,tblO qs')::σA.1.2.2.1.2.1,rfl,F13,⟨o₁_A,_,ho1,fun p hp=>N13 p ?nn⟩,offs _ _,hg8,nm,flo _,ftt _,_,_,_,_,ps',qs',rfl,?i0,?i1,ht1',ht2'⟩
  case nn =>
   revert p;w_head
  case i0=>rw [if_pos (by omega),h5];rwa [if_pos (by omega)] at hv0
  case i1=>rw [if_pos (by omega),<- h1];exact hva'
theorem core:Sc:=seg_A.2 fun a b c d e f g h i j k l m n o p q r s t u v w x y z A B C D E F G H I J K L M N O Q R S T U V W X Y Z a1 b1 c1 d1 e1 f1 g1 h1 i1 j1 k1=>pick_all (P:=SA) (by with_unfolding_all exact core_A) (((((a,b,c),(d,e),f,g),((h,i),j,k),(l,m),n,o),(((p,q),r,s),(t,u),v,w),((x,y),z,A),(B,C),D,E),(((F,G,H),(I,J),K,L),((M,N),O,Q),(R,S),T,U),(((V,W),X,Y),(Z,a1),b1,c1),((d1,e1),f1,g1),(h1,i1),j1,k1)
end e_law_ends
theorem law_ends {lt lp ll lh e0 e1 le:Addr} {d0 d1:SD} {ps qs:Array Value} {oe os:Obj} {vos:Option Value} {R:List (Addr×Obj)} {r:Nat} {tr:Tok}:@S_law_ends w mean mg mb p loose fa ccd h₀ L s Q E m lt lp ll lh e0 e1 le d0 d1 ps qs oe os vos R r tr:=@pick_all _ _ e_law_ends.Sd (by with_unfolding_all exact e_law_ends.core) ((((_,_,_),(_,_),_,_),((_,_),_,_),(_,_),_,_),(((_,_),_,_),(_,_),_,_),((_,_),_,_),(_,_),_,_)
end
end
theorem reg44:True:=by
 w_top off
 trivial
section
section
variable {w:World} {mean:ExcName -> Option Value} {mg mb:Str -> Option Value} {p:Program} {loose:List Str} {fa:Addr} {ccd:Value} {h₀:Heap} {L:Addr} {s:Shared} {Q:Flow -> Shared -> Prop} {E:Value -> Shared -> Prop} {m:Str -> Option Value}
noncomputable def S_law_sure {lt lp ll lh e0 e1 le:Addr} {d0 d1:SD} {oe os:Obj} {vos:Option Value} {R:List (Addr×Obj)} {r:Nat} {tr:Tok} {v0 v1:List Value} {n0 n1:Nat}:Prop:=∀ (B:Below callerA h₀ [] h₀) (X:(KK w.params).In h₀) (T:Top p loose mean mg mb h₀) (F:Fr h₀ L s.heap m) (hlo:m "longest"=some (.int ((r:Nat):Int) tr)) (hr1:r <= 100) (hr:(r:Int)=max (lgZ d0.cs d0.b) (lgZ d1.cs d1.b)) (N:News h₀ L s.heap ((L+1+1+1+1,os)::R)) (hos:os.data=.cell vos) (hC:Core w.params L lt lp ll lh d0 d1 R) (hoe:oe.data=.cell (some (.ref le))) (mle:(le,W.listOf #[.ref e0,.ref e1] 0)∈R) (mce:(L+1+1+1+1+1,oe)∈R) (me0:(e0,W.listOf v0.toArray n0)∈R) (me1:(e1,W.listOf v1.toArray n1)∈R) (hv0:IntsAre v0 (endsL d0 (r+1))) (hv1:IntsAre v1 (endsL d1 (r+1))) (hoff:∀ q∈R,q.1≠L+1+1+1+1) (hdone:∀ h' tk os' vos',Fr h₀ L h' m -> os'.data=.cell vos' -> News h₀ L h' ((L+1+1+1+1,os')::R) →
  wpAny (model rw_rw0127_01.row.prog w) (lawA L fa ccd) (execs (lawB.drop 11) (lawE L fa ccd)) Q E { s with heap:=h',toks:=tk }) (hE:PassesOwn (model rw_rw0127_01.row.prog w) (lawA L fa ccd) (lawE L fa ccd) E),wpAny (model rw_rw0127_01.row.prog w) (lawA L fa ccd) (execs (lawB.drop 10) (lawE L fa ccd)) Q E s
namespace e_law_sure
noncomputable abbrev Sd:=fun z:(((((_×_)×_×_)×(_×_)×_×_)×((_×_)×_×_)×(_×_)×_×_)×(((_×_)×_×_)×(_×_)×_×_)×((_×_)×_×_)×(_×_)×_×_×_)=>@S_law_sure z.1.1.1.1.1 z.1.1.1.1.2 z.1.1.1.2.1 z.1.1.1.2.2 z.1.1.2.1.1 z.1.1.2.1.2 z.1.1.2.2.1 z.1.1.2.2.2 z.1.2.1.1.1 z.1.2.1.1.2 z.1.2.1.2.1 z.1.2.1.2.2 z.1.2.2.1.1 z.1.2.2.1.2 z.1.2.2.2.1 z.1.2.2.2.2 z.2.1.1.1.1 z.2.1.1.1.2 z.2.1.1.2.1 z.2.1.1.2.2 z.2.1.2.1.1 z.2.1.2.1.2 z.2.1.2.2.1 z.2.1.2.2.2 z.2.2.1.1.1 z.2.2.1.1.2 z.2.2.1.2.1 z.2.2.1.2.2 z.2.2.2.1.1 z.2.2.2.1.2 z.2.2.2.2.1 z.2.2.2.2.2.1 z.2.2.2.2.2.2
@[irreducible] def κ:=pick (by k_extra "ne") Sd
def L_:=κ.1.2.1.1.2
def m_:=κ.1.2.2.1.2
def e0_:=κ.2.1.1.2.1
def e1_:=κ.2.1.1.2.2
def d0_:=κ.2.1.2.1.2
def d1_:=κ.2.1.2.2.1
def R_:=κ.2.2.1.2.1
def r_:=κ.2.2.1.2.2
def v0_:=κ.2.2.2.1.2
def v1_:=κ.2.2.2.2.1
def n0_:=κ.2.2.2.2.2.1
def n1_:=κ.2.2.2.2.2.2
noncomputable abbrev Sc:=@S_law_sure κ.1.1.1.1.1 κ.1.1.1.1.2 κ.1.1.1.2.1 κ.1.1.1.2.2 κ.1.1.2.1.1 κ.1.1.2.1.2 κ.1.1.2.2.1 κ.1.1.2.2.2 κ.1.2.1.1.1 L_ κ.1.2.1.2.1 κ.1.2.1.2.2 κ.1.2.2.1.1 m_ κ.1.2.2.2.1 κ.1.2.2.2.2 κ.2.1.1.1.1 κ.2.1.1.1.2 e0_ e1_ κ.2.1.2.1.1 d0_ d1_ κ.2.1.2.2.2 κ.2.2.1.1.1 κ.2.2.1.1.2 R_ r_ κ.2.2.2.1.1 v0_ v1_ n0_ n1_
noncomputable def seg_A:PSigma fun P:Tok -> Nat -> Heap -> Nat -> Tok -> Tok -> Tok -> Nat -> Tok -> Heap -> Nat -> (List (Addr×Obj)) -> Addr -> Obj -> Nat -> Obj -> SD -> Addr -> List Value -> Nat -> (List (Addr×Obj)) -> Prop=>(∀ a b c d e f g h i j k l m n o p q r s t u,P a b c d e f g h i j k l m n o p q r s t u) -> Sc:=⟨_,by
 intro hP;unfold Sc S_law_sure
 intro B X T F hlo hr1 hr N hos hC hoe mle mce me0 me1 hv0 hv1 hoff hdone hE;have e1':lawSc=lawSc:=rfl
 conv at e1'=>{ rhs;whnf }
 have e2':lawB.drop 10=lawB.drop 10:=rfl
 conv at e2'=>{ rhs;whnf }
 rw [e2']
 unfold lawA lawE at hdone hE ⊢
 rw [e1'] at hdone hE ⊢
 clear e1' e2';revert X;k_fill;intro X;k_steps;refine unhalt ?_;k_dflt (refine' For_C' F ?k1 ?k2 ?_ (by intro _;rfl) hE;(case k1=>exact rfl);(case k2=>exact rfl))
 k_steps;(rename Fr _ _ _ _=>F1);(rename News _ _ _ _=>N1);(rename IsRange _ _ _ _ _ _ _ _=>lR');k_dflt (refine' rangeC (n:=2) rfl rfl lR' ?sm ?sz F1 hos N1 hoff (fun _ m₁ nw g=>m₁=m_ /\ nw=R_ /\ g=κ.1.2.1.2.1.gens) ⟨rfl,rfl,rfl⟩ (fun k uk m₂ news₂ h2 tk2 g2 own2 it2 o₁ hk hJ hoff2 hown2 hit2 hic2 F' ho1 N'=>?_) (fun h' tk' g'' m' news' o' v' F' ho' N' hoff' hJ=>?dn))
 case sm=>decide +kernel
 case sz=>decide +kernel
 case dn =>
  obtain ⟨rfl,rfl,rfl⟩:=hJ
  exact wpAny_execs_nil (hdone h' _ o' v' F' ho' N')
 clear hdone F1 N1 lR' hos;obtain ⟨rfl,rfl,rfl⟩:=hJ
 rw [show (0:Int)+(k:Int) * 1=(k:Nat) by omega] at ho1
 obtain ⟨nd,md⟩:=hC.leads
 obtain ⟨ol,mcl,hol⟩:=hC.cell
 obtain ⟨d,ea,va,na,hsel⟩:∃ (d:SD) (ea:Addr) (va:List Value) (na:Nat),(k=0 /\ d=d0_ /\ ea=e0_ /\ va=v0_ /\ na=n0_) \/ (k=1 /\ d=d1_ /\ ea=e1_ /\ va=v1_ /\ na=n1_):=by
  have hk':k=0 \/ k=1:=by omega
  rcases hk' with h | h
  ·exact ⟨_,_,_,_,.inl ⟨h,rfl,rfl,rfl,rfl⟩⟩
  ·exact ⟨_,_,_,_,.inr ⟨h,rfl,rfl,rfl,rfl⟩⟩
 have ix:(#[Value.ref d0_.ws,.ref d1_.ws]:Array Value)[((k:Nat):Int).toNat]?=some (.ref d.ws):=by
  rcases hsel with ⟨h,h',_⟩ | ⟨h,h',_⟩<;>(rw [h,h'];rfl)
 have ie:(#[Value.ref e0_,.ref e1_]:Array Value)[((k:Nat):Int).toNat]?=some (.ref ea):=by
  rcases hsel with ⟨h,_,h',_⟩ | ⟨h,_,h',_⟩<;>(rw [h,h'];rfl)
 have dk:d.Ok:=by
  rcases hsel with ⟨_,h',_⟩ | ⟨_,h',_⟩<;>rw [h']
  ·exact hC.ok0
  ·exact hC.ok1
 have dI:d.In κ.1.1.1.1.1.params R_:=by
  rcases hsel with ⟨_,h',_⟩ | ⟨_,h',_⟩<;>rw [h']
  ·exact hC.in0
  ·exact hC.in1
 have hva:IntsAre va (endsL d (r_+1)):=by
  rcases hsel with ⟨_,h1,_,h2,_⟩ | ⟨_,h1,_,h2,_⟩<;>rw [h1,h2]
  ·exact hv0
  ·exact hv1
 have mea:(ea,W.listOf va.toArray na)∈R_:=by
  rcases hsel with ⟨_,_,h1,h2,h3⟩ | ⟨_,_,h1,h2,h3⟩<;>rw [h1,h2,h3]
  ·exact me0
  ·exact me1
 have hlg:lgZ d.cs d.b <= (r_:Int):=by
  rcases hsel with ⟨_,h1,_⟩ | ⟨_,h1,_⟩<;>rw [h1]<;>omega
 clear hsel hv0 hv1 me0 me1 hC hr;obtain ⟨Rb,hRb⟩:∃ Rb,Rb=own2 ++ R_:=⟨_,rfl⟩
 have N3:News κ.1.2.1.1.1 L_ h2 ((L_+1+1+1+1,o₁)::Rb):=fun p hp=>N' p (by
  rw [hRb] at hp
  revert p;w_head)
 have sR:∀ p∈R_,p∈Rb:=fun p hp=>by rw [hRb];exact List.mem_append_right _ hp
 have m1:=sR _ md
 have m2:=sR _ mcl
 have m4:=sR _ mle
 have m5:=sR _ mce
 have m6:=sR _ mea
 have dB:=dI.mono sR
 have F3:Fr κ.1.2.1.1.1 L_ h2 _:=fr_known F' hlo
 clear N' F';rename_i x2_A x5_A x12_A x13_A x14_A x15_A x16_A x17_A x18_A x19_A;revert B T x2_A hlo hr1 x5_A hoe mle mce hoff hE X x19_A hk hown2 hit2 hic2 ho1 hoff2 md mcl hol ix ie dk dI hva mea hlg hRb N3 sR m1 m2 m4 m5 m6 dB F3
 exact hP x12_A x13_A x14_A x15_A x16_A x17_A x18_A k uk h2 tk2 own2 it2 o₁ nd ol d ea va na Rb⟩
noncomputable abbrev SA:=fun z:((((Tok×Nat)×Heap×Nat×Tok)×(Tok×Tok)×Nat×Tok×Heap)×((Nat×(List (Addr×Obj)))×Addr×Obj×Nat)×(Obj×SD×Addr)×List Value×Nat×(List (Addr×Obj)))=>seg_A.1 z.1.1.1.1 z.1.1.1.2 z.1.1.2.1 z.1.1.2.2.1 z.1.1.2.2.2 z.1.2.1.1 z.1.2.1.2 z.1.2.2.1 z.1.2.2.2.1 z.1.2.2.2.2 z.2.1.1.1 z.2.1.1.2 z.2.1.2.1 z.2.1.2.2.1 z.2.1.2.2.2 z.2.2.1.1 z.2.2.1.2.1 z.2.2.1.2.2 z.2.2.2.1 z.2.2.2.2.1 z.2.2.2.2.2
@[irreducible] def σA:=pick (by k_extra "ne") SA
def d_A:=σA.2.2.1.2.1
theorem core_A:seg_A.1 σA.1.1.1.1 σA.1.1.1.2 σA.1.1.2.1 σA.1.1.2.2.1 σA.1.1.2.2.2 σA.1.2.1.1 σA.1.2.1.2 σA.1.2.2.1 σA.1.2.2.2.1 σA.1.2.2.2.2 σA.2.1.1.1 σA.2.1.1.2 σA.2.1.2.1 σA.2.1.2.2.1 σA.2.1.2.2.2 σA.2.2.1.1 d_A σA.2.2.1.2.2 σA.2.2.2.1 σA.2.2.2.2.1 σA.2.2.2.2.2:=by
 intro B T x2_A hlo hr1 x5_A hoe mle mce hoff hE X x19_A hk hown2 hit2 hic2 ho1 hoff2 md mcl hol ix ie dk dI hva mea hlg hRb N3 sR m1 m2 m4 m5 m6 dB F3;k_steps;refine unhalt ?_;k_dflt (refine LCg.ListComp_U (F₀:=by k_asm) (by with_unfolding_all rfl) (by decide) (by rfl) (by decide) (by rfl) ?_)
 k_steps;refine unhalt ?_;(rename Fr _ _ _ _=>F4);(rename News _ _ _ _=>N4);(rename IsRange _ _ _ _ _ _ _ _=>lR');k_dflt (refine' LCg.CompSrc.range rfl F4 N4 lR' (small_ends hr1) (n:=r_+1) (size_ends r_) (by rw [sizeLine_eq];omega) (fun g=>rest_pure (l:=List.range (r_+1)) (fun j v=>∃ t,v=.int ((j+1:Nat):Int) t) (IsInt fun j=>ilZ d_A.cs d_A.b d_A.nt ((j+1:Nat):Int)) (by simp) (fun j v hj hv=>⟨j,by simp [hj],by obtain ⟨t,e⟩:=hv;exact ⟨t,by rw [e];congr 1;omega⟩⟩) ?turn ?fin))
 case turn =>
  rintro j v I oI C oC D m_ ys h tk E' hj ⟨t,rfl⟩ hC9 hx F' N' off ne
  have hj8:j < r_+1:=by simpa using hj
  have mB:∀ p∈σA.2.2.2.2.2,p∈((I,oI)::(C,oC)::(D,LCg.lst ys)::(L_+1+1+1+1,σA.2.1.2.2.1)::σA.2.2.2.2.2):=by w_head
  clear F4 N4 lR';obtain ⟨wd,nm,ct,vw,tw,tbw,raw,w1,w2,w3,w4,w5,w6,w7,w8⟩:=dB.ws
  have w3':=mB _ w3
  have dBw:WIs κ.1.1.1.1.1.params ((I,oI)::(C,oC)::(D,LCg.lst ys)::(L_+1+1+1+1,σA.2.1.2.2.1)::σA.2.2.2.2.2) d_A.ws d_A.cs d_A.b d_A.n d_A.nt:=dB.ws.mono mB
  k_steps;(rename Fr _ _ _ _=>F5);(rename News _ _ _ _=>N5);refine unhalt ?_;k_dflt (refine' item_pick (fun _ v=>v=.ref d_A.ws) ?N ?hm ?h0 ?hk ?hP ?_;(case N=>exact N5);(case hm=>exact mB _ m1);(case h0=>omega);(case hk=>omega);(case hP=>exact ⟨_,ix,rfl⟩))
  rintro _ rfl
  k_steps;refine unhalt ?_;k_dflt (refine' ws_indZ ?B F5 X T ?hk ?hd ?hu N5 dBw (by omega) (by omega) ?_;(case B=>k_asm);(case hk=>first | exact rfl | assumption);(case hd=>ktr_room);(case hu=>k_extra "hu");k_whole)
  intro t6 h6 tk6 F6 N6;exact ⟨_,_,_,rfl,F6,N6,off,trivial,rfl,_,rfl⟩
 case fin =>
  intro ys hp;have hs:=ints_paired hp
  have hel:(List.range (r_+1)).map (fun j=>ilZ d_A.cs d_A.b d_A.nt ((j+1:Nat):Int))=endsL d_A (r_+1):=List.map_congr_left fun j _=>(side_is d_A).il (by omega)
  rw [hel] at hs
  clear F4 N4 lR';k_steps;(rename Fr _ _ _ _=>F5);(rename News _ _ _ _=>N5);have mB:∀ p∈σA.2.2.2.2.2,p∈((L_+1+1+1+1,σA.2.1.2.2.1)::σA.2.2.2.2.2):=fun p hp=>.tail _ hp
  refine unhalt ?_;k_dflt (refine' item_pick (fun _ v=>v=.ref σA.2.2.1.2.2) ?N ?hm ?h0 ?hk ?hP ?_;(case N=>exact N5);(case hm=>exact .tail _ (mB _ m4));(case h0=>omega);(case hk=>omega);(case hP=>exact ⟨_,ie,rfl⟩))
  rintro _ rfl
  k_steps;refine unhalt ?_;k_dflt (refine' ke_ne_ints ⟨_,News.get N5 (.head _),rfl,_,rfl⟩ (list_in N5 (.tail _ (mB _ m6))) hs hva ?u ?_;(case u=>ktr_units))
  rw [show (!decide (endsL d_A (r_+1)=endsL d_A (r_+1)))=false by simp]
  have N6:News κ.1.2.1.1.1 L_ _ ((L_+1+1+1+1,σA.2.1.2.2.1)::σA.2.2.2.2.2):=fun p hp=>N5 p (.tail _ hp)
  clear N5 hp hs hel;obtain ⟨wd,nm,ct,vw,tw,tbw,raw,w1,w2,w3,w4,w5,w6,w7,w8⟩:=dB.ws
  have w1':=mB _ w1
  have w2':=mB _ w2
  have w3':=mB _ w3
  have w4':=mB _ w4
  k_steps;refine unhalt ?_;k_dflt (refine' item_pick (fun _ v=>v=.ref d_A.ws) ?N ?hm ?h0 ?hk ?hP ?_;(case N=>exact N6);(case hm=>exact mB _ m1);(case h0=>omega);(case hk=>omega);(case hP=>exact ⟨_,ix,rfl⟩))
  rintro _ rfl
  k_steps;refine unhalt ?_;k_dflt (refine' item_pick (fun _ v=>v=.ref d_A.ws) ?N ?hm ?h0 ?hk ?hP ?_;(case N=>exact N6);(case hm=>exact mB _ m1);(case h0=>omega);(case hk=>omega);(case hP=>exact ⟨_,ix,rfl⟩))
  rintro _ rfl
  k_steps;refine unhalt ?_;k_dflt (refine' item_pick (fun _ v=>v=.ref d_A.ws) ?N ?hm ?h0 ?hk ?hP ?_;(case N=>exact N6);(case hm=>exact mB _ m1);(case h0=>omega);(case hk=>omega);(case hP=>exact ⟨_,ix,rfl⟩))
  rintro _ rfl
  k_steps;(rename Fr _ _ _ _=>F7);(rename News _ _ _ _=>N7);try clear F5
  refine unhalt ?_;k_dflt (refine' item_pick (fun _ v=>v=.ref σA.2.2.1.2.2) ?N ?hm ?h0 ?hk ?hP ?_;(case N=>exact N7);(case hm=>exact .tail _ (mB _ m4));(case h0=>omega);(case hk=>omega);(case hP=>exact ⟨_,ie,rfl⟩))
  rintro _ rfl
  k_steps;refine unhalt ?_;obtain ⟨b1,b2,b3,b4,b5,b6,b7⟩:=back_hyps dk hlg
  have b0:=endsL_len d_A (r_+1)
  k_dflt (refine' law_back ?B F7 X T ?hk ?hd ?hu N7 (b:=d_A.b) (nt:=d_A.nt) (.tail _ (mB _ m6)) hva (by omega) (by omega) b1 b2 b3 b4 b5 b6 (hpl:=b7) ?_;(case B=>k_asm);(case hk=>first | exact rfl | assumption);(case hd=>ktr_room);(case hu=>k_extra "hu");k_whole)
  intro T1 T2 T3 vs' s1 s2 s3 h9 tk9 F9 N9 hv9;have ec:=(side_is d_A).cnt.trim (r_+1)
  rw [ec] at hv9
  rw [back_first_is] at N9
  try dsimp only
  clear F7;k_steps;refine unhalt ?_;k_dflt (refine' ne_dataH (self_reads N9 nx3 (.tail _ (.tail _ (.tail _ (.tail _ w1')))) (.tail _ (.tail _ (.tail _ (.tail _ w2')))) w5) (self_reads N9 (.head _) nx1 nx2 hv9) (self_shaped _ _ _ _) (self_shaped _ _ _ _) ?u ?_;(case u=>ktr_units))
  rw [self_eqv]
  k_steps;rw [known_eq hlo] at F9
  dsimp only [StepC]
  refine ⟨h9,_,_,m_,R_,rfl,F9,⟨σA.2.1.2.2.1,_,ho1,fun p hp=>N9 p ?nn⟩,?off,rfl,rfl,rfl⟩
  case nn =>
   rw [hRb]
   revert p;w_head
  case off =>
   intro q hq;exact ⟨fun e=>(hoff2 q hq).1 (List.mem_singleton.mp e),(hoff2 q hq).2⟩
theorem core:Sc:=seg_A.2 fun a b c d e f g h i j k l m n o p q r s t u=>pick_all (P:=SA) (by with_unfolding_all exact core_A) ((((a,b),c,d,e),(f,g),h,i,j),((k,l),m,n,o),(p,q,r),s,t,u)
end e_law_sure
theorem law_sure {lt lp ll lh e0 e1 le:Addr} {d0 d1:SD} {oe os:Obj} {vos:Option Value} {R:List (Addr×Obj)} {r:Nat} {tr:Tok} {v0 v1:List Value} {n0 n1:Nat}:@S_law_sure w mean mg mb p loose fa ccd h₀ L s Q E m lt lp ll lh e0 e1 le d0 d1 oe os vos R r tr v0 v1 n0 n1:=@pick_all _ _ e_law_sure.Sd (by with_unfolding_all exact e_law_sure.core) (((((_,_),_,_),(_,_),_,_),((_,_),_,_),(_,_),_,_),(((_,_),_,_),(_,_),_,_),((_,_),_,_),(_,_),_,_,_)
end
end
theorem reg45:True:=by
 w_top off
 k_with "J"=>skip
 k_with "k"=>fail_if_success k_extra "K"
 k_with "ite"=>(k_extra "k";k_here;with_reducible first | refine ite_p (by with_unfolding_all rfl) ?_ | refine ite_n (by with_unfolding_all exact Bool.false_ne_true) ?_)
 k_with "exec If"=>(k_extra "k";k_here;k_dflt (refine wpAny_If ?_))
 k_with "exec For"=>(k_extra "k";k_extra "hg")
 k_with "exec For Name Call cons nil"=>(k_extra "k";k_extra "hg")
 k_with "exec Assign cons ListComp"=>(k_extra "k";k_extra "hg")
 k_with "eval ListComp"=>(k_extra "k";k_extra "hg")
 k_with "CompSrc"=>(k_extra "k";k_extra "hg")
 k_with "subscriptTail Name Slice ref ref"=>(k_extra "k";k_extra "hg")
 k_with "call ref"=>(k_extra "k";k_extra "hg")
 k_with "call builtin:str.split"=>(k_extra "k";k_extra "hg")
 k_with "call builtin:list.append"=>(k_extra "k";k_extra "hg")
 k_with "binaryOp Mult str int"=>(k_extra "k";k_extra "hg")
 k_with "compareOp NotEq ref ref"=>(k_extra "k";k_extra "hg")
 k_with "compareOp Eq ref ref"=>(k_extra "k";k_extra "hg")
 trivial
section
section
variable {w:World} {mean:ExcName -> Option Value} {mg mb:Str -> Option Value} {p:Program} {loose:List Str} {fa:Addr} {ccd:Value} {h₀:Heap} {L:Addr} {s:Shared} {Q:Flow -> Shared -> Prop} {E:Value -> Shared -> Prop} {m:Str -> Option Value}
noncomputable def S_law_last {lt lp ll lh:Addr} {d0 d1:SD} {Db Da Du:Addr} {qb qa qu:List TC} {R:List (Addr×Obj)} {r:Nat}:Prop:=∀ (B:Below callerA h₀ [] h₀) (X:(KK w.params).In h₀) (T:Top p loose mean mg mb h₀) (F:Fr h₀ L s.heap m) (hm1:m "one"=some (.ref d0.ws)) (hm2:m "two"=some (.ref d1.ws)) (hm3:m "behind"=some (.ref Db)) (hm4:m "ahead"=some (.ref Da)) (hm5:m "unlike"=some (.ref Du)) (hr:(r:Int)=max (lgZ d0.cs d0.b) (lgZ d1.cs d1.b)) (N:News h₀ L s.heap R) (hC:Core w.params L lt lp ll lh d0 d1 R) (mDb:(Db,LCg.lst (qb.map TC.val))∈R) (mDa:(Da,LCg.lst (qa.map TC.val))∈R) (mDu:(Du,LCg.lst (qu.map TC.val))∈R) (eb:∀ c∈qb,c.ent∈R) (ea:∀ c∈qa,c.ent∈R) (eu:∀ c∈qu,c.ent∈R) (kb:qb.map TC.key=witZ notLess d0.cs d1.cs d0.b d1.b d0.nt d1.nt (r+1)) (ka:qa.map TC.key=witZ notLess d1.cs d0.cs d1.b d0.b d1.nt d0.nt (r+1)) (ku:qu.map TC.key=witZ notSame d0.cs d1.cs d0.b d1.b d0.nt d1.nt (r+1)) (hret:∀ h' tk m',Fr h₀ L h' m' -> News h₀ L h' R -> Q (.ret (.bool true)) { s with heap:=h',toks:=tk }) (hE:PassesOwn (model rw_rw0127_01.row.prog w) (lawA L fa ccd) (lawE L fa ccd) E),wpAny (model rw_rw0127_01.row.prog w) (lawA L fa ccd) (execs (lawB.drop 16) (lawE L fa ccd)) Q E s
namespace e_law_last
noncomputable abbrev Sd:=fun z:((((_×_×_)×(_×_)×_×_)×(_×_×_)×(_×_)×_×_)×((_×_×_)×(_×_)×_×_)×(_×_×_)×(_×_)×_×_)=>@S_law_last z.1.1.1.1 z.1.1.1.2.1 z.1.1.1.2.2 z.1.1.2.1.1 z.1.1.2.1.2 z.1.1.2.2.1 z.1.1.2.2.2 z.1.2.1.1 z.1.2.1.2.1 z.1.2.1.2.2 z.1.2.2.1.1 z.1.2.2.1.2 z.1.2.2.2.1 z.1.2.2.2.2 z.2.1.1.1 z.2.1.1.2.1 z.2.1.1.2.2 z.2.1.2.1.1 z.2.1.2.1.2 z.2.1.2.2.1 z.2.1.2.2.2 z.2.2.1.1 z.2.2.1.2.1 z.2.2.1.2.2 z.2.2.2.1.1 z.2.2.2.1.2 z.2.2.2.2.1 z.2.2.2.2.2
@[irreducible] def κ:=pick (by k_extra "ne") Sd
def d0_:=κ.2.1.2.1.2
def d1_:=κ.2.1.2.2.1
def r_:=κ.2.2.2.2.2
noncomputable abbrev Sc:=@S_law_last κ.1.1.1.1 κ.1.1.1.2.1 κ.1.1.1.2.2 κ.1.1.2.1.1 κ.1.1.2.1.2 κ.1.1.2.2.1 κ.1.1.2.2.2 κ.1.2.1.1 κ.1.2.1.2.1 κ.1.2.1.2.2 κ.1.2.2.1.1 κ.1.2.2.1.2 κ.1.2.2.2.1 κ.1.2.2.2.2 κ.2.1.1.1 κ.2.1.1.2.1 κ.2.1.1.2.2 κ.2.1.2.1.1 d0_ d1_ κ.2.1.2.2.2 κ.2.2.1.1 κ.2.2.1.2.1 κ.2.2.1.2.2 κ.2.2.2.1.1 κ.2.2.2.1.2 κ.2.2.2.2.1 r_
theorem core:Sc:=by
 unfold Sc S_law_last
 intro B X T F hm1 hm2 hm3 hm4 hm5 hr N hC mDb mDa mDu eb ea eu kb ka ku hret hE;have e1':lawSc=lawSc:=rfl
 conv at e1'=>{ rhs;whnf }
 have e2':lawB.drop 16=lawB.drop 16:=rfl
 conv at e2'=>{ rhs;whnf }
 rw [e2']
 unfold lawA lawE at hE ⊢
 rw [e1'] at hE ⊢
 clear e1' e2';revert X;k_fill;intro X;have F0:Fr κ.1.2.1.2.1 κ.1.2.1.2.2 κ.1.2.2.1.1.heap (fun z=>if z=("one":Str) then some (.ref d0_.ws) else if z=("two":Str) then some (.ref d1_.ws) else if z=("behind":Str) then some (.ref κ.2.1.2.2.2) else if z=("ahead":Str) then some (.ref κ.2.2.1.1) else if z=("unlike":Str) then some (.ref κ.2.2.1.2.1) else κ.1.2.2.2.2 z) :=
  fr_known (fr_known (fr_known (fr_known (fr_known F hm5) ((if_neg (by decide +kernel)).trans hm4)) ((if_neg (by decide +kernel)).trans ((if_neg (by decide +kernel)).trans hm3))) ((if_neg (by decide +kernel)).trans ((if_neg (by decide +kernel)).trans ((if_neg (by decide +kernel)).trans hm2)))) ((if_neg (by decide +kernel)).trans ((if_neg (by decide +kernel)).trans ((if_neg (by decide +kernel)).trans ((if_neg (by decide +kernel)).trans hm1))))
 have W0:=hC.in0.ws
 have W1:=hC.in1.ws
 have hr':(r_:Int)=max (lgZ d1_.cs d1_.b) (lgZ d0_.cs d0_.b):=by rw [hr,Int.max_comm]
 obtain ⟨wd0,nm0,ct0,vw0,tw0,tb0,raw0,_,_,i0,j0,_,_,_,_⟩:=hC.in0.ws
 obtain ⟨wd1,nm1,ct1,vw1,tw1,tb1,raw1,_,_,i1,j1,_,_,_,_⟩:=hC.in1.ws
 clear F;k_steps;refine unhalt ?_;k_dflt (refine' ws_notless ?B F0 X T ?hk ?hd ?hu N W0 W1 hr ?_;(case B=>k_asm);(case hk=>first | exact rfl | assumption);(case hd=>ktr_room);(case hu=>k_extra "hu");k_whole)
 intro l1 p1 k1 R1 h1 tk1 F1 N1 s1 o1 x1 y1;try dsimp only
 clear F0 N;have i01:=s1 _ i0
 have i01':=List.mem_cons_of_mem (l1,W.listOf (p1.map TC.val).toArray k1) i01
 have i11:=s1 _ i1
 have i11':=List.mem_cons_of_mem (l1,W.listOf (p1.map TC.val).toArray k1) i11
 have j01:=s1 _ j0
 have j01':=List.mem_cons_of_mem (l1,W.listOf (p1.map TC.val).toArray k1) j01
 have j11:=s1 _ j1
 have j11':=List.mem_cons_of_mem (l1,W.listOf (p1.map TC.val).toArray k1) j11
 have W01:=(W0.mono s1).mono fun p hp=>List.mem_cons_of_mem (l1,W.listOf (p1.map TC.val).toArray k1) hp
 have W11:=(W1.mono s1).mono fun p hp=>List.mem_cons_of_mem (l1,W.listOf (p1.map TC.val).toArray k1) hp
 k_steps;refine unhalt ?_;k_dflt (refine' ws_notless ?B F1 X T ?hk ?hd ?hu N1 W11 W01 hr' ?_;(case B=>k_asm);(case hk=>first | exact rfl | assumption);(case hd=>ktr_room);(case hu=>k_extra "hu");k_whole)
 intro l2 p2 k2 R2 h2 tk2 F2 N2 s2' o2 x2 y2;try dsimp only
 clear F1 N1;have s2:∀ p∈R1,p∈R2:=fun p hp=>s2' p (.tail _ hp)
 have i02:=s2 _ i01
 have i02':=List.mem_cons_of_mem (l2,W.listOf (p2.map TC.val).toArray k2) i02
 have i12:=s2 _ i11
 have i12':=List.mem_cons_of_mem (l2,W.listOf (p2.map TC.val).toArray k2) i12
 have j02:=s2 _ j01
 have j02':=List.mem_cons_of_mem (l2,W.listOf (p2.map TC.val).toArray k2) j02
 have j12:=s2 _ j11
 have j12':=List.mem_cons_of_mem (l2,W.listOf (p2.map TC.val).toArray k2) j12
 have W02:=((W0.mono s1).mono s2).mono fun p hp=>List.mem_cons_of_mem (l2,W.listOf (p2.map TC.val).toArray k2) hp
 have W12:=((W1.mono s1).mono s2).mono fun p hp=>List.mem_cons_of_mem (l2,W.listOf (p2.map TC.val).toArray k2) hp
 k_steps;refine unhalt ?_;k_dflt (refine' ws_notsame ?B F2 X T ?hk ?hd ?hu N2 W02 W12 hr ?_;(case B=>k_asm);(case hk=>first | exact rfl | assumption);(case hd=>ktr_room);(case hu=>k_extra "hu");k_whole)
 intro l3 p3 k3 R3 h3 tk3 F3 N3 s3' o3 x3 y3;try dsimp only
 clear F2 N2;have s3:∀ p∈R2,p∈R3:=fun p hp=>s3' p (.tail _ hp)
 have i03:=s3 _ i02
 have i03':=List.mem_cons_of_mem (l3,W.listOf (p3.map TC.val).toArray k3) i03
 have i13:=s3 _ i12
 have i13':=List.mem_cons_of_mem (l3,W.listOf (p3.map TC.val).toArray k3) i13
 have j03:=s3 _ j02
 have j03':=List.mem_cons_of_mem (l3,W.listOf (p3.map TC.val).toArray k3) j03
 have j13:=s3 _ j12
 have j13':=List.mem_cons_of_mem (l3,W.listOf (p3.map TC.val).toArray k3) j13
 have sa:∀ p∈κ.2.2.2.2.1,p∈((l3,W.listOf (p3.map TC.val).toArray k3)::R3):=fun p hp=>.tail _ (s3 _ (s2 _ (s1 _ hp)))
 k_steps;refine unhalt ?_;(rename Fr _ _ _ _=>F4);(rename News _ _ _ _=>N4);have z1:=rows_read N4 ((.tail _ (.tail _ (.tail _ (s3 _ (s2' _ (.head _))))))) (fun c hc=>(.tail _ (.tail _ (.tail _ (s3 _ (s2 _ (x1 c hc)))))))
 have z2:=rows_read N4 ((.tail _ (.tail _ (.tail _ (s3' _ (.head _)))))) (fun c hc=>(.tail _ (.tail _ (.tail _ (s3 _ (x2 c hc))))))
 have z3:=rows_read N4 nx2 (fun c hc=>(.tail _ (.tail _ (.tail _ (x3 c hc)))))
 have z4:=rows_read N4 (.tail _ (.tail _ (sa _ mDb))) (fun c hc=>.tail _ (.tail _ (sa _ (eb c hc))))
 have z5:=rows_read N4 (.tail _ (.tail _ (sa _ mDa))) (fun c hc=>.tail _ (.tail _ (sa _ (ea c hc))))
 have z6:=rows_read N4 (.tail _ (.tail _ (sa _ mDu))) (fun c hc=>.tail _ (.tail _ (sa _ (eu c hc))))
 rw [y1] at z1
 rw [y2] at z2
 rw [y3] at z3
 rw [kb] at z4
 rw [ka] at z5
 rw [ku] at z6
 k_dflt (refine' ne_dataH (tri_read (N4.get nx1) z1 z2 z3) (tri_read (N4.get (.head _)) z4 z5 z6) (tri_shaped _ _ _) (tri_shaped _ _ _) ?u ?_;(case u=>ktr_units))
 rw [tri_eqv]
 have N5:News κ.1.2.1.2.1 κ.1.2.1.2.2 _ ((l3,W.listOf (p3.map TC.val).toArray k3)::R3):=fun p hp=>N4 p (.tail _ (.tail _ hp))
 have W03:=(((W0.mono s1).mono s2).mono s3).mono fun p hp=>List.mem_cons_of_mem (l3,W.listOf (p3.map TC.val).toArray k3) hp
 have W13:=(((W1.mono s1).mono s2).mono s3).mono fun p hp=>List.mem_cons_of_mem (l3,W.listOf (p3.map TC.val).toArray k3) hp
 clear N4 z1 z2 z3 z4 z5 z6;k_steps;refine unhalt ?_;k_dflt (refine' ws_less ?B F4 X T ?hk ?hd ?hu N5 W03 W13 ?_;(case B=>k_asm);(case hk=>first | exact rfl | assumption);(case hd=>ktr_room);(case hu=>k_extra "hu");k_whole)
 intro q5 h5 tk5 hq5 F5 N6;have hv5:q5=decide (κ.2.2.1.2.2.map TC.key=[]):=by
  rw [hq5,kb,Bool.eq_iff_iff,decide_eq_true_iff]
  exact less_says (side_is d0_) (side_is d1_) hr
 clear hq5 F4 N5;try dsimp only
 k_steps;refine unhalt ?_;(rename Fr _ _ _ _=>F6);(rename News _ _ _ _=>N7);k_dflt (refine' eq_dataH (rows_read N7 (.tail _ (sa _ mDb)) (fun c hc=>.tail _ (sa _ (eb c hc)))) (rows_read (ps:=[]) (n:=0) N7 (.head _) (fun c hc=>nomatch hc)) (rows_shaped _) (rows_shaped _) ?u ?_;(case u=>ktr_units))
 rw [show (([]:List TC).map TC.key)=[] from rfl,rows_none,hv5]
 have N8:News κ.1.2.1.2.1 κ.1.2.1.2.2 _ ((l3,W.listOf (p3.map TC.val).toArray k3)::R3):=fun p hp=>N7 p (.tail _ hp)
 clear N7;k_steps;case _=>exact absurd ‹(decide (κ.2.2.1.2.2.map TC.key=[]) != decide (κ.2.2.1.2.2.map TC.key=[]))=true› (by simp)
 refine unhalt ?_;(rename Fr _ _ _ _=>F7);k_dflt (refine' ws_less ?B F7 X T ?hk ?hd ?hu N8 W13 W03 ?_;(case B=>k_asm);(case hk=>first | exact rfl | assumption);(case hd=>ktr_room);(case hu=>k_extra "hu");k_whole)
 intro q6 h6 tk6 hq6 F8 N9;have hv6:q6=decide (κ.2.2.2.1.1.map TC.key=[]):=by
  rw [hq6,ka,Bool.eq_iff_iff,decide_eq_true_iff]
  exact less_says (side_is d1_) (side_is d0_) hr'
 clear hq6 F7 N8;try dsimp only
 k_steps;refine unhalt ?_;(rename Fr _ _ _ _=>F9);(rename News _ _ _ _=>N10);k_dflt (refine' eq_dataH (rows_read N10 (.tail _ (sa _ mDa)) (fun c hc=>.tail _ (sa _ (ea c hc)))) (rows_read (ps:=[]) (n:=0) N10 (.head _) (fun c hc=>nomatch hc)) (rows_shaped _) (rows_shaped _) ?u ?_;(case u=>ktr_units))
 rw [show (([]:List TC).map TC.key)=[] from rfl,rows_none,hv6]
 have N11:News κ.1.2.1.2.1 κ.1.2.1.2.2 _ ((l3,W.listOf (p3.map TC.val).toArray k3)::R3):=fun p hp=>N10 p (.tail _ hp)
 clear N10;k_steps;case _=>exact absurd ‹(decide (κ.2.2.2.1.1.map TC.key=[]) != decide (κ.2.2.2.1.1.map TC.key=[]))=true› (by simp)
 refine unhalt ?_;(rename Fr _ _ _ _=>F10);k_dflt (refine' ws_equal ?B F10 X T ?hk ?hd ?hu N11 W03 W13 ?_;(case B=>k_asm);(case hk=>first | exact rfl | assumption);(case hd=>ktr_room);(case hu=>k_extra "hu");k_whole)
 intro h7 tk7 F11 N12;have hv7:decide (d0_.cs=d1_.cs /\ d0_.b=d1_.b)=decide (κ.2.2.2.1.2.map TC.key=[]):=by
  rw [ku,decide_eq_decide]
  exact equal_says (side_is d0_) (side_is d1_) hr
 rw [hv7]
 clear F10 N11;try dsimp only
 k_steps;refine unhalt ?_;(rename Fr _ _ _ _=>F12);(rename News _ _ _ _=>N13);k_dflt (refine' eq_dataH (rows_read N13 (.tail _ (sa _ mDu)) (fun c hc=>.tail _ (sa _ (eu c hc)))) (rows_read (ps:=[]) (n:=0) N13 (.head _) (fun c hc=>nomatch hc)) (rows_shaped _) (rows_shaped _) ?u ?_;(case u=>ktr_units))
 rw [show (([]:List TC).map TC.key)=[] from rfl,rows_none]
 k_steps;rw [show (decide (κ.2.2.2.1.2.map TC.key=[]) == decide (κ.2.2.2.1.2.map TC.key=[]))=true by simp]
 exact hret _ _ _ F12 fun q hq=>N13 q (.tail _ (sa q hq))
end e_law_last
theorem law_last {lt lp ll lh:Addr} {d0 d1:SD} {Db Da Du:Addr} {qb qa qu:List TC} {R:List (Addr×Obj)} {r:Nat}:@S_law_last w mean mg mb p loose fa ccd h₀ L s Q E m lt lp ll lh d0 d1 Db Da Du qb qa qu R r:=@pick_all _ _ e_law_last.Sd (by with_unfolding_all exact e_law_last.core) ((((_,_,_),(_,_),_,_),(_,_,_),(_,_),_,_),((_,_,_),(_,_),_,_),(_,_,_),(_,_),_,_)
end
end
theorem reg46:True:=by
 w_top off
 k_with "K"=>skip
 k_with "l"=>fail_if_success k_extra "L"
 k_with "ite"=>(k_extra "l";k_here;with_reducible first | refine ite_p (by with_unfolding_all rfl) ?_ | refine ite_n (by with_unfolding_all exact Bool.false_ne_true) ?_)
 k_with "exec If"=>(k_extra "l";k_here;k_dflt (refine wpAny_If ?_))
 k_with "exec For"=>(k_extra "l";k_extra "hg")
 k_with "exec For Name Call cons nil"=>(k_extra "l";k_extra "hg")
 k_with "exec Assign cons ListComp"=>(k_extra "l";k_extra "hg")
 k_with "eval ListComp"=>(k_extra "l";k_extra "hg")
 k_with "CompSrc"=>(k_extra "l";k_extra "hg")
 k_with "subscriptTail Name Slice ref ref"=>(k_extra "l";k_extra "hg")
 k_with "call ref"=>(k_extra "l";k_extra "hg")
 k_with "call builtin:str.split"=>(k_extra "l";k_extra "hg")
 k_with "call builtin:list.append"=>(k_extra "l";k_extra "hg")
 k_with "binaryOp Mult str int"=>(k_extra "l";k_extra "hg")
 k_with "compareOp NotEq ref ref"=>(k_extra "l";k_extra "hg")
 k_with "compareOp Eq ref ref"=>(k_extra "l";k_extra "hg")
 k_with "execs cons"=>(k_extra "l";k_here;(with_reducible show wpAny _ _ (execs (Stmt.Assign [Expr.Name (Str.ofString "behind") _] _ _::_) _) _ _ _);with_reducible refine Halt.go ?_)
 k_with "subscriptTail"=>(k_extra "l";k_extra "hg")
 trivial
section
section
variable {w:World} {mean:ExcName -> Option Value} {mg mb:Str -> Option Value} {p:Program} {loose:List Str} {fa:Addr} {ccd:Value} {h₀:Heap} {L:Addr} {s:Shared} {Q:Flow -> Shared -> Prop} {E:Value -> Shared -> Prop} {m:Str -> Option Value}
noncomputable def S_law_rows {lt lp ll lh e0 e1 le:Addr} {d0 d1:SD} {oe:Obj} {R:List (Addr×Obj)} {r:Nat} {tr:Tok} {v0 v1:List Value} {n0 n1:Nat}:Prop:=∀ (B:Below callerA h₀ [] h₀) (X:(KK w.params).In h₀) (T:Top p loose mean mg mb h₀) (F:Fr h₀ L s.heap m) (hlo:m "longest"=some (.int ((r:Nat):Int) tr)) (hr1:r <= 100) (N:News h₀ L s.heap R) (hC:Core w.params L lt lp ll lh d0 d1 R) (hoe:oe.data=.cell (some (.ref le))) (mle:(le,W.listOf #[.ref e0,.ref e1] 0)∈R) (mce:(L+1+1+1+1+1,oe)∈R) (me0:(e0,W.listOf v0.toArray n0)∈R) (me1:(e1,W.listOf v1.toArray n1)∈R) (hv0:IntsAre v0 (endsL d0 (r+1))) (hv1:IntsAre v1 (endsL d1 (r+1))) (hdone:∀ h' tk m' D (ps:List TC) R',Fr h₀ L h' m' -> m' "one"=some (.ref d0.ws) -> m' "two"=some (.ref d1.ws) -> m' "rows"=some (.ref D) →
  News h₀ L h' ((D,LCg.lst (ps.map TC.val))::R') -> (∀ q∈R',q.1≠D) -> (∀ p∈R,p∈R') -> (∀ c∈ps,c.ent∈R') -> ps.map TC.key=(List.range (r+1)).map (rowZ d0.cs d1.cs d0.b d1.b d0.nt d1.nt) →
  wpAny (model rw_rw0127_01.row.prog w) (lawA L fa ccd) (execs (lawB.drop 13) (lawE L fa ccd)) Q E { s with heap:=h',toks:=tk }) (hE:PassesOwn (model rw_rw0127_01.row.prog w) (lawA L fa ccd) (lawE L fa ccd) E),wpAny (model rw_rw0127_01.row.prog w) (lawA L fa ccd) (execs (lawB.drop 11) (lawE L fa ccd)) Q E s
namespace e_law_rows
noncomputable abbrev Sd:=fun z:((((_×_×_)×(_×_)×_×_)×((_×_)×_×_)×(_×_)×_×_)×(((_×_)×_×_)×(_×_)×_×_)×((_×_)×_×_)×(_×_)×_×_)=>@S_law_rows z.1.1.1.1 z.1.1.1.2.1 z.1.1.1.2.2 z.1.1.2.1.1 z.1.1.2.1.2 z.1.1.2.2.1 z.1.1.2.2.2 z.1.2.1.1.1 z.1.2.1.1.2 z.1.2.1.2.1 z.1.2.1.2.2 z.1.2.2.1.1 z.1.2.2.1.2 z.1.2.2.2.1 z.1.2.2.2.2 z.2.1.1.1.1 z.2.1.1.1.2 z.2.1.1.2.1 z.2.1.1.2.2 z.2.1.2.1.1 z.2.1.2.1.2 z.2.1.2.2.1 z.2.1.2.2.2 z.2.2.1.1.1 z.2.2.1.1.2 z.2.2.1.2.1 z.2.2.1.2.2 z.2.2.2.1.1 z.2.2.2.1.2 z.2.2.2.2.1 z.2.2.2.2.2
@[irreducible] def κ:=pick (by k_extra "ne") Sd
def d0_:=κ.2.1.2.2.1
def d1_:=κ.2.1.2.2.2
def r_:=κ.2.2.1.2.1
noncomputable abbrev Sc:=@S_law_rows κ.1.1.1.1 κ.1.1.1.2.1 κ.1.1.1.2.2 κ.1.1.2.1.1 κ.1.1.2.1.2 κ.1.1.2.2.1 κ.1.1.2.2.2 κ.1.2.1.1.1 κ.1.2.1.1.2 κ.1.2.1.2.1 κ.1.2.1.2.2 κ.1.2.2.1.1 κ.1.2.2.1.2 κ.1.2.2.2.1 κ.1.2.2.2.2 κ.2.1.1.1.1 κ.2.1.1.1.2 κ.2.1.1.2.1 κ.2.1.1.2.2 κ.2.1.2.1.1 κ.2.1.2.1.2 d0_ d1_ κ.2.2.1.1.1 κ.2.2.1.1.2 r_ κ.2.2.1.2.2 κ.2.2.2.1.1 κ.2.2.2.1.2 κ.2.2.2.2.1 κ.2.2.2.2.2
theorem core:Sc:=by
 unfold Sc S_law_rows
 intro B X T F hlo hr1 N hC hoe mle mce me0 me1 hv0 hv1 hdone hE;have e1':lawSc=lawSc:=rfl
 conv at e1'=>{ rhs;whnf }
 have e2':lawB.drop 11=lawB.drop 11:=rfl
 conv at e2'=>{ rhs;whnf }
 rw [e2']
 unfold lawA lawE at hdone hE ⊢
 rw [e1'] at hdone hE ⊢
 clear e1' e2';revert X;k_fill;intro X;have F0:=fr_known F hlo
 obtain ⟨nd,md⟩:=hC.leads
 obtain ⟨ol,mcl,hol⟩:=hC.cell
 clear F;k_steps;refine unhalt ?_;k_dflt (refine LCg.Assign_ListComp_U (F₀:=by k_asm) (by rfl) (by with_unfolding_all rfl) (by with_unfolding_all rfl) (by decide) (by rfl) (by decide) (by rfl) (by rfl) (by rfl) ?_)
 k_steps;refine unhalt ?_;(rename Fr _ _ _ _=>F1);(rename News _ _ _ _=>N1);(rename IsRange _ _ _ _ _ _ _ _=>lR');k_dflt (refine' LCg.CompSrc.range rfl F1 N1 lR' (small_ends hr1) (n:=r_+1) (size_ends r_) (by rw [sizeLine_eq];omega) (fun g=>rest_J (RowsJ κ.2.2.1.1.2 fun i=>(List.range i).map (rowZ d0_.cs d1_.cs d0_.b d1_.b d0_.nt d1_.nt)) ⟨[],rfl,(fun c hc=>nomatch hc),fun _ h=>h,rfl⟩ ?turn ?fin))
 case turn =>
  rintro j v I oI C oC D m₂ ys nw h tk E' hj ⟨t,rfl⟩ ⟨ps,rfl,hent,hsub,hps⟩ hC9 hx F' N' off ne
  rw [show (1:Int)+(j:Int)=((j+1:Nat):Int) by omega] at hx
  have mB:∀ p∈κ.2.2.1.1.2,p∈((I,oI)::(C,oC)::(D,LCg.lst (ps.map TC.val))::nw):=fun p hp=>by simp [hsub p hp]
  have m1:=mB _ mce
  clear F1 N1 lR';obtain ⟨ta,ha⟩:=ends_get hv0 hj
  obtain ⟨tb,hb⟩:=ends_get hv1 hj
  k_steps;refine unhalt ?_;k_dflt (refine' item_pick (fun _ v=>v=.ref κ.2.1.1.2.2) ?N ?hm ?h0 ?hk ?hP ?_;(case N=>exact N');(case hm=>exact mB _ mle);(case h0=>omega);(case hk=>omega);(case hP=>exact ⟨_,rfl,rfl⟩))
  rintro _ rfl
  k_steps;refine unhalt ?_;k_dflt (refine' item_pick (fun _ v=>v=.int (ilZ d0_.cs d0_.b d0_.nt ((j+1:Nat):Int)) ta) ?N ?hm ?h0 ?hk ?hP ?_;(case N=>exact N');(case hm=>exact mB _ me0);(case h0=>omega);(case hk=>omega);(case hP=>exact ⟨_,ha,rfl⟩))
  rintro _ rfl
  k_steps;refine unhalt ?_;k_dflt (refine' item_pick (fun _ v=>v=.ref κ.2.1.2.1.1) ?N ?hm ?h0 ?hk ?hP ?_;(case N=>exact N');(case hm=>exact mB _ mle);(case h0=>omega);(case hk=>omega);(case hP=>exact ⟨_,rfl,rfl⟩))
  rintro _ rfl
  k_steps;refine unhalt ?_;k_dflt (refine' item_pick (fun _ v=>v=.int (ilZ d1_.cs d1_.b d1_.nt ((j+1:Nat):Int)) tb) ?N ?hm ?h0 ?hk ?hP ?_;(case N=>exact N');(case hm=>exact mB _ me1);(case h0=>omega);(case hk=>omega);(case hP=>exact ⟨_,hb,rfl⟩))
  rintro _ rfl
  k_steps;(rename Fr _ _ _ _=>F2);(rename News _ _ _ _=>N2);(rename _ /\ _ /\ _ /\ AllLt _ nw=>l9);rename Addr=>D9
  refine ⟨_,_,(⟨D9,((j+1:Nat):Int),ilZ d0_.cs d0_.b d0_.nt ((j+1:Nat):Int),ilZ d1_.cs d1_.b d1_.nt ((j+1:Nat):Int),t,ta,tb⟩:TC).ent::nw,rfl,F2,fun p hp=>N2 p ?nn,⟨⟨Nat.ne_of_gt l9.1,Nat.ne_of_gt l9.2.1,Nat.ne_of_gt l9.2.2.1⟩,off⟩,trivial,ps ++ [⟨D9,((j+1:Nat):Int),ilZ d0_.cs d0_.b d0_.nt ((j+1:Nat):Int),ilZ d1_.cs d1_.b d1_.nt ((j+1:Nat):Int),t,ta,tb⟩],?e1,?e2,fun p hp=>.tail _ (hsub p hp),?e3⟩
  case nn =>
   simp only [List.mem_cons] at hp ⊢
   rcases hp with h | h | h | h | h
   ·simp [h]
   ·simp [h]
   ·simp [h]
   ·exact .inl h
   ·simp [h]
  case e1=>simp
  case e2 =>
   intro c hc;rcases List.mem_append.mp hc with h | h
   ·exact .tail _ (hent c h)
   ·rw [List.mem_singleton.mp h];exact .head _
  case e3 =>
   rw [List.map_append,hps]
   dsimp only
   rw [List.range_succ,List.map_append]
   rfl
 case fin =>
  rintro ys nw ⟨ps,rfl,hent,hsub,hps⟩
  clear F1 N1 lR';k_steps;refine unhalt ?_;(rename Fr _ _ _ _=>F3);(rename News _ _ _ _=>N3);(rename LCg.Off1 _ _=>o9);refine hdone _ _ _ _ ps nw F3 ?n1 ?n2 (if_pos rfl) N3 (off1_mem o9) hsub hent hps
  case n1=>exact (if_neg (by decide +kernel)).trans ((if_neg (by decide +kernel)).trans (if_pos rfl))
  case n2=>exact (if_neg (by decide +kernel)).trans (if_pos rfl)
end e_law_rows
theorem law_rows {lt lp ll lh e0 e1 le:Addr} {d0 d1:SD} {oe:Obj} {R:List (Addr×Obj)} {r:Nat} {tr:Tok} {v0 v1:List Value} {n0 n1:Nat}:@S_law_rows w mean mg mb p loose fa ccd h₀ L s Q E m lt lp ll lh e0 e1 le d0 d1 oe R r tr v0 v1 n0 n1:=@pick_all _ _ e_law_rows.Sd (by with_unfolding_all exact e_law_rows.core) ((((_,_,_),(_,_),_,_),((_,_),_,_),(_,_),_,_),(((_,_),_,_),(_,_),_,_),((_,_),_,_),(_,_),_,_)
end
end
theorem reg47:True:=by
 w_top off
 k_with "L"=>skip
 k_with "m"=>fail_if_success k_extra "M"
 k_with "ite"=>(k_extra "m";k_here;with_reducible first | refine ite_p (by with_unfolding_all rfl) ?_ | refine ite_n (by with_unfolding_all exact Bool.false_ne_true) ?_)
 k_with "exec If"=>(k_extra "m";k_here;k_dflt (refine wpAny_If ?_))
 k_with "exec For"=>(k_extra "m";k_extra "hg")
 k_with "exec For Name Call cons nil"=>(k_extra "m";k_extra "hg")
 k_with "exec Assign cons ListComp"=>(k_extra "m";k_extra "hg")
 k_with "eval ListComp"=>(k_extra "m";k_extra "hg")
 k_with "CompSrc"=>(k_extra "m";k_extra "hg")
 k_with "subscriptTail Name Slice ref ref"=>(k_extra "m";k_extra "hg")
 k_with "call ref"=>(k_extra "m";k_extra "hg")
 k_with "call builtin:str.split"=>(k_extra "m";k_extra "hg")
 k_with "call builtin:list.append"=>(k_extra "m";k_extra "hg")
 k_with "binaryOp Mult str int"=>(k_extra "m";k_extra "hg")
 k_with "compareOp NotEq ref ref"=>(k_extra "m";k_extra "hg")
 k_with "compareOp Eq ref ref"=>(k_extra "m";k_extra "hg")
 k_with "CompSrcT"=>(k_extra "m";k_extra "hg")
 k_with "execs cons"=>(k_extra "m";k_here;(with_reducible show wpAny _ _ (execs (Stmt.If _ _ _ _::_) _) _ _ _);with_reducible refine Halt.go ?_)
 trivial
section
section
variable {w:World} {mean:ExcName -> Option Value} {mg mb:Str -> Option Value} {p:Program} {loose:List Str} {fa:Addr} {ccd:Value} {h₀:Heap} {L:Addr} {s:Shared} {Q:Flow -> Shared -> Prop} {E:Value -> Shared -> Prop} {m:Str -> Option Value}
noncomputable def S_law_wits {cs0 cs1:List Int} {b0 b1 nt0 nt1:Nat} {v1 v2:Value} {D:Addr} {ps:List TC} {R:List (Addr×Obj)} {r:Nat}:Prop:=∀ (B:Below callerA h₀ [] h₀) (X:(KK w.params).In h₀) (T:Top p loose mean mg mb h₀) (F:Fr h₀ L s.heap m) (hm1:m "one"=some v1) (hm2:m "two"=some v2) (hm3:m "rows"=some (.ref D)) (hr1:r <= 100) (N:News h₀ L s.heap ((D,LCg.lst (ps.map TC.val))::R)) (hent:∀ c∈ps,c.ent∈R) (hps:ps.map TC.key=(List.range (r+1)).map (rowZ cs0 cs1 b0 b1 nt0 nt1)) (hdone:∀ h' tk m' Db Da Du (qb qa qu:List TC) R',Fr h₀ L h' m' -> m' "one"=some v1 -> m' "two"=some v2 -> m' "behind"=some (.ref Db) -> m' "ahead"=some (.ref Da) -> m' "unlike"=some (.ref Du) →
  News h₀ L h' R' -> (Db,LCg.lst (qb.map TC.val))∈R' -> (Da,LCg.lst (qa.map TC.val))∈R' -> (Du,LCg.lst (qu.map TC.val))∈R' -> (∀ p∈R,p∈R') -> (∀ c∈qb,c.ent∈R') -> (∀ c∈qa,c.ent∈R') -> (∀ c∈qu,c.ent∈R') →
  qb.map TC.key=witZ notLess cs0 cs1 b0 b1 nt0 nt1 (r+1) -> qa.map TC.key=witZ notLess cs1 cs0 b1 b0 nt1 nt0 (r+1) -> qu.map TC.key=witZ notSame cs0 cs1 b0 b1 nt0 nt1 (r+1) →
  wpAny (model rw_rw0127_01.row.prog w) (lawA L fa ccd) (execs (lawB.drop 16) (lawE L fa ccd)) Q E { s with heap:=h',toks:=tk }) (hE:PassesOwn (model rw_rw0127_01.row.prog w) (lawA L fa ccd) (lawE L fa ccd) E),wpAny (model rw_rw0127_01.row.prog w) (lawA L fa ccd) (execs (lawB.drop 13) (lawE L fa ccd)) Q E s
namespace e_law_wits
noncomputable abbrev Sd:=fun z:((((_×_×_)×_×_×_)×(_×_×_)×(_×_)×_×_)×((_×_×_)×_×_×_)×(_×_×_)×(_×_)×_×_)=>@S_law_wits z.1.1.1.1 z.1.1.1.2.1 z.1.1.1.2.2 z.1.1.2.1 z.1.1.2.2.1 z.1.1.2.2.2 z.1.2.1.1 z.1.2.1.2.1 z.1.2.1.2.2 z.1.2.2.1.1 z.1.2.2.1.2 z.1.2.2.2.1 z.1.2.2.2.2 z.2.1.1.1 z.2.1.1.2.1 z.2.1.1.2.2 z.2.1.2.1 z.2.1.2.2.1 z.2.1.2.2.2 z.2.2.1.1 z.2.2.1.2.1 z.2.2.1.2.2 z.2.2.2.1.1 z.2.2.2.1.2 z.2.2.2.2.1 z.2.2.2.2.2
@[irreducible] def κ:=pick (by k_extra "ne") Sd
def ps_:=κ.2.2.2.1.2
noncomputable abbrev Sc:=@S_law_wits κ.1.1.1.1 κ.1.1.1.2.1 κ.1.1.1.2.2 κ.1.1.2.1 κ.1.1.2.2.1 κ.1.1.2.2.2 κ.1.2.1.1 κ.1.2.1.2.1 κ.1.2.1.2.2 κ.1.2.2.1.1 κ.1.2.2.1.2 κ.1.2.2.2.1 κ.1.2.2.2.2 κ.2.1.1.1 κ.2.1.1.2.1 κ.2.1.1.2.2 κ.2.1.2.1 κ.2.1.2.2.1 κ.2.1.2.2.2 κ.2.2.1.1 κ.2.2.1.2.1 κ.2.2.1.2.2 κ.2.2.2.1.1 ps_ κ.2.2.2.2.1 κ.2.2.2.2.2
theorem core:Sc:=by
 unfold Sc S_law_wits
 intro B X T F hm1 hm2 hm3 hr1 N hent hps hdone hE;have e1':lawSc=lawSc:=rfl
 conv at e1'=>{ rhs;whnf }
 have e2':lawB.drop 13=lawB.drop 13:=rfl
 conv at e2'=>{ rhs;whnf }
 rw [e2']
 unfold lawA lawE at hdone hE ⊢
 rw [e1'] at hdone hE ⊢
 clear e1' e2';revert X;k_fill;intro X;have F0:Fr κ.1.2.1.2.2 κ.1.2.2.1.1 κ.1.2.2.1.2.heap (fun z=>if z=("rows":Str) then some (.ref κ.2.2.2.1.1) else κ.2.1.1.1 z):=fr_known F hm3
 have hpl:ps_.length <= 101:=by
  have e:=congrArg List.length hps
  simp only [List.length_map,List.length_range] at e
  omega
 have hent1:∀ c∈ps_,c.ent∈((κ.2.2.2.1.1,LCg.lst (ps_.map TC.val))::κ.2.2.2.2.1):=fun c hc=>.tail _ (hent c hc)
 clear F;k_steps;refine unhalt ?_;k_dflt (refine LCt.Assign_ListComp_T (F₀:=by k_asm) (by rfl) (by with_unfolding_all rfl) (by with_unfolding_all rfl) (by decide) (by rfl) (by decide) (by rfl) (by rfl) (by rfl) ?_)
 k_steps;refine unhalt ?_;k_dflt (refine' LCt.CompSrcT.ledger rfl F0 N (.head _) ?z (fun g=>restT_pure (l:=ps_) (fun c v=>v=c.val) (fun c y=>y=c.val) (fun c=>notLess c.key) (by simp) (fun i v hi hv=>tcs_at i v (by simpa using hi) hv) ?turn ?fin);(case z=>simp [sizeLine_eq];omega))
 case turn =>
  rintro c v I oI C oC D9 m₂ ys h tk E' hc rfl hC hx F' N' off ne
  have hcm:=hent1 c hc
  clear F0 N;k_steps
  ·exact (ce_mk (by assumption) (by assumption) off (src_led (n:=(ps_.map TC.val).length) (.head _)) ⟨decide_eq_true (by assumption),rfl,rfl⟩)
  ·exact (ce_mk (by assumption) (by assumption) off (src_led (n:=(ps_.map TC.val).length) (.head _)) ⟨decide_eq_false (by assumption),rfl⟩)
 case fin =>
  intro ys hp;clear F0 N;obtain rfl:=paired_tc (α:=Unit) hp
  clear hp;have kb:=filter_key (q:=notLess) ps_
  rw [hps] at kb
  generalize hqb:ps_.filter (fun c=>notLess c.key)=qb at kb ⊢
  have eb:∀ c∈qb,c.ent∈κ.2.2.2.2.1:=fun c hc=>hent c (by rw [<- hqb] at hc;exact (List.mem_filter.mp hc).1)
  k_steps;refine unhalt ?_;(rename Fr _ _ _ _=>F1);(rename News _ _ _ _=>N1);k_dflt (refine Assign_three F1 (by rfl) (by with_unfolding_all rfl) (by with_unfolding_all rfl) (by decide) (by rfl) (by decide) (by rfl) (by rfl) (by rfl) (by decide +kernel) (by decide +kernel) (by decide +kernel) (by rfl) (by rfl) ?_)
  k_steps;rename_i Db h7 tk7 o7;refine ⟨κ.2.2.2.1.1,(ps_.map TC.val).toArray,_,rfl,rfl,F1,N1,src_led (n:=(ps_.map TC.val).length) nx1,?z,fun g=>⟨RowsJ ((Db,LCg.lst (qb.map TC.val))::(κ.2.2.2.1.1,LCg.lst (ps_.map TC.val))::κ.2.2.2.2.1) (fun i=>(((ps_.take i).map TC.key).filter fun q=>notLess (flipK q)).map flipK),⟨[],rfl,(fun c hc=>nomatch hc),fun _ h=>h,rfl⟩,?turn,?fin⟩⟩
  case z=>simp [sizeLine_eq];omega
  case turn =>
   rintro i v ys nw hi hv ⟨qs,rfl,hqe,hsub,hqk⟩
   obtain ⟨c,hc,rfl⟩:=tcs_at i v (by simpa using hi) hv
   have hcm:c∈ps_:=List.mem_of_getElem? hc
   have hce:=hsub _ (.tail _ (.tail _ (hent c hcm)))
   have htk:ps_.take (i+1)=ps_.take i ++ [c]:=by rw [List.take_add_one,hc];rfl
   refine ⟨c.T,_,_,_,_,_,rfl,hce,rfl,rfl,?_⟩
   intro I oI C oC D9 m₂ h tk E' hC9 hx1 hx2 hx3 F' N' off ne;clear F1 N1;k_steps
   ·(rename Fr _ _ _ _=>F2);(rename News _ _ _ _=>N2);(rename _ /\ _ /\ _ /\ AllLt _ nw=>l9);(rename (_:Int) <= _=>h9)
    rename_i D8 h8;have hk:notLess (flipK c.key)=true:=decide_eq_true h9
    refine ⟨_,_,(⟨D8,c.a,c.c,c.b,c.ta,c.tc,c.tb⟩:TC).ent::nw,rfl,F2,fun p hp=>N2 p ?nn,⟨⟨Nat.ne_of_gt l9.1,Nat.ne_of_gt l9.2.1,Nat.ne_of_gt l9.2.2.1⟩,off⟩,src_led (n:=(ps_.map TC.val).length) (.tail _ (hsub _ nx1)),qs ++ [⟨D8,c.a,c.c,c.b,c.ta,c.tc,c.tb⟩],by simp,?e2,fun p hp=>.tail _ (hsub p hp),?e3⟩
    case nn =>
     simp only [List.mem_cons] at hp ⊢
     rcases hp with h | h | h | h | h
     ·simp [h]
     ·simp [h]
     ·simp [h]
     ·exact .inl h
     ·simp [h]
    case e2 =>
     intro c hc;rcases List.mem_append.mp hc with h | h
     ·exact .tail _ (hqe c h)
     ·rw [List.mem_singleton.mp h];exact .head _
    case e3 =>
     rw [List.map_append,hqk]
     dsimp only
     rw [htk,List.map_append,List.filter_append,List.map_append]
     congr 1
     show _=List.map flipK (List.filter _ [c.key])
     rw [List.filter_cons_of_pos (p:=fun q=>notLess (flipK q)) hk]
     rfl
   ·(rename ¬ (_:Int) <= _=>h9)
    have hk:notLess (flipK c.key)=false:=decide_eq_false h9
    refine ⟨_,_,nw,rfl,F',N',off,src_led (n:=(ps_.map TC.val).length) (hsub _ nx1),qs,rfl,hqe,hsub,?_⟩
    rw [hqk]
    dsimp only
    rw [htk,List.map_append,List.filter_append,List.map_append]
    show _=_ ++ List.map flipK (List.filter _ [c.key])
    rw [List.filter_cons_of_neg (by rw [hk];exact Bool.false_ne_true)]
    simp
  case fin =>
   rintro ys nw ⟨qs,rfl,hqe,hsub,hqk⟩
   rw [show (ps_.map TC.val).toArray.size=ps_.length by simp] at hqk
   dsimp only at hqk
   rw [List.take_length,hps,flip_rows] at hqk
   clear F1 N1 o7;k_steps;refine unhalt ?_;(rename Fr _ _ _ _=>F3);(rename News _ _ _ _=>N3);rename_i Da h9 tk9 o9;have mD:(κ.2.2.2.1.1,LCg.lst (ps_.map TC.val))∈((Da,LCg.lst (qs.map TC.val))::nw):=.tail _ (hsub _ nx1)
   have mR:∀ p∈κ.2.2.2.2.1,p∈((Da,LCg.lst (qs.map TC.val))::nw):=fun p hp=>.tail _ (hsub _ (.tail _ (.tail _ hp)))
   k_dflt (refine LCt.Assign_ListComp_T (F₀:=by k_asm) (by rfl) (by with_unfolding_all rfl) (by with_unfolding_all rfl) (by decide) (by rfl) (by decide) (by rfl) (by rfl) (by rfl) ?_)
   k_steps;refine unhalt ?_;k_dflt (refine' LCt.CompSrcT.ledger rfl F3 N3 mD ?z (fun g=>restT_pure (l:=ps_) (fun c v=>v=c.val) (fun c y=>y=c.val) (fun c=>notSame c.key) (by simp) (fun i v hi hv=>tcs_at i v (by simpa using hi) hv) ?turn ?fin);(case z=>simp [sizeLine_eq];omega))
   case turn =>
    rintro c v I oI C oC D9 m₂ ys h tk E' hc rfl hC hx F' N' off ne
    have hcm:=mR _ (hent c hc)
    clear F3 N3;k_steps
    ·exact (ce_mk (by assumption) (by assumption) off (src_led (n:=(ps_.map TC.val).length) mD) ⟨decide_eq_true (by assumption),rfl,rfl⟩)
    ·exact (ce_mk (by assumption) (by assumption) off (src_led (n:=(ps_.map TC.val).length) mD) ⟨decide_eq_false (by simpa using ‹_›),rfl⟩)
   case fin =>
    intro ys hp;clear F3 N3;obtain rfl:=paired_tc (α:=Unit) hp
    clear hp;have ku:=filter_key (q:=notSame) ps_
    rw [hps] at ku
    generalize hqu:ps_.filter (fun c=>notSame c.key)=qu at ku ⊢
    have eu:∀ c∈qu,c.ent∈κ.2.2.2.2.1:=fun c hc=>hent c (by rw [<- hqu] at hc;exact (List.mem_filter.mp hc).1)
    k_steps;refine unhalt ?_;(rename Fr _ _ _ _=>F4);(rename News _ _ _ _=>N4);rename_i Du h10 tk10 o10;refine hdone _ _ _ Db Da Du qb qs qu _ F4 ?n1 ?n2 ?n3 ?n4 (if_pos rfl) N4 (.tail _ (.tail _ (hsub _ (.head _)))) nx1 (.head _) (fun p hp=>.tail _ (mR p hp)) (fun c hc=>.tail _ (mR _ (eb c hc))) (fun c hc=>.tail _ (.tail _ (hqe c hc))) (fun c hc=>.tail _ (mR _ (eu c hc))) kb hqk ku
    case n1=>exact (if_neg (by decide +kernel)).trans ((if_neg (by decide +kernel)).trans ((if_neg (by decide +kernel)).trans ((if_neg (by decide +kernel)).trans hm1)))
    case n2=>exact (if_neg (by decide +kernel)).trans ((if_neg (by decide +kernel)).trans ((if_neg (by decide +kernel)).trans ((if_neg (by decide +kernel)).trans hm2)))
    case n3=>exact (if_neg (by decide +kernel)).trans ((if_neg (by decide +kernel)).trans (if_pos rfl))
    case n4=>exact (if_neg (by decide +kernel)).trans (if_pos rfl)
end e_law_wits
theorem law_wits {cs0 cs1:List Int} {b0 b1 nt0 nt1:Nat} {v1 v2:Value} {D:Addr} {ps:List TC} {R:List (Addr×Obj)} {r:Nat}:@S_law_wits w mean mg mb p loose fa ccd h₀ L s Q E m cs0 cs1 b0 b1 nt0 nt1 v1 v2 D ps R r:=@pick_all _ _ e_law_wits.Sd (by with_unfolding_all exact e_law_wits.core) ((((_,_,_),_,_,_),(_,_,_),(_,_),_,_),((_,_,_),_,_,_),(_,_,_),(_,_),_,_)
end
end
theorem reg48:True:=by
 w_top off
 k_with "M"=>skip
 k_with "n"=>fail_if_success k_extra "N"
 k_with "ite"=>(k_extra "n";k_here;with_reducible first | refine ite_p (by with_unfolding_all rfl) ?_ | refine ite_n (by with_unfolding_all exact Bool.false_ne_true) ?_)
 k_with "exec If"=>(k_extra "n";k_here;k_dflt (refine wpAny_If ?_))
 k_with "exec For"=>(k_extra "n";k_extra "hg")
 k_with "exec For Name Call cons nil"=>(k_extra "n";k_extra "hg")
 k_with "exec Assign cons ListComp"=>(k_extra "n";k_extra "hg")
 k_with "eval ListComp"=>(k_extra "n";k_extra "hg")
 k_with "CompSrc"=>(k_extra "n";k_extra "hg")
 k_with "subscriptTail Name Slice ref ref"=>(k_extra "n";k_extra "hg")
 k_with "call ref"=>(k_extra "n";k_extra "hg")
 k_with "call builtin:str.split"=>(k_extra "n";k_extra "hg")
 k_with "call builtin:list.append"=>(k_extra "n";k_extra "hg")
 k_with "binaryOp Mult str int"=>(k_extra "n";k_extra "hg")
 k_with "compareOp NotEq ref ref"=>(k_extra "n";k_extra "hg")
 k_with "compareOp Eq ref ref"=>(k_extra "n";k_extra "hg")
 k_with "subscriptTail"=>(k_extra "n";k_extra "hg")
 k_with "execs cons"=>(k_extra "n";k_here;(with_reducible show wpAny _ _ (execs (Stmt.For (Expr.Name (Str.ofString "t") _) _ _ _ _::_) _) _ _ _);with_reducible refine Halt.go ?_)
 k_with "binaryOp Add ref ref"=>(k_extra "n";k_extra "hg")
 k_with "call builtin:max"=>(k_extra "n";k_extra "hg")
 k_with "call builtin:len"=>(k_extra "n";k_here;k_dflt (refine' len_strT ?hz ?_;(case hz=>omega)))
 trivial
section
section
variable {w:World} {mean:ExcName -> Option Value} {mg mb:Str -> Option Value} {p:Program} {loose:List Str} {fa:Addr} {ccd:Value} {h₀:Heap} {L:Addr} {s:Shared} {Q:Flow -> Shared -> Prop} {E:Value -> Shared -> Prop} {m:Str -> Option Value}
noncomputable def S_law_long {lt lp ll lh:Addr} {d0 d1:SD} {ps qs:Array Value} {oe os:Obj} {R:List (Addr×Obj)}:Prop:=∀ (B:Below callerA h₀ [] h₀) (X:(KK w.params).In h₀) (T:Top p loose mean mg mb h₀) (F:Fr h₀ L s.heap m) (hm:Names lt lp lh m) (N:News h₀ L s.heap ((L+1+1+1+1,os)::(L+1+1+1+1+1,oe)::(140,tblO ps)::(147,tblO qs)::R)) (hC:Core w.params L lt lp ll lh d0 d1 R) (hoe:oe.data=.cell none) (hoff:∀ q∈R,q.1≠L+1+1+1+1 /\ q.1≠L+1+1+1+1+1 /\ q.1≠140 /\ q.1≠147) (h4:@Ne Nat 140 (L+1+1+1+1) /\ @Ne Nat 147 (L+1+1+1+1) /\ @Ne Nat 140 (L+1+1+1+1+1) /\ @Ne Nat 147 (L+1+1+1+1+1)) (hdone:∀ h' tk m' e0 e1 le r oe' R' tr,Fr h₀ L h' m' -> Names lt lp lh m' -> m' "longest"=some (.int ((r:Nat):Int) tr) -> (r:Int)=max (lgZ d0.cs d0.b) (lgZ d1.cs d1.b) -> r <= 100 -> oe'.data=.cell (some (.ref le)) →
  News h₀ L h' ((L+1+1+1+1,os)::(e0,W.listOf #[] 0)::(e1,W.listOf #[] 0)::(140,tblO ps)::(147,tblO qs)::R') -> Core w.params L lt lp ll lh d0 d1 R' -> (le,W.listOf #[.ref e0,.ref e1] 0)∈R' -> (L+1+1+1+1+1,oe')∈R' →
  (∀ q∈R',q.1≠L+1+1+1+1 /\ q.1≠e0 /\ q.1≠e1 /\ q.1≠140 /\ q.1≠147) -> @Ne Nat e0 e1 -> @Ne Nat e0 (L+1+1+1+1) -> @Ne Nat e1 (L+1+1+1+1) -> @Ne Nat 140 e0 -> @Ne Nat 147 e0 -> @Ne Nat 140 e1 -> @Ne Nat 147 e1 →
  wpAny (model rw_rw0127_01.row.prog w) (lawA L fa ccd) (execs (lawB.drop 9) (lawE L fa ccd)) Q E { s with heap:=h',toks:=tk }) (hE:PassesOwn (model rw_rw0127_01.row.prog w) (lawA L fa ccd) (lawE L fa ccd) E),wpAny (model rw_rw0127_01.row.prog w) (lawA L fa ccd) (execs (lawB.drop 7) (lawE L fa ccd)) Q E s
namespace e_law_long
noncomputable abbrev Sd:=fun z:((((_×_×_)×_×_×_)×(_×_×_)×_×_×_)×((_×_×_)×_×_×_)×(_×_×_)×(_×_)×_×_)=>@S_law_long z.1.1.1.1 z.1.1.1.2.1 z.1.1.1.2.2 z.1.1.2.1 z.1.1.2.2.1 z.1.1.2.2.2 z.1.2.1.1 z.1.2.1.2.1 z.1.2.1.2.2 z.1.2.2.1 z.1.2.2.2.1 z.1.2.2.2.2 z.2.1.1.1 z.2.1.1.2.1 z.2.1.1.2.2 z.2.1.2.1 z.2.1.2.2.1 z.2.1.2.2.2 z.2.2.1.1 z.2.2.1.2.1 z.2.2.1.2.2 z.2.2.2.1.1 z.2.2.2.1.2 z.2.2.2.2.1 z.2.2.2.2.2
@[irreducible] def κ:=pick (by k_extra "ne") Sd
def R_:=κ.2.2.2.2.2
noncomputable abbrev Sc:=@S_law_long κ.1.1.1.1 κ.1.1.1.2.1 κ.1.1.1.2.2 κ.1.1.2.1 κ.1.1.2.2.1 κ.1.1.2.2.2 κ.1.2.1.1 κ.1.2.1.2.1 κ.1.2.1.2.2 κ.1.2.2.1 κ.1.2.2.2.1 κ.1.2.2.2.2 κ.2.1.1.1 κ.2.1.1.2.1 κ.2.1.1.2.2 κ.2.1.2.1 κ.2.1.2.2.1 κ.2.1.2.2.2 κ.2.2.1.1 κ.2.2.1.2.1 κ.2.2.1.2.2 κ.2.2.2.1.1 κ.2.2.2.1.2 κ.2.2.2.2.1 R_
theorem core:Sc:=by
 unfold Sc S_law_long
 intro B X T F hm N hC hoe hoff h4 hdone hE;have e1:lawSc=lawSc:=rfl
 conv at e1=>{ rhs;whnf }
 have e2:lawB.drop 7=lawB.drop 7:=rfl
 conv at e2=>{ rhs;whnf }
 rw [e2]
 unfold lawA lawE at hdone hE ⊢
 rw [e1] at hdone hE ⊢
 clear e1 e2;revert X;k_fill;intro X;have F0:=hm.form F
 obtain ⟨n2,mp⟩:=hC.parts
 have m1:=hC.in0.parts
 have m2:=hC.in1.parts
 have c1:∀ q∈R_,q.1≠κ.1.2.2.1+1+1+1+1+1:=fun q hq=>(hoff q hq).2.1
 clear F;k_steps;refine unhalt ?_;k_dflt (refine LCg.ListComp_U (F₀:=by k_asm) (by with_unfolding_all rfl) (by decide) (by rfl) (by decide) (by rfl) ?_)
 have mR:∀ p∈R_,p∈((κ.1.2.2.1+1+1+1+1,κ.2.2.2.2.1)::(κ.1.2.2.1+1+1+1+1+1,κ.2.2.2.1.2)::(140,tblO κ.2.2.1.2.2)::(147,tblO κ.2.2.2.1.1)::R_):=by w_head
 k_steps;refine unhalt ?_;k_dflt (refine' item_pick (fun _ v=>v=.ref κ.2.2.1.1.P) ?N ?hm ?h0 ?hk ?hP ?_;(case N=>exact N);(case hm=>exact mR _ mp);(case h0=>decide);(case hk=>decide);(case hP=>exact ⟨_,rfl,rfl⟩))
 rintro v rfl
 k_steps;refine unhalt ?_;k_dflt (refine' item_pick (fun _ v=>v=.ref κ.2.2.1.2.1.P) ?N ?hm ?h0 ?hk ?hP ?_;(case N=>exact N);(case hm=>exact mR _ mp);(case h0=>decide);(case hk=>decide);(case hP=>exact ⟨_,rfl,rfl⟩))
 rintro v rfl
 k_steps;refine unhalt ?_;have el0:=congrArg List.length hC.ok0.parts
 have el1:=congrArg List.length hC.ok1.parts
 rw [List.length_map] at el0 el1
 have es0:=parts_sizes (hd:=κ.2.2.1.1.hd) (l:=κ.2.2.1.1.mt) (Nat.le_refl 1) (by have:=hC.ok0.len;have:=hC.ok0.hd;simp;omega)
 have es1:=parts_sizes (hd:=κ.2.2.1.2.1.hd) (l:=κ.2.2.1.2.1.mt) (Nat.le_refl 1) (by have:=hC.ok1.len;have:=hC.ok1.hd;simp;omega)
 k_dflt (refine' kmk_add_lit F0 N (list_in N (mR _ m1)) (list_in N (mR _ m2)) (zs:=strValues (κ.2.2.1.1.l ++ κ.2.2.1.2.1.l)) ?e ?_ ?z;(case e=>simp [strValues]);(case z=>simp [strValues,sizeLine_eq];omega))
 intro D h1 F1 N1 l1;have c2:∀ q∈R_,@Ne Nat q.1 D:=fun q hq=>Nat.ne_of_lt (l1 q (mR q hq))
 have c3:@Ne Nat (κ.1.2.2.1+1+1+1+1+1) D:=Nat.ne_of_lt (l1 _ nx1)
 k_steps;refine unhalt ?_;k_dflt (refine' LCg.CompSrc.ledger rfl F1 N1 (.head _) ?z (fun g=>rest_pure (l:=κ.2.2.1.1.l ++ κ.2.2.1.2.1.l) (fun a v=>v=.str a.1 a.2) (IsInt fun a=>((a.1.cps.size:Nat):Int)) (by simp [strValues]) (fun i v hi hv=>strs_at _ i v (by simpa [strValues] using hi) hv) ?turn ?fin);(case z=>simp [strValues,sizeLine_eq];omega))
 case turn =>
  rintro c v I oI C oC D9 m₂ ys h tk E' hc rfl hC9 hx F' N' off ne
  (try clear F0);(try clear F1);(try clear N);(try clear N1)
  have hsz:c.1.cps.size <= 900:=(List.mem_append.mp hc).elim (part_small hC.ok0 c) (part_small hC.ok1 c)
  k_steps;exact (ce_mk (by assumption) (by assumption) off (src_led (by k_mem)) ⟨rfl,_,rfl⟩)
 case fin =>
  intro ys hp;have hs:=ints_paired hp
  (try clear F0);(try clear F1);(try clear N);(try clear N1)
  k_steps;refine unhalt ?_;(rename Fr _ _ _ _=>F2);(rename News _ _ _ _=>N2);have p0:=parts_some hC.ok0
  k_dflt (refine' max_list_N rfl F2 N2 ⟨_,News.get N2 (.head _),rfl,_,rfl⟩ hs (by simp;omega) ?_)
  intro h3 M tM tk3 F3 N3 hM hMa;obtain ⟨r,rfl,hr,hr1⟩:=longest_is κ.2.2.1.1 κ.2.2.1.2.1 hC.ok0 hC.ok1 hM hMa
  try dsimp only
  clear F2 N2 hM hMa hs hp;k_steps;refine unhalt ?_;(rename Fr _ _ _ _=>F5);(rename News _ _ _ _=>N5);(rename _=Data.cell (some _)=>hce)
  (rename (_ /\ _ /\ _ /\ _ /\ _ /\ _ /\ _ /\ _ /\ AllLt _ R_)=>l3)
  (rename (_ /\ _ /\ _ /\ _ /\ _ /\ _ /\ _ /\ AllLt _ R_)=>l2)
  (rename (_ /\ _ /\ _ /\ _ /\ _ /\ _ /\ AllLt _ R_)=>l1')
  refine cA7 l1' ?_
  intro u1 u2 u3 u4 u5 u6 u7;clear l1';refine cA8 l2 ?_
  intro v0 v1 v2 v3 v4 v5 v6 v7;clear l2;refine cA9 l3 ?_
  intro w00 w0 w1 w2 w3 w4 w5 w6 w7;clear l3;have u8:=allLt_all u7
  have v8:=allLt_all v7
  have w8:=allLt_all w7
  refine cA4 h4 ?_
  intro x1 x2 x3 x4;clear h4;refine hdone _ _ _ _ _ _ r _ ((_,W.listOf #[.ref _,.ref _] 0)::(κ.1.2.2.1+1+1+1+1+1,_)::R_) tM F5 ((Names.formed κ.2.1.1.2.1).set (by decide +kernel) (by decide +kernel) (by decide +kernel)) (if_pos rfl) hr hr1 hce (fun p hp=>N5 p ?nn) (hC.mono fun p hp=>.tail _ (.tail _ hp)) (.head _) nx1 ?off (Nat.ne_of_lt v0) (Nat.ne_of_gt u3) (Nat.ne_of_gt v3) (Nat.ne_of_lt u5) (Nat.ne_of_lt u6) (Nat.ne_of_lt v5) (Nat.ne_of_lt v6)
  case nn =>
   revert p;w_head
  case off =>
   refine (fc ?_ (fc ?_ (fun q h=>?_)))
   ·exact ⟨Nat.ne_of_gt w3,Nat.ne_of_gt w0,Nat.ne_of_gt w00,Nat.ne_of_gt w5,Nat.ne_of_gt w6⟩
   ·exact ⟨Nat.succ_ne_self _,Nat.ne_of_lt u4,Nat.ne_of_lt v4,Ne.symm x3,Ne.symm x4⟩
   ·exact ⟨(hoff q h).1,Nat.ne_of_lt (u8 q h),Nat.ne_of_lt (v8 q h),(hoff q h).2.2.1,(hoff q h).2.2.2⟩
end e_law_long
theorem law_long {lt lp ll lh:Addr} {d0 d1:SD} {ps qs:Array Value} {oe os:Obj} {R:List (Addr×Obj)}:@S_law_long w mean mg mb p loose fa ccd h₀ L s Q E m lt lp ll lh d0 d1 ps qs oe os R:=@pick_all _ _ e_law_long.Sd (by with_unfolding_all exact e_law_long.core) ((((_,_,_),_,_,_),(_,_,_),_,_,_),((_,_,_),_,_,_),(_,_,_),(_,_),_,_)
end
end
section
section
variable {w:World} {mean:ExcName -> Option Value} {mg mb:Str -> Option Value} {p:Program} {loose:List Str} {fa:Addr} {ccd:Value} {h₀:Heap} {L:Addr} {s:Shared} {Q:Flow -> Shared -> Prop} {E:Value -> Shared -> Prop} {m₀:Str -> Option Value}
theorem code_tabs (P:Params):(KKp P).lookup 144=some h144 /\ (KKp P).lookup 151=some h151:=⟨by kernel_rfl,by kernel_rfl⟩
theorem old_tabs {P:Params} {h h':Heap} {ps qs:Array Value} (X:(KKp P).In h) (hk:∀ b o,(cutH h).get? b=some o -> h'.get? b=some o) (t1:h'.get? 140=some (tblO ps)) (t2:h'.get? 147=some (tblO qs)):OldK h h':=by
 obtain ⟨tb1,tb2,_⟩:=KKp_in X
 obtain ⟨c1,c2⟩:=code_tabs P
 refine ⟨fun b o e=>?_,fun b o e=>?_⟩
 ·by_cases h1:b=140
  ·subst h1
   rw [tb1] at e
   cases e
   exact .inr (.inl ⟨⟨144,_,_,X 144 _ c1,rfl,rfl,rfl⟩,rfl,#[],ps,rfl,by rw [t1,Array.empty_append]⟩)
  ·by_cases h2:b=147
   ·subst h2
    rw [tb2] at e
    cases e
    exact .inr (.inl ⟨⟨151,_,_,X 151 _ c2,rfl,rfl,rfl⟩,rfl,#[],qs,rfl,by rw [t2,Array.empty_append]⟩)
   ·exact .inl (hk b o (cut_up b o e h1 h2))
 ·by_cases h1:b=140
  ·subst h1;exact ⟨_,t1⟩
  ·by_cases h2:b=147
   ·subst h2;exact ⟨_,t2⟩
   ·exact ⟨o,hk b o (cut_up b o e h1 h2)⟩
theorem good_true {c:ClaimW} {cl:Str -> Option Addr} {mean:ExcName -> Option Value} {args:List WData} {s₁ s':Shared} (hn:∀ cls,c.raises args cls=false) (hp:c.post args (.bool true) args=true) (hk:OldK s₁.heap s'.heap) (hos:s'.os=s₁.os) (hg:AllBare s'.gens):GoodWG c cl mean args s₁ (.ok (.ret (.bool true))) s' :=
 ⟨.inl ⟨_,.bool true,[],rfl,hn,.bool _,hp,fun _=>⟨.nil,fun a h=>nomatch h⟩⟩,hk,hos,hg⟩
theorem in_filter {P:Params} {h:Heap} {led R:List (Addr×Obj)} {d:SD} {x:Addr} {o:Obj} (N:News h₀ L h led) (hx:(x,o)∈led) (ho:∃ v,o.data=.cell v) (hd:d.In P R) (hs:∀ p∈R,p∈led):d.In P (R.filter fun q=>q.1 != x):=by
 have key:∀ {a:Addr} {o':Obj},(a,o')∈R -> @Ne Nat a x -> (a,o')∈R.filter fun q=>q.1 != x:=fun h1 h2=>List.mem_filter.mpr ⟨h1,by simpa using h2⟩
 obtain ⟨wd,nm,ct,vs,t,tb,raw,h1,h2,h3,h4,h5,h6,h7,h8⟩:=hd.ws
 have o4:=new_off4 N (hs _ h1) (hs _ h2) (hs _ h3) (hs _ h4) hx (.inr (.inr (.inr ho)))
 refine ⟨key hd.parts (ne_led N (hs _ hd.parts) hx fun e=>?_),wd,nm,ct,vs,t,tb,raw,key h1 o4.1,key h2 o4.2.1,key h3 o4.2.2.1,key h4 o4.2.2.2,h5,h6,h7,h8⟩
 obtain ⟨v,hv⟩:=ho
 rw [<- e] at hv
 cases hv
theorem law_body {lt lp ll lh ln:Addr} {z0 z1:Int} {t0 t1:Tok} {ys:List Value} {ns:List Int} {nl:Nat} {oe os ol:Obj}
 (B:Below callerA h₀ [] h₀) (X:(KK w.params).In h₀) (T:Top p loose mean mg mb h₀)
 (F:Fr h₀ L s.heap (fun y=>if y=("texts":Str) then some (.ref lt) else if y=("parts":Str) then some (.ref lp) else if y=("heads":Str) then some (.ref lh) else if y=("numbers":Str) then some (.ref ln) else m₀ y))
 (N:News h₀ L s.heap ((L+1+1+1+1,os)::(lt,W.listOf #[] 0)::(lp,W.listOf #[] 0)::(ll,W.listOf #[] 0)::(140,tblO #[])::(147,tblO #[])::(lh,W.listOf #[.int z0 t0,.int z1 t1] 0)::(ln,W.listOf ys.toArray nl)::(L+1+1+1,ol)::(L+1+1+1+1+1,oe)::[]))
 (hol:ol.data=.cell (some (.ref ll))) (hos:os.data=.cell none) (hoe:oe.data=.cell none) (hg:AllBare s.gens)
 (hi:IntsAre ys ns) (hnl:ns.length=8) (hnb:∀ z∈ns,0 <= z /\ z < 1000000) (hz0:0 <= z0 /\ z0 < 2) (hz1:0 <= z1 /\ z1 < 2)
 (hca:∀ q∈((lt,W.listOf #[] 0)::(lp,W.listOf #[] 0)::(ll,W.listOf #[] 0)::(140,tblO #[])::(147,tblO #[])::(lh,W.listOf #[.int z0 t0,.int z1 t1] 0)::(ln,W.listOf ys.toArray nl)::(L+1+1+1,ol)::(L+1+1+1+1+1,oe)::[]:List (Addr×Obj)),q.1≠L+1+1+1+1)
 (hoff:∀ q∈((lh,W.listOf #[.int z0 t0,.int z1 t1] 0)::(ln,W.listOf ys.toArray nl)::(L+1+1+1,ol)::(L+1+1+1+1+1,oe)::[]:List (Addr×Obj)),q.1≠lt /\ q.1≠lp /\ q.1≠ll /\ q.1≠140 /\ q.1≠147)
 (hdis:@Ne Nat lt lp /\ @Ne Nat lt ll /\ @Ne Nat lp ll /\ @Ne Nat lt 140 /\ @Ne Nat lt 147 /\ @Ne Nat lp 140 /\ @Ne Nat lp 147 /\ @Ne Nat ll 140 /\ @Ne Nat ll 147)
 (hret:∀ h' tk g' m' ps' qs',Fr h₀ L h' m' -> AllBare g' -> h'.get? 140=some (tblO ps') -> h'.get? 147=some (tblO qs') -> Q (.ret (.bool true)) { s with heap:=h',toks:=tk,gens:=g' })
 (hE:PassesOwn (model rw_rw0127_01.row.prog w) (lawA L fa ccd) (lawE L fa ccd) E) :
 wpAny (model rw_rw0127_01.row.prog w) (lawA L fa ccd) (execs (lawB.drop 6) (lawE L fa ccd)) Q E s:=by
 have hdis':=hdis
 refine cA9 hdis' ?_
 intro x1 x2 x3 x4 x5 x6 x7 x8 x9;clear hdis';have e4:@Ne Nat 140 (L+1+1+1+1):=hca _ nx3
 have e5:@Ne Nat 147 (L+1+1+1+1):=hca _ nx4
 have e6:@Ne Nat 140 (L+1+1+1+1+1):=Ne.symm (hoff _ nx3).2.2.2.1
 have e7:@Ne Nat 147 (L+1+1+1+1+1):=Ne.symm (hoff _ nx3).2.2.2.2
 refine law_sides B X T F N hol hos hg hi hnl hnb hz0 hz1 hca hoff hdis (fun h' tk g' m' news' o' v' F1 ho1 N1 hoff1 hJ=>?_) hE
 obtain ⟨hg1,hov,ds,n1,n2,n3,ps,qs,rest,rfl,ht1,ht2,hdl,hdz,hsub,hrest,hds⟩:=hJ
 obtain ⟨d0,d1,rfl⟩:=two_list hdl
 obtain ⟨ok0,in0⟩:=hds d0 (.head _)
 obtain ⟨ok1,in1⟩:=hds d1 nx1
 have hz:(d0.hd:Int)=z0 /\ (d1.hd:Int)=z1:=by
  have h:[(d0.hd:Int),(d1.hd:Int)]=[z0,z1]:=hdz
  simp only [List.cons.injEq,and_true] at h
  exact h
 have mce:(L+1+1+1+1+1,oe)∈rest:=hsub _ nx3
 have hR:∀ q∈(lt,W.listOf ([d0,d1].map SD.txt).toArray n1)::(lp,W.listOf ([d0,d1].map fun d=>Value.ref d.P).toArray n2)::(ll,W.listOf ([d0,d1].map fun d=>Value.ref d.ws).toArray n3)::rest,q.1≠L+1+1+1+1 /\ q.1≠140 /\ q.1≠147:=by
  refine (fc ?_ (fc ?_ (fc ?_ (fun q h=>?_))))
  ·exact ⟨hoff1 _ (.head _),x4,x5⟩
  ·exact ⟨hoff1 _ nx1,x6,x7⟩
  ·exact ⟨hoff1 _ nx2,x8,x9⟩
  ·exact ⟨hoff1 q (by w_why),(hrest q h).2.2.2.1,(hrest q h).2.2.2.2⟩
 obtain ⟨R',hR'⟩:∃ R',R'=(lt,W.listOf ([d0,d1].map SD.txt).toArray n1)::(lp,W.listOf ([d0,d1].map fun d=>Value.ref d.P).toArray n2)::(ll,W.listOf ([d0,d1].map fun d=>Value.ref d.ws).toArray n3)::rest:=⟨_,rfl⟩
 rw [<- hR'] at hR
 have sN:∀ q∈R',q∈((L+1+1+1+1,o')::(lt,W.listOf ([d0,d1].map SD.txt).toArray n1)::(lp,W.listOf ([d0,d1].map fun d=>Value.ref d.P).toArray n2)::(ll,W.listOf ([d0,d1].map fun d=>Value.ref d.ws).toArray n3)::(140,tblO ps)::(147,tblO qs)::rest):=fun q hq=>by
  rw [hR'] at hq
  revert q;w_head
 have sr:∀ q∈rest,q∈R':=fun q hq=>by rw [hR'];w_why
 have m5:=sN _ (sr _ mce)
 have key:∀ {a:Addr} {o'':Obj},(a,o'')∈R' -> oe≠o'' -> (a,o'')∈R'.filter fun q=>q.1 != L+1+1+1+1+1:=fun h1 h2=>List.mem_filter.mpr ⟨h1,by simpa using ne_led N1 (sN _ h1) m5 (Ne.symm h2)⟩
 have lne:∀ {vs:Array Value} {n:Nat},oe≠W.listOf vs n:=fun e=>by rw [e] at hoe;cases hoe
 have hC:Core w.params L lt lp ll lh d0 d1 (R'.filter fun q=>q.1 != L+1+1+1+1+1):=by
  refine ⟨⟨t0,t1,0,?_⟩,⟨n1,?_⟩,⟨n2,?_⟩,⟨n3,?_⟩,⟨ol,?_,hol⟩,in_filter N1 m5 ⟨_,hoe⟩ (in0.mono sr) sN,in_filter N1 m5 ⟨_,hoe⟩ (in1.mono sr) sN,ok0,ok1⟩
  ·rw [hz.1,hz.2]
   exact key (sr _ (hsub _ (.head _))) lne
  ·exact key (by rw [hR'];exact .head _) lne
  ·exact key (by rw [hR'];exact .tail _ (.head _)) lne
  ·exact key (by rw [hR'];exact .tail _ nx1) lne
  ·exact key (sr _ (hsub _ nx2)) fun e=>by rw [e,hol] at hoe;cases hoe
 have nm1:Names lt lp lh m':=⟨(hov _ (by decide +kernel)).trans (if_pos rfl),(hov _ (by decide +kernel)).trans ((if_neg (by decide +kernel)).trans (if_pos rfl)),(hov _ (by decide +kernel)).trans ((if_neg (by decide +kernel)).trans ((if_neg (by decide +kernel)).trans (if_pos rfl)))⟩
 have N2:News h₀ L h' ((L+1+1+1+1,o')::(L+1+1+1+1+1,oe)::(140,tblO ps)::(147,tblO qs)::R'.filter fun q=>q.1 != L+1+1+1+1+1):=fc (N1 _ (.head _)) (fc (N1 _ m5) (fc (N1 _ nx4) (fc (N1 _ nx5) fun q h=>N1 _ (sN _ (List.mem_filter.mp h).1))))
 refine law_long B X T F1 nm1 N2 hC hoe (fun q hq=>⟨(hR q (List.mem_filter.mp hq).1).1,by simpa using (List.mem_filter.mp hq).2,(hR q (List.mem_filter.mp hq).1).2⟩) ⟨e4,e5,e6,e7⟩ ?_ hE
 clear hC N2 hR key sN m5 sr;intro h2 tk2 m2 e0 e1 le r oe' R2 tr F3 nm3 hlo3 hr hr1 hoe' N3 hC3 mle mce' hoff3 y1 y2 y3 y4 y5 y6 y7;refine law_ends B X T F3 nm3 hlo3 hr1 N3 ho1 hC3 hoe' mle mce' hoff3 ⟨y1,y2,y3,y4,y5,y6,y7,e4,e5⟩ ht1 ht2 hg1 ?_ hE
 intro h3 tk3 g3 m3 k0 k1 v0 v1 ps' qs' os' vos' F4 nm4 hlo4 hos' hg3 hv0 hv1 N4;have sR:∀ q∈R2,q∈((e0,W.listOf v0.toArray k0)::(e1,W.listOf v1.toArray k1)::(140,tblO ps')::(147,tblO qs')::R2):=fun q hq=>.tail _ (.tail _ (.tail _ (.tail _ hq)))
 have N5:News h₀ L h3 ((L+1+1+1+1,os')::(e0,W.listOf v0.toArray k0)::(e1,W.listOf v1.toArray k1)::(140,tblO ps')::(147,tblO qs')::R2):=N4
 have hC5:=hC3.mono sR
 refine law_sure B X T F4 hlo4 hr1 hr N5 hos' hC5 hoe' (sR _ mle) (sR _ mce') (.head _) nx1 hv0 hv1 ?_ ?_ hE
 ·refine (fc ?_ (fc ?_ (fc ?_ (fc ?_ (fun q h=>?_)))))
  ·exact y2
  ·exact y3
  ·exact e4
  ·exact e5
  ·exact (hoff3 q h).1
 intro h4 tk4 os4 vos4 F5 hos4 N6;have N7:News h₀ L h4 ((e0,W.listOf v0.toArray k0)::(e1,W.listOf v1.toArray k1)::(140,tblO ps')::(147,tblO qs')::R2):=fun q hq=>N6 q (.tail _ hq)
 refine law_rows B X T F5 hlo4 hr1 N7 hC5 hoe' (sR _ mle) (sR _ mce') (.head _) nx1 hv0 hv1 ?_ hE
 intro h5 tk5 m5 D tcs R5 F6 a1 a2 a3 N8 a4 a5 a6 a7;refine law_wits B X T F6 a1 a2 a3 hr1 N8 a6 a7 ?_ hE
 intro h6 tk6 m6 Db Da Du qb qa qu R6 F7 c1 c2 c3 c4 c5 N9 c6 c7 c8 c9 f1 f2 f3 k1' k2' k3';exact law_last B X T F7 c1 c2 c3 c4 c5 hr N9 ((hC5.mono a5).mono fun q hq=>c9 q hq) c6 c7 c8 f1 f2 f3 k1' k2' k3' (fun h7 tk7 m7 F8 N10=>hret h7 tk7 g3 m7 ps' qs' F8 hg3 (N10.get (c9 _ (a5 _ nx2))) (N10.get (c9 _ (a5 _ nx3)))) hE
theorem law_body' {lt lp ll lh ln:Addr} {z0 z1:Int} {t0 t1:Tok} {ys:List Value} {ns:List Int} {nl:Nat} {oe os ol:Obj} {A:Around} {env:Env} {body:List Stmt} {led:List (Addr×Obj)}
 (hA:A=lawA L fa ccd) (hv:env=lawE L fa ccd) (hb:body=lawB.drop 6)
 (hret:∀ h' tk g' m' ps' qs',Fr h₀ L h' m' -> AllBare g' -> h'.get? 140=some (tblO ps') -> h'.get? 147=some (tblO qs') -> Q (.ret (.bool true)) { s with heap:=h',toks:=tk,gens:=g' })
 (hE:PassesOwn (model rw_rw0127_01.row.prog w) A env E)
 (B:Below callerA h₀ [] h₀) (X:(KK w.params).In h₀) (T:Top p loose mean mg mb h₀)
 (F:Fr h₀ L s.heap (fun y=>if y=("texts":Str) then some (.ref lt) else if y=("parts":Str) then some (.ref lp) else if y=("heads":Str) then some (.ref lh) else if y=("numbers":Str) then some (.ref ln) else m₀ y))
 (N:News h₀ L s.heap led)
 (p0:(lt,W.listOf #[] 0)∈led) (p1:(lp,W.listOf #[] 0)∈led) (p2:(ll,W.listOf #[] 0)∈led) (p3:(lh,W.listOf #[.int z0 t0,.int z1 t1] 0)∈led) (p4:(ln,W.listOf ys.toArray nl)∈led)
 (p5:(140,tblO #[])∈led) (p6:(147,tblO #[])∈led) (p7:(L+1+1+1+1+1,oe)∈led) (p8:(L+1+1+1+1,os)∈led) (p9:(L+1+1+1,ol)∈led)
 (hol:ol.data=.cell (some (.ref ll))) (hos:os.data=.cell none) (hoe:oe.data=.cell none) (hg:AllBare s.gens)
 (hi:IntsAre ys ns) (hnl:ns.length=8) (hnb:∀ z∈ns,0 <= z /\ z < 1000000) (hz0:0 <= z0 /\ z0 < 2) (hz1:0 <= z1 /\ z1 < 2)
 (l1:@LT.lt Nat _ 140 L) (l2:@LT.lt Nat _ 147 L) (l3:@LT.lt Nat _ (L+1+1+1+1+1) lh) (l4:@LT.lt Nat _ ln lh) (k1:@Ne Nat 140 ln) (k2:@Ne Nat 147 ln) (k3:@Ne Nat (L+1+1+1+1) ln) (l5:@LT.lt Nat _ lh ll) (l6:@LT.lt Nat _ ll lp) (l7:@LT.lt Nat _ lp lt) :
 wpAny (model rw_rw0127_01.row.prog w) A (execs body env) Q E s:=by
 subst hA hv hb
 have q4:L+1+1+1+1 < lh:=Nat.lt_of_succ_lt l3
 have q3:=Nat.lt_of_succ_lt q4
 have q0:L < lh:=Nat.lt_of_succ_lt (Nat.lt_of_succ_lt (Nat.lt_of_succ_lt q3))
 have c1:=Nat.lt_trans l5 l6
 have c2:=Nat.lt_trans c1 l7
 have up:∀ {x k:Nat},x < L -> x≠L+k:=fun h=>Nat.ne_of_lt (Nat.lt_add_right _ h)
 have all:∀ {x:Nat},x < lh -> x≠lt /\ x≠lp /\ x≠ll:=fun h=>⟨neb c2 h,neb c1 h,neb l5 h⟩
 have a1:=all (Nat.lt_trans l1 q0)
 have a2:=all (Nat.lt_trans l2 q0)
 have with2:∀ {x:Nat},x < lh -> 140≠x -> 147≠x -> x≠lt /\ x≠lp /\ x≠ll /\ x≠140 /\ x≠147:=fun h k1 k2=>⟨neb c2 h,neb c1 h,neb l5 h,k1.symm,k2.symm⟩
 exact law_body (nl:=nl) (t0:=t0) (t1:=t1) B X T F (fun q hq=>N q (sub_c p8 (sub_c p0 (sub_c p1 (sub_c p2 (sub_c p5 (sub_c p6 (sub_c p3 (sub_c p4 (sub_c p9 (sub_c p7 sub_n))))))))) q hq)) hol hos hoe hg hi hnl hnb hz0 hz1
  (fc (neb c2 q4).symm (fc (neb c1 q4).symm (fc (neb l5 q4).symm (fc (up (k:=4) l1) (fc (up (k:=4) l2) (fc (Nat.ne_of_gt q4) (fc (Ne.symm k3) (fc (Nat.ne_of_lt (Nat.lt_succ_self _)) (fc (Nat.ne_of_gt (Nat.lt_succ_self _)) fn)))))))))
  (fc ⟨Nat.ne_of_lt c2,Nat.ne_of_lt c1,Nat.ne_of_lt l5,Nat.ne_of_gt (Nat.lt_trans l1 q0),Nat.ne_of_gt (Nat.lt_trans l2 q0)⟩ (fc (with2 l4 k1 k2) (fc (with2 q3 (up (k:=3) l1) (up (k:=3) l2)) (fc (with2 l3 (up (k:=5) l1) (up (k:=5) l2)) fn))))
  ⟨Nat.ne_of_gt l7,Nat.ne_of_gt (Nat.lt_trans l6 l7),Nat.ne_of_gt l6,a1.1.symm,a2.1.symm,a1.2.1.symm,a2.2.1.symm,a1.2.2.symm,a2.2.2.symm⟩ hret hE
end
end
theorem reg49:True:=by
 w_top off
 k_with "N"=>skip
 k_with "o"=>fail_if_success k_extra "O"
 k_with "ite"=>(k_extra "o";k_here;with_reducible first | refine ite_p (by with_unfolding_all rfl) ?_ | refine ite_n (by with_unfolding_all exact Bool.false_ne_true) ?_)
 k_with "exec If"=>(k_extra "o";k_here;k_dflt (refine wpAny_If ?_))
 k_with "exec For"=>(k_extra "o";k_extra "hg")
 k_with "exec For Name Call cons nil"=>(k_extra "o";k_extra "hg")
 k_with "execs cons"=>(k_extra "o";k_here;(with_reducible show wpAny _ _ (execs (Stmt.For (Expr.Name (Str.ofString "side") _) _ _ _ _::_) _) _ _ _);with_reducible refine Halt.go ?_)
 k_with "exec Assign cons ListComp"=>(k_extra "o";k_extra "hg")
 k_with "eval ListComp"=>(k_extra "o";k_extra "hg")
 k_with "CompSrc"=>(k_extra "o";k_extra "hg")
 k_with "eval Name"=>(k_extra "o";k_here;(with_reducible show wpAny _ _ (eval (Expr.Name (Str.ofString "sum") _) (compEnvC _ _ _ _)) _ _ _);k_dflt (refine LCgL.ld_built (by k_asm) (by k_asm) (by k_asm) (by k_is) (by boot_by_name) (by decide) ?_))
 k_with "subscriptTail Name Slice ref ref"=>(k_extra "o";k_extra "hg")
 trivial
section
theorem list_cut {h:Heap} {a:Addr} {vs:Array Value} (t1:h.get? 140=some (tblO #[])) (t2:h.get? 147=some (tblO #[])) (x:Heap.IsList h a vs):Heap.IsList (cutH h) a vs:=by
 obtain ⟨o,h1,hc,h2⟩:=x
 obtain ⟨n1,n2⟩:=off_tab t1 t2 h1 (fun e=>by
  rw [e] at hc
  cases hc)
 exact ⟨o,cut_up _ _ h1 n1 n2,hc,h2⟩
noncomputable abbrev hookT:Hook:=kHook KKp keysP keysP_eq
theorem leftT:LeftO pT qT looseT xtT (Hook.obs hookT) (Hook.val hookT) 30000 :=
 LeftO.of_pieces (H₁:=fun P=>absHeap (tree22 P) 368 {}) (gs₁:=Array.mk []) (d₁:={}) (k₁:=2620) (M:=stepsT) open0 size0 (fun w os=>runT w os) (by kernel_rfl)
  (fun w=>funext fun os=>looks_pair (look1 w os) (looks_pair (look2 w os) (look3p w os)))
noncomputable def seg_Z:PSigma fun P:World -> Shared -> Shared -> (Str -> Option Value) -> (Str -> Option Value) -> Addr -> Obj -> Value -> Value -> Addr -> Obj -> Addr -> Addr -> List Int -> List Addr -> List Addr -> Addr -> List Value -> List Addr -> Heap -> Nat -> Obj -> Obj -> Obj -> Obj -> Obj -> Prop=>(∀ a b c d e f g h i j k l m n o p q r s t u v w x y z,P a b c d e f g h i j k l m n o p q r s t u v w x y z) -> rw_rw0127_01.Holds:=⟨_,by
 intro hP;w_on
 refine holds_law said_w fun said=>?_
 refine holds_open (q:=qT) (loose:=looseT) (Xt:=xtT) (XP:=XL qT []) (Yf:=Hook.obs hookT) (Ya:=Hook.val hookT) (YP:=Hook.says hookT) (N:=30000) leftT (Hook.of hookT) (Hook.keeps hookT) (fun s e=>xl_of s (Bool.and_eq_true_iff.mp e).1) XL.keeps (by rfl) (by rfl) (by rfl) (fun s e=>recFacts_of (Bool.and_eq_true_iff.mp e).2) (by rfl) (by assumption) (by decide +kernel) ⟨rfl,rfl,rfl,rfl,rfl,by decide +kernel⟩ ?hw ?hc
 case hw=>w_witness2
 lge_go0
 (with_reducible rename LGe.Mark=>lgeM)
 clear lgeM;(rename Frag.In _ _=>X9);obtain ⟨tb1,tb2,Xc⟩:=KKp_in X9
 (rename Top _ _ _ _ _ _=>T9);have Tc:=top_law T9 X9
 (rename Fr _ _ _ _=>F9);have Fc:=fr_cut F9
 (rename News _ _ _ _=>N9);have Nc:=news_cut F9 N9 tb1 tb2 (Nat.ne_of_lt (Heap.lt_size (F9.keep _ _ tb1) |> fun _=>Heap.lt_size tb1)) (Nat.ne_of_lt (Heap.lt_size tb2))
 (rename Heap.IsList _ _ _=>hL9);have hLc:=list_cut tb1 tb2 hL9
 have hz1:@LT.lt Nat _ 140 _:=Heap.lt_size tb1
 have hz2:@LT.lt Nat _ 147 _:=Heap.lt_size tb2
 (rename Below _ _ _ _=>B9);have Bc:=below_cut (h:=(‹Shared›:Shared).heap)
 clear N9 F9 hL9 B9;rename_i oE oS oL oT oC rE rS rL rT rC rX;have rE':oE.data=Data.cell none:=by with_unfolding_all exact rE
 have rS':oS.data=Data.cell none:=by with_unfolding_all exact rS
 revert Xc;k_fill;intro Xc
 rename_i x1_Z x2_Z x3_Z x4_Z x5_Z x6_Z x7_Z x8_Z x9_Z x10_Z x11_Z x12_Z x13_Z x15_Z x16_Z x17_Z x19_Z x20_Z x21_Z x22_Z x23_Z x24_Z x25_Z x26_Z x27_Z x28_Z x29_Z x30_Z x31_Z x32_Z x33_Z x34_Z x35_Z x36_Z x37_Z x38_Z x39_Z x40_Z x41_Z x42_Z x43_Z x44_Z x45_Z x46_Z x47_Z x48_Z x49_Z;revert said x6_Z x7_Z x12_Z x13_Z X9 x15_Z x16_Z x17_Z T9 x19_Z x20_Z x21_Z x24_Z x27_Z x28_Z x30_Z x31_Z x32_Z x33_Z x34_Z x40_Z x41_Z x42_Z x43_Z x44_Z x45_Z x46_Z x47_Z rE rS rL rT rC rX tb1 tb2 Tc Fc Nc hLc hz1 hz2 Bc rE' rS' Xc
 exact hP x1_Z x2_Z x3_Z x4_Z x5_Z x8_Z x9_Z x10_Z x11_Z x22_Z x23_Z x25_Z x26_Z x29_Z x35_Z x36_Z x37_Z x38_Z x39_Z x48_Z x49_Z oE oS oL oT oC⟩
noncomputable def PZ:World -> Shared -> Shared -> (Str -> Option Value) -> (Str -> Option Value) -> Addr -> Obj -> Value -> Value -> Addr -> Obj -> Addr -> Addr -> List Int -> List Addr -> List Addr -> Addr -> List Value -> List Addr -> Heap -> Nat -> Obj -> Obj -> Obj -> Obj -> Obj -> Prop:=seg_Z.1
theorem useZ:(∀ a b c d e f g h i j k l m n o p q r s t u v w x y z,PZ a b c d e f g h i j k l m n o p q r s t u v w x y z) -> rw_rw0127_01.Holds:=seg_Z.2
noncomputable abbrev SZ:=fun z:((((World×Shared×Shared)×(Str -> Option Value)×(Str -> Option Value)×Addr)×(Obj×Value×Value)×(Addr×Obj)×Addr×Addr)×((List Int×List Addr×List Addr)×Addr×List Value×List Addr)×(Heap×Nat×Obj)×(Obj×Obj)×Obj×Obj)=>PZ z.1.1.1.1 z.1.1.1.2.1 z.1.1.1.2.2 z.1.1.2.1 z.1.1.2.2.1 z.1.1.2.2.2 z.1.2.1.1 z.1.2.1.2.1 z.1.2.1.2.2 z.1.2.2.1.1 z.1.2.2.1.2 z.1.2.2.2.1 z.1.2.2.2.2 z.2.1.1.1 z.2.1.1.2.1 z.2.1.1.2.2 z.2.1.2.1 z.2.1.2.2.1 z.2.1.2.2.2 z.2.2.1.1 z.2.2.1.2.1 z.2.2.1.2.2 z.2.2.2.1.1 z.2.2.2.1.2 z.2.2.2.2.1 z.2.2.2.2.2
@[irreducible] def σZ:=pick (by k_extra "ne") SZ
theorem test_Z:SZ σZ:=by
 intro said x6_Z x7_Z x12_Z x13_Z X9 x15_Z x16_Z x17_Z T9 x19_Z x20_Z x21_Z x24_Z x27_Z x28_Z x30_Z x31_Z x32_Z x33_Z x34_Z x40_Z x41_Z x42_Z x43_Z x44_Z x45_Z x46_Z x47_Z rE rS rL rT rC rX tb1 tb2 Tc Fc Nc hLc hz1 hz2 Bc rE' rS' Xc;k_steps;refine unhalt ?_;k_dflt (refine LCg.Assign_ListComp_U (F₀:=by k_asm) (by rfl) (by with_unfolding_all rfl) (by with_unfolding_all rfl) (by decide) (by rfl) (by decide) (by rfl) (by rfl) (by rfl) ?_)
 k_steps;refine unhalt ?_;(rename Fr _ _ _ _=>lF');(rename News _ _ _ _=>lN');(rename IsRange _ _ _ _ _ _ _ _=>lR');k_dflt (refine' LCg.CompSrc.range rfl lF' lN' lR' (by decide +kernel) (n:=8) (by decide +kernel) (by decide +kernel) (fun g=>rest_pure (l:=List.range 8) (fun k v=>∃ t,v=.int ((k:Nat):Int) t) (fun k y=>∃ z t,y=.int z t /\ 0 <= z /\ z < 1000000) (by simp) (fun i v hi hv=>⟨i,by simp [hi],by obtain ⟨t,e⟩:=hv;exact ⟨t,by rw [e,Int.zero_add]⟩⟩) ?turn ?fin))
 case turn =>
  rintro k v I oI C oQ D m₂ ys h tk E' hc ⟨t,rfl⟩ hC hx F' N' off ne
  have hk8:k < 8:=by simpa using hc
  clear lF' lN' lR';k_steps;refine unhalt ?_;rename Heap.IsList _ _ _=>hL9
  rename IntsAre _ _=>hI9
  (rename Fr _ _ _ _=>lF');(rename News _ _ _ _=>lN');k_dflt (refine' slice_list3 lF' lN' (Fr.lst lF' hL9) (IsPart.int _ _) (IsPart.int _ _) (IsPart.int _ _) (by decide) (fun h5 F5 N5=>?_) ?s ?t ?z;(case s=>with_unfolding_all rfl);(case t=>intro _;with_unfolding_all rfl);(case z=>rw [List.size_toArray,hI9.length,sizeLine_eq];omega))
  have i5:=IntsAre.pick hI9 (some ((k:Nat):Int)) (some 63) (some 8)
  clear lF' lN';refine ints_gen i5 N5 fun zl i5 N5=>?_
  k_steps;(rename Fr _ _ _ _=>kF9);(rename News _ _ _ _=>kN9);exact ⟨_,_,_,rfl,kF9,fun p hp=>kN9 p (List.mem_cons_of_mem _ hp),off,trivial,rfl,_,_,rfl,Int.fmod_nonneg_of_pos _ (by decide),Int.fmod_lt_of_pos _ (by decide)⟩
 case fin =>
  intro ys hp;clear lF' lN' lR';obtain ⟨ns,hns,hnl,hnb⟩:=ints_some hp
  have hnl:ns.length=8:=hnl
  clear hp;k_steps;refine unhalt ?_;(rename Fr _ _ _ _=>F5);(rename News _ _ _ _=>N5);refine law_body' (nl:=ys.length) (os:=σZ.2.2.2.1.1) (oe:=σZ.2.2.1.2.2) rfl rfl rfl ?ret ?pe Bc Xc Tc F5 N5 (.head _) nx1 nx2 nx3 nx4 nx6 nx7 nx8 nx9 nx10 ?hol rS' rE' ?hg hns hnl hnb ⟨Int.fmod_nonneg_of_pos _ (by decide),Int.fmod_lt_of_pos _ (by decide)⟩ ⟨Int.fmod_nonneg_of_pos _ (by decide),Int.fmod_lt_of_pos _ (by decide)⟩ hz1 hz2 ?l3 ?l4 ?q1 ?q2 ?q3 ?l5 ?l6 ?l7
  case pe=>passes_own
  case hol=>assumption
  case l3=>omega
  case l4=>omega
  case l5=>omega
  case q1=>omega
  case q2=>omega
  case q3=>omega
  case l6=>omega
  case l7=>omega
  case hg=>exact AllBare.of_eq (by assumption)
  case ret =>
   intro h' tk' g' m' ps' qs' F' hg' t1 t2;(try dsimp only);refine good_true (raisesW_false ?_) ?_ (old_tabs X9 F'.keep t1 t2) rfl hg'
   ·wrow_none_raised
   ·wrow_post
theorem allZ:SZ σZ -> ∀ z:((((World×Shared×Shared)×(Str -> Option Value)×(Str -> Option Value)×Addr)×(Obj×Value×Value)×(Addr×Obj)×Addr×Addr)×((List Int×List Addr×List Addr)×Addr×List Value×List Addr)×(Heap×Nat×Obj)×(Obj×Obj)×Obj×Obj),SZ z:=@pick_of _ σZ _ SZ (by delta σZ;with_reducible rfl)
theorem whole:rw_rw0127_01.Holds:=useZ fun a b c d e f g h i j k l m n o p q r s t u v w x y z=>by with_reducible exact allZ test_Z ((((a,b,c),d,e,f),(g,h,i),(j,k),l,m),((n,o,p),q,r,s),(t,u,v),(w,x),y,z)
end
end Mine
theorem PySem.Challenge.cw_rw0127_01_holds : PySem.Challenge.rw_rw0127_01.Holds :=
 Mine.whole
