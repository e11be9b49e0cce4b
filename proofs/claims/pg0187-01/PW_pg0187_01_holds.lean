import PyProof.Rows.All
import Wide.All
import OpenK.AllK
import Wide.FinOn
import PyProof.InstStoreFacts
import Lean
import PySem.Challenge.RW_pg0187_01
set_option Elab.async false
set_option linter.all false
set_option maxRecDepth 100000
set_option maxHeartbeats 4000000
set_option genSizeOf false
set_option genInjectivity true
set_option compiler.extract_closed false
section
namespace Mine
set_option genCtorIdx false
set_option genInjectivity false
inductive P | v (i:Nat) | k (n:Nat) | a (x y:P) | m (n:Nat) (x:P) | r (x:P) (n:Nat)
inductive R | l (x y:P) | s (x y:P) | e (x y:P) | g (x y:P) | t (x y:P) | h (x y:P) | f
set_option genCtorIdx true
set_option genInjectivity true
noncomputable def nt (i:Nat):List Nat→Nat:=Nat.rec (fun c=>c.headD 0) (fun _ f c=>f c.tail) i
noncomputable def P.d (c:List Nat) (p:P):Nat:=P.rec (fun i=>nt i c) (fun n=>n) (fun _ _ a b=>a+b) (fun n _ a=>n*a) (fun _ n a=>a*n) p
noncomputable def R.d (c:List Nat) (r:R):Prop:=R.rec (fun x y=>x.d c≤y.d c) (fun x y=>x.d c<y.d c) (fun x y=>x.d c=y.d c) (fun x y=>¬x.d c≤y.d c) (fun x y=>¬x.d c<y.d c) (fun x y=>¬x.d c=y.d c) False r
noncomputable def den (c:List Nat) (G:R) (H:List R):Prop:=List.rec (G.d c) (fun h _ p=>h.d c→p) H
noncomputable def vu (i:Nat):List Int:=Nat.rec [1] (fun _ v=>0::v) i
noncomputable def va (v:List Int):List Int→List Int:=List.rec (fun w=>w) (fun a _ f w=>(a+w.headD 0)::f w.tail) v
noncomputable def vs (n:Int) (v:List Int):List Int:=List.rec [] (fun a _ w=>(n*a)::w) v
noncomputable def P.w (p:P):List Int:=P.rec (fun i=>0::vu i) (fun n=>[(n:Int)]) (fun _ _ a b=>va a b) (fun n _ a=>vs n a) (fun _ n a=>vs n a) p
noncomputable def sd (x y:P):List Int:=va y.w (vs (-1) x.w)
noncomputable def se (x y:P):List Int:=va (sd x y) [-1]
noncomputable def R.w (r:R):List Int:=R.rec sd se sd (fun x y=>se y x) (fun x y=>sd y x) (fun _ _=>[]) [-1] r
noncomputable def R.n (r:R):List Int:=R.rec (fun x y=>se y x) (fun x y=>sd y x) (fun _ _=>[]) sd se (fun _ _=>[]) [] r
noncomputable def R.z (r:R) (d:Nat):Int:=R.rec (fun _ _=>d) (fun _ _=>d) (fun _ _=>bif Nat.ble 5 d then 5-(d:Int) else d) (fun _ _=>d) (fun _ _=>d) (fun _ _=>d) d r
noncomputable def hs (H:List R):Nat→List Int:=List.rec (fun _=>[]) (fun r _ f k=>va (vs (r.z (k%10)) r.w) (f (k/10))) H
noncomputable def npos (v:List Int):Bool:=List.rec true (fun a _ b=>decide (a≤0)&&b) v
noncomputable def fin (v:List Int):Bool:=decide (v.headD 0<0)&&npos v.tail
noncomputable def chk (k:Nat) (G:R) (H:List R):Bool:=fin (va (vs ((k%10:Nat):Int) G.n) (hs H (k/10)))
noncomputable def dot (v:List Int):List Nat→Int:=List.rec (fun _=>0) (fun a _ f c=>a*nt 0 c+f c.tail) v
noncomputable def ev (c:List Nat) (v:List Int):Int:=v.headD 0+dot v.tail c
theorem YTv (w:List Int) (c:List Nat):dot w c=w.headD 0*nt 0 c+dot w.tail c.tail:=by
 cases w with
 | nil=>exact (Int.add_zero _).symm.trans (congrArg (·+0) (Int.zero_mul _).symm)
 | cons=>rfl
theorem YUE (v:List Int):∀ (w:List Int) (c:List Nat),dot (va v w) c=dot v c+dot w c:=by
 induction v with
 | nil=>exact fun w c=>(Int.zero_add _).symm
 | cons a v ih=>
  intro w c
  rw [YTv w c]
  show (a+w.headD 0)*nt 0 c+dot (va v w.tail) c.tail=a*nt 0 c+dot v c.tail+_
  rw [ih,Int.add_mul,Int.add_assoc,Int.add_assoc,Int.add_left_comm (w.headD 0*nt 0 c)]
theorem YQX (c:List Nat) (v w:List Int):ev c (va v w)=ev c v+ev c w:=by
 cases v with
 | nil=>exact (Int.zero_add _).symm
 | cons a v=>
  show (a+w.headD 0)+dot (va v w.tail) c=(a+dot v c)+(w.headD 0+dot w.tail c)
  rw [YUE,Int.add_assoc,Int.add_assoc,Int.add_left_comm (w.headD 0)]
theorem YUS (n:Int) (v:List Int):∀ (c:List Nat),dot (vs n v) c=n*dot v c:=by
 induction v with
 | nil=>exact fun c=>(Int.mul_zero _).symm
 | cons a v ih=>exact fun c=>(congrArg (n*a*nt 0 c+·) (ih c.tail)).trans ((congrArg (·+_) (Int.mul_assoc ..)).trans (Int.mul_add ..).symm)
theorem YQW (n:Int) (c:List Nat) (v:List Int):ev c (vs n v)=n*ev c v:=by
 cases v with
 | nil=>exact (Int.mul_zero _).symm
 | cons a v=>exact (congrArg (n*a+·) (YUS n v c)).trans (Int.mul_add ..).symm
theorem YTb (i:Nat):∀ c:List Nat,dot (vu i) c=nt i c:=by
 induction i with
 | zero=>exact fun c=>(Int.add_zero _).trans (Int.one_mul _)
 | succ i ih=>exact fun c=>(congrArg (·+_) (Int.zero_mul _)).trans ((Int.zero_add _).trans (ih c.tail))
theorem YTe (c:List Nat) (x:P):ev c x.w=x.d c:=by
 induction x with
 | v i=>exact (Int.zero_add _).trans (YTb i c)
 | k n=>exact Int.add_zero _
 | a x y h g=>exact (YQX c x.w y.w).trans (by rw [h,g]; rfl)
 | m n x h=>exact (YQW n c x.w).trans (by rw [h]; rfl)
 | r x n h=>exact (YQW n c x.w).trans (by rw [h,Int.mul_comm]; rfl)
theorem YPV (c:List Nat) (x y:P):ev c (sd x y)=(y.d c:Int)-x.d c:=by
 rw [sd,YQX,YQW,YTe,YTe,Int.neg_mul,Int.one_mul]; rfl
theorem YTa (c:List Nat) (x y:P):ev c (se x y)=(y.d c:Int)-x.d c-1:=by
 rw [se,YQX,YPV]; rfl
theorem sd0 (c:List Nat) (x y:P) (h:x.d c≤y.d c):0≤ev c (sd x y):=by
 rw [YPV]; exact Int.sub_nonneg_of_le (Int.ofNat_le.2 h)
theorem se0 (c:List Nat) (x y:P) (h:x.d c<y.d c):0≤ev c (se x y):=by
 rw [YTa]; exact Int.sub_nonneg_of_le (Int.le_sub_left_of_add_le (Int.ofNat_le.2 h))
theorem R.n0 (c:List Nat) (r:R) (h:¬r.d c):0≤ev c r.n:=by
 cases r with
 | l x y=>exact se0 c y x (Nat.lt_of_not_le h)
 | s x y=>exact sd0 c y x (Nat.le_of_not_lt h)
 | g x y=>exact sd0 c x y (Classical.byContradiction h)
 | t x y=>exact se0 c x y (Classical.byContradiction h)
 | _=>exact Int.le_refl _
theorem nn (c:List Nat) (d:Nat) (v:List Int) (h:0≤ev c v):0≤ev c (vs d v):=by
 rw [YQW]; exact Int.mul_nonneg (Int.natCast_nonneg d) h
theorem YQj (c:List Nat) (r:R) (d:Nat) (h:r.d c):0≤ev c (vs (r.z d) r.w):=by
 cases r with
 | f=>exact h.elim
 | l x y=>exact nn c d _ (sd0 c x y h)
 | s x y=>exact nn c d _ (se0 c x y h)
 | g x y=>exact nn c d _ (se0 c y x (Nat.lt_of_not_le h))
 | t x y=>exact nn c d _ (sd0 c y x (Nat.le_of_not_lt h))
 | h x y=>exact Int.le_refl _
 | e x y=>rw [YQW]; show 0≤_*ev c (sd x y); rw [YPV,show x.d c=y.d c from h,Int.sub_self,Int.mul_zero]; exact Int.le_refl _
theorem YPr (v:List Int):∀ (c:List Nat),npos v=true→dot v c≤0:=by
 induction v with
 | nil=>exact fun c _=>Int.le_refl _
 | cons a v ih=>
  intro c h
  have h:=(Bool.and_eq_true _ _).mp h
  exact Int.add_le_add (Int.le_trans (Int.mul_le_mul_of_nonneg_right (of_decide_eq_true h.1) (Int.natCast_nonneg (nt 0 c))) (Int.le_of_eq (Int.zero_mul _))) (ih _ h.2)
theorem YMv (c:List Nat) (v:List Int) (h:fin v=true):ev c v<0:=by
 have h:=(Bool.and_eq_true _ _).mp h
 exact Int.add_lt_add_of_lt_of_le (of_decide_eq_true h.1) (YPr _ c h.2)
theorem YSG (c:List Nat) (G:R) (H:List R):∀ (k:Nat),((0≤ev c (hs H k))→G.d c)→den c G H:=by
 induction H with
 | nil=>exact fun k h=>h (Int.le_refl _)
 | cons r H ih=>exact fun k h hr=>ih (k/10) fun q=>h (by
   show 0≤ev c (va _ _)
   rw [YQX]; exact Int.add_nonneg (YQj c r _ hr) q)
theorem L {c:List Nat} {G:R} {H:List R} (k:Nat) (h:chk k G H=true):den c G H:=YSG c G H (k/10) fun q=>Classical.byContradiction fun n=>by
 have a:=YMv c _ h
 rw [YQX] at a
 exact absurd (Int.add_nonneg (nn c _ _ (R.n0 c G n)) q) (Int.not_le.mpr a)
theorem YUG (c:List Nat) (x y:P) (H:List R):den c (.l x y) H→den c (.l y x) H→den c (.e x y) H:=by
 induction H with
 | nil=>exact fun h g=>Nat.le_antisymm h g
 | cons r H ih=>exact fun h g q=>ih (h q) (g q)
theorem LE {c:List Nat} {x y:P} {H:List R} (k j:Nat) (h:chk k (.l x y) H=true) (g:chk j (.l y x) H=true):den c (.e x y) H:=YUG c x y H (L k h) (L j g)
section
variable {c:List Nat} {G:R} {H:List R}
theorem sp (x y t:P) (e:t.d c=x.d c-y.d c) (h1:den c G (.l y x::.e (.a t y) x::H)) (h2:den c G (.l x y::.e t (.k 0)::H)):den c G H:=
 (Nat.le_total (y.d c) (x.d c)).elim (fun q=>h1 q (show t.d c+y.d c=x.d c by rw [e]; exact Nat.sub_add_cancel q)) fun q=>h2 q (show t.d c=0 by rw [e]; exact Nat.sub_eq_zero_of_le q)
theorem mn (x y t:P) (e:t.d c=min (x.d c) (y.d c)) (h1:den c G (.l x y::.e t x::H)) (h2:den c G (.l y x::.e t y::H)):den c G H:=
 (Nat.le_total (x.d c) (y.d c)).elim (fun q=>h1 q (e.trans (Nat.min_eq_left q))) fun q=>h2 q (e.trans (Nat.min_eq_right q))
theorem mx (x y t:P) (e:t.d c=max (x.d c) (y.d c)) (h1:den c G (.l x y::.e t y::H)) (h2:den c G (.l y x::.e t x::H)):den c G H:=
 (Nat.le_total (x.d c) (y.d c)).elim (fun q=>h1 q (e.trans (Nat.max_eq_right q))) fun q=>h2 q (e.trans (Nat.max_eq_left q))
theorem dv (x q m:P) (n:Nat) (hn:0<n) (e:q.d c=x.d c/n) (e2:m.d c=x.d c%n) (h:den c G (.e (.a (.m n q) m) x::.s m (.k n)::H)):den c G H:=
 h (show n*q.d c+m.d c=x.d c by rw [e,e2]; exact Nat.div_add_mod ..) (show m.d c<n by rw [e2]; exact Nat.mod_lt _ hn)
theorem sn (x y:P) (h1:den c G (.s x y::H)) (h2:den c G (.s y x::H)):den c G (.h x y::H):=
 fun q=>(Nat.lt_or_gt_of_ne q).elim h1 h2
end
theorem gn {c:List Nat} {x y:P} {H:List R}:den c .f (.e x y::H)→den c (.h x y) H:=by
 induction H with
 | nil=>exact fun h=>h
 | cons r H ih=>exact fun h q=>ih fun e=>h e q
section
noncomputable def V0:P:=.v 0
noncomputable def V1:P:=.v 1
noncomputable def V2:P:=.v 2
noncomputable def V3:P:=.v 3
noncomputable def V4:P:=.v 4
noncomputable def V5:P:=.v 5
noncomputable def V6:P:=.v 6
noncomputable def V7:P:=.v 7
noncomputable def V8:P:=.v 8
noncomputable def V9:P:=.v 9
noncomputable def K0:P:=.k 0
noncomputable def K1:P:=.k 1
noncomputable def K2:P:=.k 2
noncomputable def K3:P:=.k 3
noncomputable def K4:P:=.k 4
noncomputable def K5:P:=.k 5
variable {a b d f g h:Nat}
theorem Ze0:den [a,b] (.l V1 V0) [.t V0 V1]:=L 11 rfl
theorem Ze1:den [a,b,(a-b)] (.e V0 V1) [.e V2 K0,.t V0 V1]:=sp V0 V1 V2 rfl (LE 1601 11 rfl rfl) (LE 11 10001 rfl rfl)
theorem Ze2:den [a,b] (.s (.a V0 (.k 64)) V1) [.s (.a V0 (.k 100)) V1]:=L 11 rfl
theorem Ze3:den [a,b] (.s V0 V1) [.s (.a V0 (.k 100)) V1]:=L 11 rfl
theorem Ze4:den [a,b,d] (.l (.a V0 V1) V2) [.l (.a V0 (.a V1 K1)) V2]:=L 11 rfl
theorem Ze5:den [a,b,d] (.s (.a V0 V1) V2) [.l (.a V0 (.a V1 K1)) V2]:=L 11 rfl
theorem Ze6:den [a] (.l (.a V0 K1) (.k 16777216)) [.l V0 (.k 1000000)]:=L 11 rfl
theorem Ze7:den [a,b,d] (.l V2 (.k 16777216)) [.l (.a V0 V1) (.k 1000000),.e V0 V2]:=L 611 rfl
theorem Ze8:den [a,b,d,f] (.l (.a V2 V3) (.a (.k 16777216) K1)) [.l (.a V0 V1) (.k 1000000),.e V0 V2,.e V1 V3]:=L 6611 rfl
theorem Ze9:den [a,b] (.l (.a V0 (.r V1 0)) (.k 16777216)) [.l V0 (.k 1000000)]:=L 11 rfl
theorem Ze10:den [a,b] (.l V0 V1) [.l (.a V0 K1) V1]:=L 11 rfl
theorem Ze11:den [a,b] (.e (.a (.a V0 V1) K1) (.a (.a V0 K1) V1)) []:=LE 1 1 rfl rfl
theorem Ze12:den [a,b] (.l V0 (.a V0 V1)) []:=L 1 rfl
theorem Ze13:den [a,b,d] (.l V1 V2) [.e V0 V1,.l V0 V2]:=L 161 rfl
theorem Ze14:den [a,b,d] (.s V0 V2) [.s V0 V1,.e V2 V1]:=L 611 rfl
theorem Ze15:den [a,b,d] (.l V0 V2) [.e V0 V1,.t V2 V1]:=L 111 rfl
theorem Ze16:den [a,b,d,(min b a)] (.e V3 V1) [.e V0 (.a V1 V2)]:=mn V1 V0 V3 rfl (LE 101 601 rfl rfl) (LE 111 6601 rfl rfl)
theorem Ze17:den [a,b,d] (.s (.a V0 (.k 100)) V2) [.l (.a (.a V0 (.m 10 V1)) (.k 200)) V2]:=L 11 rfl
theorem Ze18:den [a,b,d] (.l (.a V0 V2) (.k 900)) [.l (.a V0 V1) (.k 900),.l V2 V1]:=L 111 rfl
theorem Ze19:den [a,b] (.l (.a (.a V0 K1) V1) (.k 900)) [.l (.a V0 (.a V1 K1)) (.k 900)]:=L 11 rfl
theorem Ze20:den [a,b,d] (.l (.a (.a (.a V0 K3) (.m 10 V1)) (.k 200)) V2) [.l (.a (.a V0 (.m 10 (.a V1 K1))) (.k 200)) V2]:=L 11 rfl
theorem Ze21:den [a,b] (.s V0 (.k 1000)) [.l (.a V0 (.a V1 K1)) (.k 900)]:=L 11 rfl
theorem Ze22:den [a,b,(b-a)] (.e V1 (.a V0 V2)) [.l V0 V1]:=sp V1 V0 V2 rfl (LE 601 101 rfl rfl) (LE 11 1101 rfl rfl)
theorem Ze23:den [a,b,(a-b),(min 1 (a-b))] (.l V3 K1) []:=sp V0 V1 V2 rfl (mn K1 V2 V3 rfl (L 101 rfl) (L 111 rfl)) (mn K1 V2 V3 rfl (L 10010 rfl) (L 111 rfl))
theorem Ze24:den [a] (.h V0 (.k 7)) [.s V0 K5]:=gn (L 160 rfl)
theorem Ze25:den [a] (.h V0 K5) [.s V0 K5]:=gn (L 160 rfl)
theorem Ze26:den [a] (.h V0 (.k 6)) [.s V0 K5]:=gn (L 160 rfl)
theorem Ze27:den [a,b] (.l (.a V0 V1) (.k 900)) [.l (.a V0 (.a V1 K1)) (.k 900)]:=L 11 rfl
theorem Ze28:den [a,b,d] (.l (.a (.a (.a V0 K1) (.m 10 V1)) (.k 200)) V2) [.l (.a (.a V0 (.m 10 (.a V1 K1))) (.k 200)) V2]:=L 11 rfl
theorem Ze29:den [a,b] (.l V0 (.a V1 K1)) [.l V0 V1]:=L 11 rfl
theorem Ze30:den [a,b] (.l (.a V0 K1) (.a V1 K1)) [.l V0 V1]:=L 11 rfl
theorem Ze31:den [a,b] (.l V0 (.a (.k 16777216) K1)) [.l V0 (.a V1 K1),.l V1 (.k 1000)]:=L 111 rfl
theorem Ze32:den [] (.l K0 (.k 1000)) []:=L 1 rfl
theorem Ze33:den [] (.l (.a K0 K1) (.k 1000)) []:=L 1 rfl
theorem Ze34:den [] (.l (.a (.a K0 K1) K1) (.k 1000)) []:=L 1 rfl
theorem Ze35:den [] (.l (.a (.a (.a K0 K1) K1) K1) (.k 1000)) []:=L 1 rfl
theorem Ze36:den [a] (.s V0 (.k 1000)) [.l (.a V0 K4) (.k 900)]:=L 11 rfl
theorem Ze37:den [a] (.l V0 (.a (.a V0 K1) K1)) []:=L 1 rfl
theorem Ze38:den [a] (.l V0 (.a V0 K1)) []:=L 1 rfl
theorem Ze39:den [a] (.l V0 V0) []:=L 1 rfl
theorem Ze40:den [] (.l K2 K3) []:=L 1 rfl
theorem Ze41:den [a,b] (.l V1 V0) [.e (.a V0 K0) V1]:=L 61 rfl
theorem Ze42:den [a,b,d] (.s V0 V2) [.e (.a V0 (.a V1 K1)) V2]:=L 11 rfl
theorem Ze43:den [a,b,d] (.e (.a (.a V0 K1) V1) V2) [.e (.a V0 (.a V1 K1)) V2]:=LE 11 61 rfl rfl
theorem Ze44:den [a] (.e (.a K0 V0) V0) []:=LE 1 1 rfl rfl
theorem Ze45:den [a,b] (.e V0 V1) [.e (.a V0 K0) V1]:=LE 11 61 rfl rfl
theorem Ze46:den [a,b,d] (.s V2 V1) [.s V0 (.a V1 K1),.s V2 V0]:=L 111 rfl
theorem Ze47:den [] (.s K0 (.k 1000000000)) []:=L 1 rfl
theorem Ze49:den [] (.l K5 (.k 1000000)) []:=L 1 rfl
theorem Ze55:den [a,b] (.e (.a (.a V0 K1) V1) (.a V0 (.a V1 K1))) []:=LE 1 1 rfl rfl
theorem Ze56:den [a,b,d,(a-b),(min (a-b) a)] (.s V1 V0) [.e V4 (.a V2 K1)]:=sp V0 V1 V3 rfl (mn V3 V0 V4 rfl (L 610101 rfl) (L 610111 rfl)) (mn V3 V0 V4 rfl (L 610100 rfl) (L 610110 rfl))
theorem Ze57:den [a,b,(a-(b+1)),(a-b),((a-b)-1)] (.e V2 V4) []:=sp V0 (.a V1 K1) V2 rfl (sp V0 V1 V3 rfl (sp V3 K1 V4 rfl (LE 1060601 6010101 rfl rfl) (LE 1060011 101 rfl rfl)) (LE 1010 1010 rfl rfl)) (sp V0 V1 V3 rfl (sp V3 K1 V4 rfl (LE 1000001 110101 rfl rfl) (LE 1000001 101 rfl rfl)) (sp V3 K1 V4 rfl (LE 1000001 10010 rfl rfl) (LE 1000001 101 rfl rfl)))
theorem Ze58:den [a,b,d,(a-b),(min (a-b) a),((a-b)-1)] (.s V5 V0) [.e V4 (.a V2 K1)]:=sp V0 V1 V3 rfl (mn V3 V0 V4 rfl (sp V3 K1 V5 rfl (L 1101 rfl) (L 60011101 rfl)) (sp V3 K1 V5 rfl (L 1000101 rfl) (L 60010101 rfl))) (mn V3 V0 V4 rfl (L 610100 rfl) (L 610110 rfl))
theorem Ze59:den [a,b,d,(a-b),(min (a-b) a)] (.s K0 V3) [.e V4 (.a V2 K1)]:=sp V0 V1 V3 rfl (mn V3 V0 V4 rfl (L 600101 rfl) (L 600111 rfl)) (mn V3 V0 V4 rfl (L 600101 rfl) (L 600111 rfl))
theorem Ze60:den [a,b,(a-b),(min (a-b) a),((min (a-b) a)-1),(((min (a-b) a)-1)-0),((a-b)-1)] (.e V5 V6) []:=sp V0 V1 V2 rfl (mn V2 V0 V3 rfl (sp V3 K1 V4 rfl (sp V4 K0 V5 rfl (sp V2 K1 V6 rfl (LE 101010601 606060101 rfl rfl) (LE 101010011 101 rfl rfl)) (sp V2 K1 V6 rfl (LE 10001 606001101 rfl rfl) (LE 10001 101 rfl rfl))) (sp V4 K0 V5 rfl (sp V2 K1 V6 rfl (LE 1010001 600100101 rfl rfl) (LE 1010001 101 rfl rfl)) (sp V2 K1 V6 rfl (LE 10001 600100101 rfl rfl) (LE 10001 101 rfl rfl)))) (sp V3 K1 V4 rfl (sp V4 K0 V5 rfl (sp V2 K1 V6 rfl (LE 111010601 10606060101 rfl rfl) (LE 111010011 101 rfl rfl)) (sp V2 K1 V6 rfl (LE 10001 10606001101 rfl rfl) (LE 10001 101 rfl rfl))) (sp V4 K0 V5 rfl (sp V2 K1 V6 rfl (LE 1010001 10600100101 rfl rfl) (LE 1010001 101 rfl rfl)) (sp V2 K1 V6 rfl (LE 10001 10600100101 rfl rfl) (LE 10001 101 rfl rfl))))) (mn V2 V0 V3 rfl (sp V3 K1 V4 rfl (LE 1010010 1010010 rfl rfl) (sp V4 K0 V5 rfl (sp V2 K1 V6 rfl (LE 1010001 10000000010 rfl rfl) (LE 1010001 101 rfl rfl)) (sp V2 K1 V6 rfl (LE 10001 10000000010 rfl rfl) (LE 10001 101 rfl rfl)))) (sp V3 K1 V4 rfl (LE 1011010 1011010 rfl rfl) (sp V4 K0 V5 rfl (sp V2 K1 V6 rfl (LE 1010001 10000000010 rfl rfl) (LE 1010001 101 rfl rfl)) (sp V2 K1 V6 rfl (LE 10001 10000000010 rfl rfl) (LE 10001 101 rfl rfl)))))
theorem Ze61:den [a,b,d,(a-b),(min (a-b) a),((a-b)-1)] (.s V5 V3) [.e V4 (.a V2 K1)]:=sp V0 V1 V3 rfl (mn V3 V0 V4 rfl (sp V3 K1 V5 rfl (L 101 rfl) (L 60010101 rfl)) (sp V3 K1 V5 rfl (L 101 rfl) (L 60011101 rfl))) (mn V3 V0 V4 rfl (L 610100 rfl) (L 610110 rfl))
theorem Ze62:den [a,b,(a-(b+1)),(a-b),(min (a-b) a),((min (a-b) a)-1),(min ((min (a-b) a)-1) (a-b))] (.e V2 V6) []:=sp V0 (.a V1 K1) V2 rfl (sp V0 V1 V3 rfl (mn V3 V0 V4 rfl (sp V4 K1 V5 rfl (mn V5 V3 V6 rfl (LE 10606060601 60101010101 rfl rfl) (LE 1010010 1010010 rfl rfl)) (mn V5 V3 V6 rfl (LE 10606001001 10101 rfl rfl) (LE 10600000601 10111 rfl rfl))) (sp V4 K1 V5 rfl (mn V5 V3 V6 rfl (LE 10006060601 60101110101 rfl rfl) (LE 10600000601 1110010 rfl rfl)) (mn V5 V3 V6 rfl (LE 10006001001 10101 rfl rfl) (LE 10600000601 10111 rfl rfl)))) (LE 1010 1010 rfl rfl)) (sp V0 V1 V3 rfl (mn V3 V0 V4 rfl (sp V4 K1 V5 rfl (mn V5 V3 V6 rfl (LE 10000000001 1101010101 rfl rfl) (LE 1010010 1010010 rfl rfl)) (mn V5 V3 V6 rfl (LE 10000000001 10101 rfl rfl) (LE 10000000001 10111 rfl rfl))) (sp V4 K1 V5 rfl (mn V5 V3 V6 rfl (LE 10000000001 1101110101 rfl rfl) (LE 10000000001 1110010 rfl rfl)) (mn V5 V3 V6 rfl (LE 10000000001 10101 rfl rfl) (LE 10000000001 10111 rfl rfl)))) (mn V3 V0 V4 rfl (sp V4 K1 V5 rfl (LE 1010010 1010010 rfl rfl) (mn V5 V3 V6 rfl (LE 10000000001 10101 rfl rfl) (LE 10000000001 100000101 rfl rfl))) (sp V4 K1 V5 rfl (LE 1011010 1011010 rfl rfl) (mn V5 V3 V6 rfl (LE 10000000001 10101 rfl rfl) (LE 10000000001 100000101 rfl rfl)))))
theorem Ze63:den [a,b,(a-b),(min (a-b) a)] (.l V3 (.k 1000000)) [.l V0 (.k 1000)]:=sp V0 V1 V2 rfl (mn V2 V0 V3 rfl (L 100111 rfl) (L 100101 rfl)) (mn V2 V0 V3 rfl (L 10101 rfl) (L 100101 rfl))
theorem Ze64:den [a,b] (.s V0 (.k 1000000000)) [.s V0 V1,.l V1 (.k 1000)]:=L 111 rfl
theorem Ze65:den [a,b,d,(min b d),(min ((min b d)+2) (d+a)),(min b (d+2)),(min ((min b (d+2))+2) (d+a))] (.e V4 V6) [.l V0 K2]:=mn V1 V2 V3 rfl (mn (.a V3 K2) (.a V2 V0) V4 rfl (mn V1 (.a V2 K2) V5 rfl (mn (.a V5 K2) (.a V2 V0) V6 rfl (LE 101060601 606010101 rfl rfl) (LE 1100601 606010111 rfl rfl)) (LE 100010 100010 rfl rfl)) (mn V1 (.a V2 K2) V5 rfl (mn (.a V5 K2) (.a V2 V0) V6 rfl (LE 101160601 6000111 rfl rfl) (LE 1000601 6000101 rfl rfl)) (LE 100010 100010 rfl rfl))) (mn (.a V3 K2) (.a V2 V0) V4 rfl (mn V1 (.a V2 K2) V5 rfl (mn (.a V5 K2) (.a V2 V0) V6 rfl (LE 111060601 1606000111 rfl rfl) (LE 1100601 1606000101 rfl rfl)) (mn (.a V5 K2) (.a V2 V0) V6 rfl (LE 1000060010 1000060010 rfl rfl) (LE 1100601 1606000101 rfl rfl))) (mn V1 (.a V2 K2) V5 rfl (mn (.a V5 K2) (.a V2 V0) V6 rfl (LE 1011060601 6000111 rfl rfl) (LE 1000601 6000101 rfl rfl)) (mn (.a V5 K2) (.a V2 V0) V6 rfl (LE 1000060010 6000111 rfl rfl) (LE 1000601 6000101 rfl rfl))))
theorem Ze68:den [a,b] (.s V0 V1) [.h V0 V1,.s V0 (.a V1 K1)]:=sn _ _ (L 11 rfl) (L 110 rfl)
theorem Ze70:den [a,b,d] (.s V0 V2) [.s V0 V1,.e V1 V2]:=L 111 rfl
theorem Ze72:den [a,b] (.l (.a V0 K1) V1) [.s V0 V1]:=L 11 rfl
theorem Ze74:den [] (.l K2 (.k 1000000)) []:=L 1 rfl
theorem Ze75:den [a] (.l V0 (.k 100)) [.l V0 (.k 30)]:=L 11 rfl
theorem Ze76:den [a,b] (.l V1 V0) [.g V0 V1]:=L 11 rfl
theorem Ze77:den [a] (.l K0 V0) []:=L 1 rfl
theorem Ze80:den [a,b,(a-b)] (.l V2 (.k 20)) [.l V0 (.k 20)]:=sp V0 V1 V2 rfl (L 1101 rfl) (L 101 rfl)
theorem Ze81:den [a,b,(a-b),(min (a-b) a)] (.l V3 (.k 30)) [.l V0 (.k 20)]:=sp V0 V1 V2 rfl (mn V2 V0 V3 rfl (L 100111 rfl) (L 100101 rfl)) (mn V2 V0 V3 rfl (L 10101 rfl) (L 100101 rfl))
theorem Ze82:den [a] (.s V0 (.k 10)) [.l V0 (.k 9)]:=L 11 rfl
theorem Ze83:den [a,b,d] (.l (.a (.a V2 K1) V0) (.m 6 (.a V1 K1))) [.l V0 (.m 6 V1),.l V2 K5]:=L 111 rfl
theorem Ze84:den [] (.l (.a K0 K1) (.k 64)) []:=L 1 rfl
theorem Ze85:den [a,b] (.l V0 (.k 1048576)) [.l V0 (.m 6 V1),.l V1 K5]:=L 611 rfl
theorem Ze86:den [a,b,d,(max a b)] (.l V0 V2) [.l V3 V2]:=mx V0 V1 V3 rfl (L 1611 rfl) (L 1601 rfl)
theorem Ze87:den [a,b,d,(max a b)] (.l V1 V2) [.l V3 V2]:=mx V0 V1 V3 rfl (L 1601 rfl) (L 1611 rfl)
theorem Ze88:den [a,b,d,f] (.l (.a V0 V2) (.a V3 (.m 1 V1))) [.l V0 V1,.l V2 V3]:=L 111 rfl
theorem Ze90:den [a,b] (.l V1 (.k 1000000)) [.l V0 K3,.l V1 V0]:=L 111 rfl
theorem Ze91:den [] (.s K1 (.k 1000000000)) []:=L 1 rfl
theorem Ze92:den [a,b] (.l (.a K1 V0) V1) [.s V0 V1]:=L 11 rfl
theorem Ze93:den [] (.l K1 (.k 1000000)) []:=L 1 rfl
theorem Ze95:den [a,b] (.s (.a V0 K1) (.a V1 K1)) [.s V0 V1]:=L 11 rfl
theorem Ze96:den [] (.l K0 (.k 1000000)) []:=L 1 rfl
theorem Ze106:den [a,b,d,(min b d)] (.l V0 V1) [.l V0 V3]:=mn V1 V2 V3 rfl (L 1101 rfl) (L 1111 rfl)
theorem Ze107:den [a,b,d,(min b d)] (.l V0 V2) [.l V0 V3]:=mn V1 V2 V3 rfl (L 1111 rfl) (L 1101 rfl)
theorem Ze108:den [a] (.l V0 (.k 16)) [.s V0 K5]:=L 11 rfl
theorem Ze109:den [a,b] (.l V0 (.k 1000000)) [.s V0 V1,.l V1 (.k 100)]:=L 111 rfl
theorem Ze110:den [a,b] (.s V0 (.k 1000000000)) [.s V0 V1,.l V1 (.k 100)]:=L 111 rfl
theorem Ze111:den [a,b] (.s V1 V0) [.e V0 (.k 6),.l V1 K5]:=L 161 rfl
theorem Ze112:den [a] (.l V0 (.k 100)) [.e V0 (.k 6)]:=L 11 rfl
theorem Ze113:den [] (.l (.k 6) (.k 1000000)) []:=L 1 rfl
theorem Ze114:den [a,b] (.l V0 (.k 16)) [.s V0 V1,.l V1 K3]:=L 111 rfl
theorem Ze115:den [a,b] (.l V1 K3) [.l V0 K3,.l V1 V0]:=L 111 rfl
theorem Ze116:den [a] (.s V0 (.k 1000000000)) [.l V0 K3]:=L 11 rfl
theorem Ze117:den [a,b] (.l V1 (.k 1000000)) [.l V0 (.k 100),.l V1 V0]:=L 111 rfl
theorem Ze118:den [a,b] (.l V0 (.k 100)) [.s V0 V1,.l V1 (.k 8)]:=L 111 rfl
theorem Ze119:den [] (.l K4 (.k 1000000)) []:=L 1 rfl
theorem Ze120:den [a] (.l V0 (.k 16)) [.l V0 K3]:=L 11 rfl
theorem Ze121:den [a] (.l V0 (.a V0 K4)) []:=L 1 rfl
theorem Ze122:den [a,b] (.l V0 (.k 1000)) [.e V0 V1,.l V1 K3]:=L 111 rfl
theorem Ze123:den [a,b,d] (.e V0 V2) [.e V0 V1,.e V2 V1]:=LE 611 161 rfl rfl
theorem Ze124:den [a,b] (.l V1 (.k 8)) [.l V0 (.k 8),.l V1 V0]:=L 111 rfl
theorem Ze125:den [a,b,d,f] (.l (.a V0 V2) (.a V3 V1)) [.l V0 V1,.l V2 V3]:=L 111 rfl
theorem Ze126:den [a,b] (.l V0 (.k 64)) [.l V0 (.r V1 8),.l V1 (.k 8)]:=L 811 rfl
theorem Ze127:den [a] (.l V0 K3) [.s V0 K4]:=L 11 rfl
theorem Ze128:den [a,b] (.l V0 (.m 64 V1)) [.l V0 (.r V1 64)]:=L 11 rfl
theorem Ze129:den [] (.s K5 (.k 6)) []:=L 1 rfl
theorem Ze130:den [a,b,d] (.s (.a V1 V0) (.a V1 (.a (.a K5 K1) V2))) [.s V0 K5]:=L 11 rfl
theorem Ze131:den [a,b,d] (.e V1 V2) [.s V0 K0]:=LE 10 10 rfl rfl
theorem Ze132:den [a,b] (.s V1 K5) [.s V0 K5,.s V1 V0]:=L 111 rfl
theorem Ze133:den [a,b] (.e K0 V1) [.s V0 K0]:=LE 10 10 rfl rfl
theorem Ze134:den [a] (.l V0 (.a V0 K5)) []:=L 1 rfl
theorem Ze135:den [a,b,d] (.l (.a V2 V0) (.m 2 (.a V1 K1))) [.l V0 (.m 2 V1),.l V2 K2]:=L 111 rfl
theorem Ze141:den [a,b,d] (.l V1 V2) [.l K1 V0,.l V0 K0]:=L 110 rfl
theorem Ze142:den [a,b,(min a b)] (.l V2 V1) []:=mn V0 V1 V2 rfl (L 111 rfl) (L 101 rfl)
theorem Ze143:den [a,b] (.l V0 V1) [.h V0 (.a V1 K1),.l V0 (.a V1 K1)]:=sn _ _ (L 11 rfl) (L 110 rfl)
theorem Ze144:den [a,b,d,(min a d)] (.l V3 V1) [.l V0 V1]:=mn V0 V2 V3 rfl (L 1101 rfl) (L 1111 rfl)
theorem Ze145:den [a] (.l K1 (.a V0 K1)) []:=L 1 rfl
theorem Ze146:den [a] (.l (.a V0 K1) (.a V0 K1)) []:=L 1 rfl
theorem Ze147:den [a] (.l V0 (.k 31)) [.s V0 (.k 32)]:=L 11 rfl
theorem Ze148:den [a,b] (.l V0 (.m 2 (.k 9))) [.e V0 V1,.l V1 (.k 9)]:=L 111 rfl
theorem Ze149:den [a,b] (.l V0 V1) [.e V0 V1]:=L 11 rfl
theorem Ze150:den [a,(a-1)] (.s V1 (.k 31)) [.l V0 (.k 31)]:=sp V0 K1 V1 rfl (L 1101 rfl) (L 101 rfl)
theorem Ze151:den [a,(a-1)] (.e (.a V1 K1) V0) [.l K1 V0]:=sp V0 K1 V1 rfl (LE 101 601 rfl rfl) (LE 1101 11 rfl rfl)
theorem Ze152:den [a,b,(min (a+1) b)] (.e V2 (.a V0 K1)) [.s V0 K5,.e V1 K5]:=mn (.a V0 K1) V1 V2 rfl (LE 101 601 rfl rfl) (LE 111 61601 rfl rfl)
theorem Ze153:den [a,b] (.s (.a V0 K1) V1) [.s (.a V0 K1) K5,.e V1 K5]:=L 611 rfl
theorem Ze154:den [a,b] (.s K0 V0) [.e V0 (.a V1 K1)]:=L 61 rfl
theorem Ze155:den [a,b,d,f] (.l V3 V2) [.e V0 (.k 9),.l V0 V1,.e V2 V1,.l V3 (.k 9)]:=L 16161 rfl
theorem Ze156:den [a,b,d,f] (.l V1 V3) [.e V0 V1,.l V0 V2,.e V3 V2]:=L 6161 rfl
theorem Ze157:den [a] (.e (.a V0 K1) K5) [.l K5 (.a V0 K1),.s V0 K5]:=LE 101 11 rfl rfl
theorem Ze158:den [a] (.l V0 K5) [.e V0 K5]:=L 11 rfl
theorem Ze159:den [a,b] (.l V1 V0) [.e V0 V1]:=L 61 rfl
theorem Ze160:den [a,b,d] (.e (.a (.a V0 (.a K0 K1)) V2) K5) [.e (.a V0 V1) K5,.e V1 (.a V2 K1)]:=LE 611 161 rfl rfl
theorem Ze161:den [a,b,d] (.l V0 (.a V1 V2)) [.l V0 V1]:=L 11 rfl
theorem Ze162:den [a,b,d,(6-b)] (.s V2 V0) [.e V0 (.a V3 V2),.l V1 K5]:=sp (.k 6) V1 V3 rfl (L 16601 rfl) (L 10010 rfl)
theorem Ze163:den [a,b,d,f,(6-(b+1)),(6-b)] (.s V0 V3) [.e V0 (.a V4 V2),.l V1 K5,.e V3 (.a V5 V2)]:=sp (.k 6) (.a V1 K1) V4 rfl (sp (.k 6) V1 V5 rfl (L 60110601 rfl) (L 1010 rfl)) (sp (.k 6) V1 V5 rfl (L 61110601 rfl) (L 1000010 rfl))
theorem Ze164:den [] (.s K0 K5) []:=L 1 rfl
theorem Ze165:den [] (.s K1 K5) []:=L 1 rfl
theorem Ze166:den [] (.s K2 K5) []:=L 1 rfl
theorem Ze167:den [] (.s K3 K5) []:=L 1 rfl
theorem Ze168:den [] (.s K4 K5) []:=L 1 rfl
theorem Ze169:den [a,b] (.s (.a V1 V0) (.a V1 (.k 13))) [.s V0 (.k 13)]:=L 11 rfl
theorem Ze170:den [] (.s K0 (.k 13)) []:=L 1 rfl
theorem Ze171:den [] (.s K2 (.k 13)) []:=L 1 rfl
theorem Ze172:den [] (.s K4 (.k 13)) []:=L 1 rfl
theorem Ze173:den [] (.s (.k 6) (.k 13)) []:=L 1 rfl
theorem Ze174:den [] (.s (.k 8) (.k 13)) []:=L 1 rfl
theorem Ze175:den [a] (.l (.a V0 K1) (.k 101)) [.l V0 (.k 100)]:=L 11 rfl
theorem Ze176:den [a] (.s V0 (.k 1000000)) [.l V0 (.k 101)]:=L 11 rfl
theorem Ze177:den [a] (.s V0 (.k 1000000)) [.l V0 (.k 100)]:=L 11 rfl
theorem Ze178:den [a,b,(a-b)] (.l V2 (.k 100)) [.l V0 (.k 100)]:=sp V0 V1 V2 rfl (L 1101 rfl) (L 101 rfl)
theorem Ze179:den [a,b] (.l V0 (.k 100)) [.e (.a V0 V1) K5]:=L 11 rfl
theorem Ze180:den [a,b,d,(a-(d+1))] (.l V3 (.k 100)) [.e (.a V0 V1) K5]:=sp V0 (.a V2 K1) V3 rfl (L 1101 rfl) (L 101 rfl)
theorem Ze182:den [a,b,d] (.l V2 K5) [.e (.a V0 V1) K5,.l V2 V0]:=L 111 rfl
theorem Ze184:den [a,b] (.s V0 V1) [.h V0 V1,.l V0 V1]:=sn _ _ (L 11 rfl) (L 110 rfl)
theorem Ze197:den [a] (.l V0 (.k 1000000000)) [.s V0 K5]:=L 11 rfl
theorem Ze198:den [a,(min 15 a)] (.l V1 (.k 1000000)) []:=mn (.k 15) V0 V1 rfl (L 101 rfl) (L 111 rfl)
theorem Ze199:den [a,b,(min 15 b)] (.l V0 (.k 1000000)) [.l V0 (.a V2 K4)]:=mn (.k 15) V1 V2 rfl (L 1101 rfl) (L 1111 rfl)
theorem Ze200:den [a,b,(min 15 b)] (.l V0 (.k 1000)) [.l V0 (.a V2 K4)]:=mn (.k 15) V1 V2 rfl (L 1101 rfl) (L 1111 rfl)
theorem Ze201:den [a,b] (.l (.a (.a (.a K1 V0) K1) K1) (.k 9)) [.l V0 (.m 2 V1),.l V1 K3]:=L 211 rfl
theorem Ze202:den [a,b] (.l (.a V0 K1) (.k 9)) [.l V0 (.m 2 V1),.l V1 K3]:=L 211 rfl
theorem Ze203:den [a,b] (.s V0 (.k 1000000000)) [.s V0 V1,.e V1 K5]:=L 111 rfl
theorem Ze204:den [a] (.e (.a (.a K1 V0) K1) (.a V0 K2)) []:=LE 1 1 rfl rfl
theorem Ze207:den [a,b] (.s V0 V1) [.s V0 K5,.e V1 K5]:=L 611 rfl
theorem Ze208:den [a] (.l (.a V0 K1) K5) [.s V0 K5]:=L 11 rfl
theorem Ze209:den [a] (.e V0 K5) [.s V0 (.k 6),.t V0 K5]:=LE 11 101 rfl rfl
theorem Ze210:den [a] (.l K5 V0) [.e V0 K5]:=L 61 rfl
theorem Ze211:den [a,b,(a-b)] (.l V2 V0) []:=sp V0 V1 V2 rfl (L 101 rfl) (L 101 rfl)
theorem Ze213:den [a] (.l K5 V0) [.t V0 K5]:=L 11 rfl
theorem Ze214:den [a,b] (.l V0 V1) [.s V0 K5,.e V1 K5]:=L 611 rfl
theorem Ze215:den [a,b,(min a b),(min (min a b) a),(min (min a b) b)] (.e V3 V4) []:=mn V0 V1 V2 rfl (mn V2 V0 V3 rfl (mn V2 V1 V4 rfl (LE 10601 60101 rfl rfl) (LE 111601 60111 rfl rfl)) (mn V2 V1 V4 rfl (LE 11601 1060101 rfl rfl) (LE 110601 1060111 rfl rfl))) (mn V2 V0 V3 rfl (mn V2 V1 V4 rfl (LE 10601 60101 rfl rfl) (LE 1010601 60111 rfl rfl)) (mn V2 V1 V4 rfl (LE 11601 160111 rfl rfl) (LE 1011601 160101 rfl rfl)))
theorem Ze216:den [a,b,d,f,(min b d),(min (min b d) b),(b-(min (min b d) b)),(min (min b d) d),(d-(min (min b d) d))] (.l V0 (.k 9)) [.l V0 (.a (.a (.m 2 V6) (.m 2 V8)) V3),.l V1 K3,.l V2 K3,.l V3 (.m 2 V5)]:=mn V1 V2 V4 rfl (mn V4 V1 V5 rfl (sp V1 V5 V6 rfl (mn V4 V2 V7 rfl (sp V2 V7 V8 rfl (L 120170002070201 rfl) (L 102100002000201 rfl)) (sp V2 V7 V8 rfl (L 102100002070201 rfl) (L 102100002000201 rfl))) (mn V4 V2 V7 rfl (sp V2 V7 V8 rfl (L 120100202070201 rfl) (L 120100202002201 rfl)) (sp V2 V7 V8 rfl (L 102100222070201 rfl) (L 102100222000201 rfl)))) (sp V1 V5 V6 rfl (mn V4 V2 V7 rfl (sp V2 V7 V8 rfl (L 120100022070201 rfl) (L 102100002000201 rfl)) (sp V2 V7 V8 rfl (L 102100002070201 rfl) (L 102100002000201 rfl))) (mn V4 V2 V7 rfl (sp V2 V7 V8 rfl (L 120100222070201 rfl) (L 102100202000201 rfl)) (sp V2 V7 V8 rfl (L 102100202070201 rfl) (L 102100202000201 rfl))))) (mn V4 V1 V5 rfl (sp V1 V5 V6 rfl (mn V4 V2 V7 rfl (sp V2 V7 V8 rfl (L 102170002070201 rfl) (L 102100002000201 rfl)) (sp V2 V7 V8 rfl (L 102100002070201 rfl) (L 102100002000201 rfl))) (mn V4 V2 V7 rfl (sp V2 V7 V8 rfl (L 120100202070201 rfl) (L 102100222000201 rfl)) (sp V2 V7 V8 rfl (L 102100222070201 rfl) (L 102100222000201 rfl)))) (sp V1 V5 V6 rfl (mn V4 V2 V7 rfl (sp V2 V7 V8 rfl (L 102170002070201 rfl) (L 102100002000201 rfl)) (sp V2 V7 V8 rfl (L 102100002070201 rfl) (L 102100002000201 rfl))) (mn V4 V2 V7 rfl (sp V2 V7 V8 rfl (L 102170202070201 rfl) (L 102100202000201 rfl)) (sp V2 V7 V8 rfl (L 102100202070201 rfl) (L 102100202000201 rfl)))))
theorem Ze217:den [a] (.s (.a V0 K1) (.k 6)) [.s V0 K5]:=L 11 rfl
theorem Ze218:den [a] (.l V0 (.k 1000000)) [.e V0 K5]:=L 11 rfl
theorem Ze219:den [a,(a-1)] (.l V1 (.k 1000000)) [.e V0 K5]:=sp V0 K1 V1 rfl (L 1101 rfl) (L 101 rfl)
theorem Ze232:den [a,b,(a-b)] (.e V1 V0) [.e V2 K0,.l V1 V0]:=sp V0 V1 V2 rfl (LE 11 1601 rfl rfl) (LE 10001 11 rfl rfl)
theorem Ze233:den [a,b] (.s V0 (.a V1 K1)) [.s V0 V1]:=L 11 rfl
theorem Ze236:den [a,b,(a-1),((a-1)/2),((a-1)%2)] (.s V3 V1) [.s V0 V1]:=sp V0 K1 V2 rfl (dv V2 V3 V4 2 (by decide) rfl rfl (L 110011 rfl)) (dv V2 V3 V4 2 (by decide) rfl rfl (L 210012 rfl))
theorem Ze238:den [a,b,d,(a-1),((a-1)/2),((a-1)%2)] (.s V4 V1) [.s V0 (.a V1 K1),.g V0 V2]:=sp V0 K1 V3 rfl (dv V3 V4 V5 2 (by decide) rfl rfl (L 110011 rfl)) (dv V3 V4 V5 2 (by decide) rfl rfl (L 2210012 rfl))
theorem Ze243:den [a] (.s V0 (.a (.m 2 V0) K2)) []:=L 1 rfl
theorem Ze244:den [a] (.s V0 (.a (.m 2 V0) K1)) []:=L 1 rfl
theorem Ze245:den [a,b,d,f,(a-b),(a-f)] (.l V5 V2) [.l V4 (.a V2 K1),.s V1 V3]:=sp V0 V1 V4 rfl (sp V0 V3 V5 rfl (L 1160101 rfl) (L 101 rfl)) (sp V0 V3 V5 rfl (L 1001010 rfl) (L 101 rfl))
theorem Ze247:den [a,b,d,(max a d)] (.l V3 V1) [.l V0 V1,.l V2 V1]:=mx V0 V2 V3 rfl (L 10101 rfl) (L 1101 rfl)
theorem Ze248:den [a,b] (.l V1 (.k 64)) [.l V0 (.k 64),.l V1 V0]:=L 111 rfl
theorem Ze249:den [a,b] (.l (.a V1 K1) (.k 64)) [.l V0 (.k 60),.l V1 V0]:=L 111 rfl
theorem Ze250:den [] (.l K0 K2) []:=L 1 rfl
theorem Ze251:den [] (.l K1 K2) []:=L 1 rfl
theorem Ze252:den [] (.l K2 K2) []:=L 1 rfl
theorem Ze253:den [] (.l K0 (.a K1 K1)) []:=L 1 rfl
theorem Ze254:den [] (.l K1 (.a K1 K1)) []:=L 1 rfl
theorem Ze255:den [] (.l K0 (.a K1 K2)) []:=L 1 rfl
theorem Ze256:den [] (.l K1 (.a K1 K2)) []:=L 1 rfl
theorem Ze257:den [] (.l K2 (.a K1 K2)) []:=L 1 rfl
theorem Ze264:den [a,b] (.e (.a (.a V0 V1) K2) (.a (.a V0 K2) V1)) []:=LE 1 1 rfl rfl
theorem Ze265:den [a,b,d] (.e (.a (.a V0 V1) V2) (.a (.a V0 V2) V1)) []:=LE 1 1 rfl rfl
theorem Ze266:den [a,b] (.e (.a V0 K2) (.m 2 (.a V1 K1))) [.e V0 (.m 2 V1)]:=LE 11 61 rfl rfl
theorem Ze267:den [a,b,d] (.l (.m 2 V0) (.a (.a V1 K2) (.m 2 (.a V2 K1)))) [.l (.m 2 V0) (.a V1 (.m 2 V2))]:=L 11 rfl
theorem Ze268:den [a,b,d] (.l (.m 2 (.a V0 K1)) (.a (.a V1 K2) (.m 2 V2))) [.l (.m 2 V0) (.a V1 (.m 2 V2))]:=L 11 rfl
theorem Ze269:den [a,b,d,f] (.l (.m 2 (.a V0 K1)) (.a (.a V1 V3) (.m 2 (.a V2 K1)))) [.l (.m 2 V0) (.a V1 (.m 2 V2))]:=L 11 rfl
theorem Ze270:den [a] (.l V0 (.a K0 V0)) []:=L 1 rfl
theorem Ze271:den [a,b,d,f] (.l (.a (.a V0 V1) V2) V3) [.l (.a (.a (.a V0 K1) V1) V2) (.a V3 K1)]:=L 11 rfl
theorem Ze272:den [a,b,d] (.l (.a V0 K2) (.a (.a V1 K2) V2)) [.l V0 (.a V1 V2)]:=L 11 rfl
theorem Ze273:den [a,b,d,f] (.l (.a (.a V0 V1) V2) V3) [.l (.a (.a V0 (.a V1 K1)) V2) (.a V3 K1)]:=L 11 rfl
theorem Ze274:den [a,b,d] (.l V0 (.a (.a V1 K2) (.a V2 K2))) [.l V0 (.a V1 V2)]:=L 11 rfl
theorem Ze275:den [a,b,d,f] (.l (.a (.a V0 (.a V1 K1)) V2) V3) [.l (.a (.a V0 (.a V1 K1)) (.a V2 K1)) (.a V3 K1)]:=L 11 rfl
theorem Ze276:den [a,b,d] (.l (.a V0 K2) (.a (.a V1 K2) (.a V2 K2))) [.l V0 (.a (.a V1 K2) V2)]:=L 11 rfl
theorem Ze277:den [a,b,d,f] (.l (.a (.a V0 V1) V2) V3) [.l (.a (.a V0 (.a V1 K1)) (.a V2 K1)) (.a V3 K1)]:=L 11 rfl
theorem Ze278:den [a,b,d,f] (.l (.a V0 K2) (.a (.a V1 K2) (.a V2 V3))) [.l V0 (.a V1 V2)]:=L 11 rfl
theorem Ze279:den [a,b,d,f] (.l (.a (.a V0 V1) V2) V3) [.l (.a (.a (.a V0 K1) (.a V1 K1)) V2) (.a V3 K1)]:=L 11 rfl
theorem Ze280:den [a,b,d,f] (.l (.a V0 K2) (.a (.a V1 V3) (.a V2 K2))) [.l V0 (.a V1 V2)]:=L 11 rfl
theorem Ze281:den [a,b,d,f] (.l (.a (.a (.a V0 K1) (.a V1 K1)) V2) V3) [.l (.a (.a (.a V0 K1) (.a V1 K1)) (.a V2 K1)) (.a V3 K1)]:=L 11 rfl
theorem Ze282:den [a,b,d,f] (.l (.a V0 K2) (.a (.a V1 V2) (.a V3 K2))) [.l V0 (.a (.a V1 V2) V3)]:=L 11 rfl
theorem Ze283:den [a,b,d,f] (.l (.a (.a V0 V1) V2) V3) [.l (.a (.a (.a V0 K1) (.a V1 K1)) (.a V2 K1)) (.a V3 K1)]:=L 11 rfl
theorem Ze284:den [a,b,d,f,g,h] (.l (.a V0 V3) (.a (.a V1 V4) (.a V2 V5))) [.l V0 (.a V1 V2),.l V3 (.a V4 V5)]:=L 111 rfl
theorem Ze285:den [a,b,d] (.l V2 (.a V1 K2)) [.l V0 (.a K2 V1),.l V2 V0]:=L 111 rfl
theorem Ze286:den [a,b,d,f,g,(min d a),(min ((min d a)+2) (f+g))] (.l V6 (.a V1 K2)) [.l V0 V1]:=mn V2 V0 V5 rfl (mn (.a V5 K2) (.a V3 V4) V6 rfl (L 111101 rfl) (L 111111 rfl)) (mn (.a V5 K2) (.a V3 V4) V6 rfl (L 110101 rfl) (L 110111 rfl))
theorem Ze287:den [a,b,d,f,g,(min a d),(min ((min a d)+2) (f+g))] (.l V6 (.a V1 K2)) [.l V0 V1]:=mn V0 V2 V5 rfl (mn (.a V5 K2) (.a V3 V4) V6 rfl (L 110101 rfl) (L 110111 rfl)) (mn (.a V5 K2) (.a V3 V4) V6 rfl (L 111101 rfl) (L 111111 rfl))
theorem Ze288:den [a,b,d,f,g,(min d f),(min ((min d f)+2) (a+g))] (.l V6 (.a V1 V4)) [.l V0 V1]:=mn V2 V3 V5 rfl (mn (.a V5 K2) (.a V0 V4) V6 rfl (L 100111 rfl) (L 100101 rfl)) (mn (.a V5 K2) (.a V0 V4) V6 rfl (L 100111 rfl) (L 100101 rfl))
theorem Ze289:den [a] (.e V0 (.a K0 V0)) []:=LE 1 1 rfl rfl
theorem Ze290:den [a,b,d,f] (.l (.a (.m 2 V1) V2) (.a V0 V3)) [.e V0 (.m 2 (.a V1 K1)),.l V2 K2]:=L 161 rfl
theorem Ze291:den [a,b] (.s V0 (.a (.a V0 V1) K1)) []:=L 1 rfl
theorem Ze292:den [a,b,d,f,g,((b+1)-a),(d-f),(b-a)] (.e (.a (.a (.m 2 V5) (.m 2 V6)) V4) (.a (.a (.a (.m 2 V7) (.m 2 V6)) V4) K2)) [.l V0 V1]:=sp (.a V1 K1) V0 V5 rfl (sp V2 V3 V6 rfl (sp V1 V0 V7 rfl (LE 2000701 7000201 rfl rfl) (LE 2000021 27000201 rfl rfl)) (sp V1 V0 V7 rfl (LE 2000701 7000201 rfl rfl) (LE 2000021 27000201 rfl rfl))) (LE 1010 1010 rfl rfl)
theorem Ze293:den [a,b,d,f,g,(d-f),((b+1)-a),(b-a)] (.e (.a (.a (.m 2 V5) (.m 2 V6)) V4) (.a (.a (.a (.m 2 V5) (.m 2 V7)) V4) K2)) [.l V0 V1]:=sp V2 V3 V5 rfl (sp (.a V1 K1) V0 V6 rfl (sp V1 V0 V7 rfl (LE 20701 70201 rfl rfl) (LE 20021 20070201 rfl rfl)) (LE 100010 100010 rfl rfl)) (sp (.a V1 K1) V0 V6 rfl (sp V1 V0 V7 rfl (LE 20701 70201 rfl rfl) (LE 20021 20070201 rfl rfl)) (LE 100010 100010 rfl rfl))
theorem Ze294:den [a,b,d,f,g,h,(a-b),(d-f)] (.e (.a (.a (.m 2 V6) (.m 2 V7)) (.a V4 V5)) (.a (.a (.a (.m 2 V6) (.m 2 V7)) V5) V4)) []:=LE 1 1 rfl rfl
theorem Ze295:den [a,b,d,f,g,(b-a),(d-f),((b+1)-a)] (.e (.a (.a (.a (.m 2 V5) (.m 2 V6)) V4) K2) (.a (.a (.m 2 V7) (.m 2 V6)) V4)) [.l V0 V1]:=sp V1 V0 V5 rfl (sp V2 V3 V6 rfl (sp (.a V1 K1) V0 V7 rfl (LE 2000701 7000201 rfl rfl) (LE 100010 201 rfl rfl)) (sp (.a V1 K1) V0 V7 rfl (LE 2000701 7000201 rfl rfl) (LE 100010 201 rfl rfl))) (sp V2 V3 V6 rfl (sp (.a V1 K1) V0 V7 rfl (LE 22000701 200201 rfl rfl) (LE 10000010 10000010 rfl rfl)) (sp (.a V1 K1) V0 V7 rfl (LE 22000701 200201 rfl rfl) (LE 10000010 10000010 rfl rfl)))
theorem Ze296:den [a,b,d,f,g,(d-f),(b-a),((b+1)-a)] (.e (.a (.a (.a (.m 2 V5) (.m 2 V6)) V4) K2) (.a (.a (.m 2 V5) (.m 2 V7)) V4)) [.l V0 V1]:=sp V2 V3 V5 rfl (sp V1 V0 V6 rfl (sp (.a V1 K1) V0 V7 rfl (LE 20701 70201 rfl rfl) (LE 1010 201 rfl rfl)) (sp (.a V1 K1) V0 V7 rfl (LE 20020701 2201 rfl rfl) (LE 10000010 10000010 rfl rfl))) (sp V1 V0 V6 rfl (sp (.a V1 K1) V0 V7 rfl (LE 20701 70201 rfl rfl) (LE 1010 201 rfl rfl)) (sp (.a V1 K1) V0 V7 rfl (LE 20020701 2201 rfl rfl) (LE 10000010 10000010 rfl rfl)))
theorem Ze297:den [a,b,d,f,g,h,(a-b),(d-f)] (.e (.a (.a (.a (.m 2 V6) (.m 2 V7)) V4) V5) (.a (.a (.m 2 V6) (.m 2 V7)) (.a V5 V4))) []:=LE 1 1 rfl rfl
theorem Ze298:den [a,b,d,f,g,(f-b),(d-a),((f+d)-(2*b))] (.e (.a (.a (.m 2 V5) (.m 2 V6)) V4) (.a (.m 2 V7) V4)) [.e V0 V1,.l V0 V2,.l V1 V3]:=sp V3 V1 V5 rfl (sp V2 V0 V6 rfl (sp (.a V3 V2) (.m 2 V1) V7 rfl (LE 72020701 27070201 rfl rfl) (LE 72020021 201 rfl rfl)) (sp (.a V3 V2) (.m 2 V1) V7 rfl (LE 272020701 27002201 rfl rfl) (LE 272020021 201 rfl rfl))) (sp V2 V0 V6 rfl (sp (.a V3 V2) (.m 2 V1) V7 rfl (LE 2072020701 20270201 rfl rfl) (LE 2072020021 201 rfl rfl)) (sp (.a V3 V2) (.m 2 V1) V7 rfl (LE 2020001 20202201 rfl rfl) (LE 2020001 201 rfl rfl)))
theorem Ze299:den [a,b] (.s V1 K4) [.l V0 K3,.l V1 V0]:=L 111 rfl
theorem Ze300:den [a,b,d,f,g,((d+f)-(2*a)),(d-a),(f-b)] (.e (.a (.m 2 V5) V4) (.a (.a (.m 2 V6) (.m 2 V7)) V4)) [.e V0 V1,.l V0 V2,.l V1 V3]:=sp (.a V2 V3) (.m 2 V0) V5 rfl (sp V2 V0 V6 rfl (sp V3 V1 V7 rfl (LE 72070701 27020201 rfl rfl) (LE 72070021 2027020201 rfl rfl)) (sp V3 V1 V7 rfl (LE 72002701 227020201 rfl rfl) (LE 72002021 20201 rfl rfl))) (sp V2 V0 V6 rfl (sp V3 V1 V7 rfl (LE 2000001 20220201 rfl rfl) (LE 2000001 2020220201 rfl rfl)) (sp V3 V1 V7 rfl (LE 2000001 220220201 rfl rfl) (LE 2000001 20201 rfl rfl)))
theorem Ze301:den [a,b,d,(min b d)] (.e V0 V1) [.e V0 V3,.l V1 V2]:=mn V1 V2 V3 rfl (LE 1101 6601 rfl rfl) (LE 1111 16601 rfl rfl)
theorem Ze302:den [a,b,d,(min b d)] (.e V0 V2) [.e V0 V3,.l V2 V1]:=mn V1 V2 V3 rfl (LE 1111 16601 rfl rfl) (LE 1101 6601 rfl rfl)
theorem Ze303:den [a,b] (.e V0 V1) [.l V0 V1,.l V1 V0]:=LE 11 101 rfl rfl
theorem Ze304:den [a] (.s K0 (.a V0 K1)) []:=L 1 rfl
theorem Ze305:den [a,b,(a-1)] (.s V2 V1) [.s K0 V0,.s V0 (.a V1 K1)]:=sp V0 K1 V2 rfl (L 10101 rfl) (L 11101 rfl)
theorem Ze306:den [a,b,(min (a+1) b)] (.e V2 (.a V0 K1)) [.s V0 V1]:=mn (.a V0 K1) V1 V2 rfl (LE 101 601 rfl rfl) (LE 111 1601 rfl rfl)
theorem Ze307:den [a,b,d] (.s V2 V0) [.e V0 (.a V1 K1),.l V2 V1]:=L 161 rfl
theorem Ze308:den [a,b,d] (.s V2 (.a V1 K1)) [.s V0 (.a V1 K1),.s V2 V0]:=L 111 rfl
theorem Ze309:den [a,b,d] (.h V2 V1) [.s V0 (.a V1 K1),.s V2 V0]:=gn (L 1160 rfl)
theorem Ze310:den [a,b,d,f,g,h] (.l V2 (.m 2 V4)) [.l V0 V1,.l V2 V0,.l V3 V4,.l V5 V4,.l V1 (.a V5 V3)]:=L 111111 rfl
theorem Ze311:den [a,b,d] (.s V0 V2) [.l (.a V0 (.a V1 K1)) V2]:=L 11 rfl
theorem Ze312:den [a,b,d,(a-1)] (.s V3 V2) [.l (.a V0 (.a V1 K1)) V2]:=sp V0 K1 V3 rfl (L 1101 rfl) (L 1101 rfl)
theorem Ze313:den [a,b] (.l V0 (.a V0 (.a V1 K1))) []:=L 1 rfl
theorem Ze314:den [a,b,d] (.l V0 (.a V1 (.a V2 K1))) [.l V0 (.a (.a V1 K1) V2)]:=L 11 rfl
theorem Ze315:den [a,b,d] (.l (.a (.a V0 K1) V1) V2) [.l (.a V0 (.a V1 K1)) V2]:=L 11 rfl
theorem Ze316:den [a,b,d] (.e V0 (.a V1 (.a V2 K1))) [.e V0 (.a (.a V1 K1) V2)]:=LE 11 61 rfl rfl
theorem Ze317:den [a,b] (.e V0 V1) [.s V0 (.a V1 K1),.t V0 V1]:=LE 11 101 rfl rfl
theorem Ze318:den [a,b,(b-1)] (.l V0 V2) [.h V0 V1,.l V0 V1]:=sn _ _ (sp V1 K1 V2 rfl (L 1601 rfl) (L 1011 rfl)) (L 110 rfl)
theorem Ze319:den [a,(a-1)] (.s V1 V0) [.l K1 V0]:=sp V0 K1 V1 rfl (L 101 rfl) (L 1101 rfl)
theorem Ze320:den [a,b,d,((d+b)-1),(((d+b)-1)-a)] (.l V2 V4) [.s V0 V1]:=sp (.a V2 V1) K1 V3 rfl (sp V3 V0 V4 rfl (L 160601 rfl) (L 160011 rfl)) (L 1011 rfl)
theorem Ze321:den [a,b,d,((d+b)-1),(((d+b)-1)-a)] (.s V4 V1) [.s V0 V1,.l V2 V0]:=sp (.a V2 V1) K1 V3 rfl (sp V3 V0 V4 rfl (L 1010101 rfl) (L 100101 rfl)) (sp V3 V0 V4 rfl (L 110101 rfl) (L 100101 rfl))
theorem Ze322:den [a,b,d] (.s V2 V1) [.s V0 V1,.l V2 V0]:=L 111 rfl
theorem Ze323:den [a,b] (.s V0 V1) [.s V0 V1]:=L 11 rfl
theorem Ze324:den [a,b,d,((0+d)-1),(((0+d)-1)-b),(((0+d)-1)-a)] (.l V4 V5) [.l V0 V1]:=sp (.a K0 V2) K1 V3 rfl (sp V3 V1 V4 rfl (sp V3 V0 V5 rfl (L 10010601 rfl) (L 10010011 rfl)) (L 101 rfl)) (sp V3 V1 V4 rfl (L 10101 rfl) (L 101 rfl))
theorem Ze325:den [a,b,d,((0+b)-1),(((0+b)-1)-d)] (.s V4 V1) [.s V0 V1]:=sp (.a K0 V1) K1 V3 rfl (sp V3 V2 V4 rfl (L 10101 rfl) (L 1101 rfl)) (sp V3 V2 V4 rfl (L 110101 rfl) (L 100101 rfl))
theorem Ze326:den [a,b,d] (.l V0 V2) [.l (.a V0 (.a V1 K1)) V2]:=L 11 rfl
theorem Ze327:den [a,b,((a+1)-(0+1))] (.e V1 V0) [.l V2 V1,.s V1 (.a V0 K1)]:=sp (.a V0 K1) (.a K0 K1) V2 rfl (LE 10001 1601 rfl rfl) (LE 10001 11 rfl rfl)
theorem Ze328:den [a,b,d,((a+1)-((b+1)+1)),(a-(b+1))] (.l V4 V2) [.l V3 V2]:=sp (.a V0 K1) (.a (.a V1 K1) K1) V3 rfl (sp V0 (.a V1 K1) V4 rfl (L 160101 rfl) (L 101 rfl)) (sp V0 (.a V1 K1) V4 rfl (L 1101 rfl) (L 101 rfl))
theorem Ze329:den [a,b,(b-a)] (.l (.a V0 V2) V1) [.l V0 V1]:=sp V1 V0 V2 rfl (L 101 rfl) (L 1101 rfl)
theorem Ze330:den [a,b] (.l K1 V1) [.l K1 V0,.l V0 V1]:=L 111 rfl
theorem Ze331:den [a,b,d,(d-b)] (.l V0 V2) [.l V0 (.a V1 V3),.l V1 V2]:=sp V2 V1 V3 rfl (L 1101 rfl) (L 11101 rfl)
theorem Ze332:den [a,b,(b-(a+1))] (.l (.a (.a V0 K1) V2) V1) [.s V0 V1]:=sp V1 (.a V0 K1) V2 rfl (L 101 rfl) (L 1101 rfl)
theorem Ze333:den [a,b,d,(b-(a+1))] (.l V2 V1) [.s V0 V1,.l V2 (.a (.a V0 K1) V3)]:=sp V1 (.a V0 K1) V3 rfl (L 10101 rfl) (L 11101 rfl)
theorem Ze334:den [a,b] (.l K1 V1) [.l (.a V0 K1) V1]:=L 11 rfl
theorem Ze335:den [a,(a-1)] (.l (.a K1 V1) V0) [.l K1 V0]:=sp V0 K1 V1 rfl (L 101 rfl) (L 1101 rfl)
theorem Ze336:den [a,b] (.e V1 K0) [.s V0 K1,.l V1 V0]:=LE 111 1 rfl rfl
theorem Ze337:den [a] (.e V0 K0) [.s V0 K1]:=LE 11 1 rfl rfl
theorem Ze338:den [a,b,(a-1)] (.l V1 V0) [.l K1 V0,.l V1 (.a K1 V2)]:=sp V0 K1 V2 rfl (L 10101 rfl) (L 11101 rfl)
theorem Ze339:den [a] (.s K0 V0) [.l K1 V0]:=L 11 rfl
theorem Ze340:den [a,b,(a-1),(b-1)] (.s V3 V0) [.l K1 V0,.l V1 (.a K1 V2)]:=sp V0 K1 V2 rfl (sp V1 K1 V3 rfl (L 1010101 rfl) (L 1101 rfl)) (sp V1 K1 V3 rfl (L 1110101 rfl) (L 100101 rfl))
theorem Ze341:den [a,b,(b-1)] (.l V0 V2) [.s V0 V1]:=sp V1 K1 V2 rfl (L 1601 rfl) (L 1011 rfl)
theorem Ze342:den [a] (.e V0 K1) [.l K1 V0,.t K1 V0]:=LE 101 11 rfl rfl
theorem Ze343:den [a,b] (.e V1 K0) [.h V1 V0,.s V0 (.a K1 K1),.l V1 V0]:=sn _ _ (LE 111 1 rfl rfl) (LE 1010 1010 rfl rfl)
theorem Ze344:den [a,b] (.e V0 K1) [.h V1 V0,.s V0 (.a K1 K1),.l V1 V0]:=sn _ _ (LE 101 11 rfl rfl) (LE 1010 1010 rfl rfl)
theorem Ze345:den [a,b,d] (.l V0 V2) [.l V0 V1,.l V1 V2]:=L 111 rfl
theorem Ze346:den [a,b,d,(a-b)] (.l V0 V2) [.l V3 K0,.l V1 V2]:=sp V0 V1 V3 rfl (L 11601 rfl) (L 10011 rfl)
theorem Ze347:den [a,b,d,f,((f+d)/2),((f+d)%2)] (.s V4 V1) [.s V0 V1,.l V2 V0,.l V3 V2]:=dv (.a V3 V2) V4 V5 2 (by decide) rfl rfl (L 122012 rfl)
theorem Ze348:den [a,b,((a+b)/2),((a+b)%2)] (.l V0 V2) [.l V0 V1]:=dv (.a V0 V1) V2 V3 2 (by decide) rfl rfl (L 1162 rfl)
theorem Ze349:den [a,b,d,((a+b)/2),((a+b)%2)] (.l V3 V2) [.l V0 V1,.l V1 V2]:=dv (.a V0 V1) V3 V4 2 (by decide) rfl rfl (L 21012 rfl)
theorem Ze350:den [a,b,d,(a-b),((b+a)/2),((b+a)%2),(((b+a)/2)-b)] (.l V6 V2) [.l V3 (.a V2 K1)]:=sp V0 V1 V3 rfl (dv (.a V1 V0) V4 V5 2 (by decide) rfl rfl (sp V4 V1 V6 rfl (L 16001202 rfl) (L 101 rfl))) (dv (.a V1 V0) V4 V5 2 (by decide) rfl rfl (sp V4 V1 V6 rfl (L 101202 rfl) (L 101 rfl)))
theorem Ze351:den [a,b,((a+b)/2),((a+b)%2)] (.l (.a V2 K1) V1) [.g V1 V0]:=dv (.a V0 V1) V2 V3 2 (by decide) rfl rfl (L 1012 rfl)
theorem Ze352:den [a,b,d,(a-b),((b+a)/2),((b+a)%2),(a-(((b+a)/2)+1))] (.l V6 V2) [.l V3 (.a V2 K1)]:=sp V0 V1 V3 rfl (dv (.a V1 V0) V4 V5 2 (by decide) rfl rfl (sp V0 (.a V4 K1) V6 rfl (L 16016111 rfl) (L 101 rfl))) (dv (.a V1 V0) V4 V5 2 (by decide) rfl rfl (sp V0 (.a V4 K1) V6 rfl (L 116020 rfl) (L 101 rfl)))
theorem Ze353:den [a,b,d,((b+d)/2),((b+d)%2)] (.l V0 V3) [.s V0 (.a V3 K1)]:=L 11 rfl
theorem Ze354:den [a,b,d,((d+a)/2),((d+a)%2)] (.s V3 V1) [.l V0 V1,.g V0 V2]:=dv (.a V2 V0) V3 V4 2 (by decide) rfl rfl (L 12012 rfl)
theorem Ze355:den [a,b,(b-a),(b-(b-a))] (.e V3 V0) [.l V0 V1]:=sp V1 V0 V2 rfl (sp V1 V2 V3 rfl (LE 60101 10601 rfl rfl) (LE 101 10011 rfl rfl)) (sp V1 V2 V3 rfl (LE 1101 110601 rfl rfl) (LE 101 110011 rfl rfl))
theorem Ze356:den [a,b,d] (.s V1 V2) [.h V2 V1,.e V0 V1,.l V0 V2]:=sn _ _ (L 1610 rfl) (L 11 rfl)
theorem Ze357:den [a,b] (.l V0 V1) [.s V0 (.a V1 K1)]:=L 11 rfl
theorem Ze358:den [a,b,d,(d-1)] (.l V1 V3) [.h V2 V1,.e V0 V1,.l V0 V2]:=sn _ _ (L 1610 rfl) (sp V2 K1 V3 rfl (L 1601 rfl) (L 1011 rfl))
theorem Ze359:den [a,b,d,(a-1)] (.s V3 V1) [.h V0 V2,.s V0 (.a V1 K1),.l V2 V1]:=sn _ _ (sp V0 K1 V3 rfl (L 10101 rfl) (L 101101 rfl)) (sp V0 K1 V3 rfl (L 10101 rfl) (L 11101 rfl))
theorem Ze360:den [a,b,(a-1),(b-1)] (.l V2 V3) [.l V0 V1]:=sp V0 K1 V2 rfl (sp V1 K1 V3 rfl (L 110601 rfl) (L 110011 rfl)) (L 101 rfl)
theorem Ze361:den [a,b,d,f,(a-1)] (.s V4 V1) [.h V2 V3,.s V0 (.a V1 K1),.l V2 V0,.l V3 V1]:=sn _ _ (sp V0 K1 V4 rfl (L 10101 rfl) (L 1001101 rfl)) (sp V0 K1 V4 rfl (L 10101 rfl) (L 111101 rfl))
theorem Ze362:den [a,(a-0)] (.l V1 V0) []:=sp V0 K0 V1 rfl (L 101 rfl) (L 101 rfl)
theorem Ze363:den [a] (.t V0 K0) []:=L 1 rfl
theorem Ze364:den [a,b] (.g V1 V0) [.s V0 V1]:=L 11 rfl
theorem Ze365:den [a,(max a 1)] (.e V1 V0) [.l K1 V0]:=mx V0 K1 V1 rfl (LE 1101 611 rfl rfl) (LE 101 601 rfl rfl)
theorem Ze366:den [a,b,(b-a)] (.e (.a V0 V2) V1) [.l V0 V1]:=sp V1 V0 V2 rfl (LE 101 601 rfl rfl) (LE 1101 11 rfl rfl)
theorem Ze367:den [a,b] (.e V0 V1) [.l V0 V1,.t V0 V1]:=LE 11 101 rfl rfl
theorem Ze368:den [a] (.l V0 (.k 16777216)) [.s V0 (.k 64)]:=L 11 rfl
theorem Ze369:den [a] (.t V0 K2) [.l K2 V0]:=L 11 rfl
theorem Ze370:den [a] (.l V0 (.a (.k 16777216) K1)) [.s V0 (.k 64)]:=L 11 rfl
theorem Ze371:den [a,b] (.s (.a (.a (.a V0 K1) K1) (.k 90)) V1) [.s (.a V0 (.k 100)) V1]:=L 11 rfl
theorem Ze372:den [a,b] (.l K2 V1) [.l K2 V0,.e V0 V1]:=L 111 rfl
theorem Ze373:den [a,b] (.s V1 (.k 64)) [.s V0 (.k 64),.e V0 V1]:=L 611 rfl
theorem Ze374:den [a,b,d,(a-b)] (.s V1 V0) [.e V3 (.a V2 K1)]:=sp V0 V1 V3 rfl (L 6101 rfl) (L 6100 rfl)
theorem Ze375:den [a,b,d,(a-b)] (.l (.a V1 K1) V0) [.e V3 (.a V2 K1)]:=sp V0 V1 V3 rfl (L 6101 rfl) (L 6100 rfl)
theorem Ze376:den [a,b,d,(a-b),(a-(b+1))] (.e V4 V2) [.e V3 (.a V2 K1)]:=sp V0 V1 V3 rfl (sp V0 (.a V1 K1) V4 rfl (LE 160101 610601 rfl rfl) (LE 101 610011 rfl rfl)) (LE 6100 6100 rfl rfl)
theorem Ze377:den [a,b,d,(b-0)] (.s K0 V2) [.l K2 V0,.e V0 V1,.e V2 V3]:=sp V1 K0 V3 rfl (L 611601 rfl) (L 11010 rfl)
theorem Ze378:den [a,b] (.l K1 V1) [.l K2 V0,.e V0 V1]:=L 111 rfl
theorem Ze379:den [a,b,d] (.e V1 V2) [.e V0 V1,.e V0 V2]:=LE 161 611 rfl rfl
theorem Ze380:den [a,b,d,f] (.s V0 V3) [.s V0 V1,.e V2 V1,.e V2 V3]:=L 1611 rfl
end
set_option genCtorIdx false
set_option genInjectivity false
inductive Q | v (i:Nat) | c (p:P) | k (n:Nat) | w (e:Nat) | a (x y:Q) | s (x y:Q) | n (x:Q) | m (k:Nat) (x:Q) | r (x:Q) (k:Nat)
inductive U | n (r:R) | l (x y:Q) | s (x y:Q) | e (x y:Q) | g (x y:Q) | t (x y:Q) | h (x y:Q)
set_option genCtorIdx true
set_option genInjectivity true
noncomputable def ni (i:Nat):List Int→Int:=Nat.rec (fun c=>c.headD 0) (fun _ f c=>f c.tail) i
noncomputable def Q.d (c:List Nat) (d:List Int) (q:Q):Int:=Q.rec (fun i=>ni i d) (fun p=>((p.d c:Nat):Int)) (fun n=>(n:Int)) (fun e=>(2:Int) ^ e) (fun _ _ a b=>a+b) (fun _ _ a b=>a-b) (fun _ a =>-a) (fun n _ a=>(n:Int)*a) (fun _ n a=>a*(n:Int)) q
noncomputable def U.d (c:List Nat) (d:List Int) (r:U):Prop:=U.rec (fun r=>r.d c) (fun x y=>x.d c d≤y.d c d) (fun x y=>x.d c d<y.d c d) (fun x y=>x.d c d=y.d c d) (fun x y=>¬x.d c d≤y.d c d) (fun x y=>¬x.d c d<y.d c d) (fun x y=>¬x.d c d=y.d c d) r
noncomputable def dem (c:List Nat) (d:List Int) (G:U) (H:List U):Prop:=List.rec (G.d c d) (fun h _ p=>h.d c d→p) H
abbrev W:=List Int×List Int
noncomputable def wa (u v:W):W:=(va u.1 v.1,va u.2 v.2)
noncomputable def ws (n:Int) (u:W):W:=(vs n u.1,vs n u.2)
noncomputable def Q.u (q:Q):W:=Q.rec (fun i=>([],vu i)) (fun p=>(p.w,[])) (fun n=>([(n:Int)],[])) (fun e=>([((2 ^ e:Nat):Int)],[])) (fun _ _ a b=>wa a b) (fun _ _ a b=>wa a (ws (-1) b)) (fun _ a=>ws (-1) a) (fun n _ a=>ws n a) (fun _ n a=>ws n a) q
noncomputable def td (x y:Q):W:=wa y.u (ws (-1) x.u)
noncomputable def te (x y:Q):W:=wa (td x y) ([-1],[])
noncomputable def U.w (r:U):W:=U.rec (fun r=>(r.w,[])) td te td (fun x y=>te y x) (fun x y=>td y x) (fun _ _=>([],[])) r
noncomputable def U.m (r:U):W:=U.rec (fun r=>(r.n,[])) (fun x y=>te y x) (fun x y=>td y x) (fun _ _=>([],[])) td te (fun _ _=>([],[])) r
noncomputable def U.z (r:U) (d:Nat):Int:=U.rec (fun r=>r.z d) (fun _ _=>d) (fun _ _=>d) (fun _ _=>bif Nat.ble 5 d then 5-(d:Int) else d) (fun _ _=>d) (fun _ _=>d) (fun _ _=>d) r
noncomputable def ht (H:List U):Nat→W:=List.rec (fun _=>([],[])) (fun r _ f k=>wa (ws (r.z (k%10)) r.w) (f (k/10))) H
noncomputable def nul (v:List Int):Bool:=List.rec true (fun a _ b=>decide (a=0)&&b) v
noncomputable def chj (k:Nat) (G:U) (H:List U):Bool:=fin (wa (ws ((k%10:Nat):Int) G.m) (ht H (k/10))).1&&nul (wa (ws ((k%10:Nat):Int) G.m) (ht H (k/10))).2
noncomputable def di (v:List Int):List Int→Int:=List.rec (fun _=>0) (fun a _ f c=>a*ni 0 c+f c.tail) v
noncomputable def ew (c:List Nat) (d:List Int) (u:W):Int:=ev c u.1+di u.2 d
theorem YUY (w d:List Int):di w d=w.headD 0*ni 0 d+di w.tail d.tail:=by
 cases w with
 | nil=>exact (Int.add_zero _).symm.trans (congrArg (·+0) (Int.zero_mul _).symm)
 | cons=>rfl
theorem YUX (v:List Int):∀ (w d:List Int),di (va v w) d=di v d+di w d:=by
 induction v with
 | nil=>exact fun w c=>(Int.zero_add _).symm
 | cons a v ih=>
  intro w c
  rw [YUY w c]
  show (a+w.headD 0)*ni 0 c+di (va v w.tail) c.tail=a*ni 0 c+di v c.tail+_
  rw [ih,Int.add_mul,Int.add_assoc,Int.add_assoc,Int.add_left_comm (w.headD 0*ni 0 c)]
theorem YUW (n:Int) (v:List Int):∀ (d:List Int),di (vs n v) d=n*di v d:=by
 induction v with
 | nil=>exact fun c=>(Int.mul_zero _).symm
 | cons a v ih=>exact fun c=>(congrArg (n*a*ni 0 c+·) (ih c.tail)).trans ((congrArg (·+_) (Int.mul_assoc ..)).trans (Int.mul_add ..).symm)
theorem YUe (i:Nat):∀ d:List Int,di (vu i) d=ni i d:=by
 induction i with
 | zero=>exact fun c=>(Int.add_zero _).trans (Int.one_mul _)
 | succ i ih=>exact fun c=>(congrArg (·+_) (Int.zero_mul _)).trans ((Int.zero_add _).trans (ih c.tail))
section
variable (c:List Nat) (d:List Int)
theorem YQY (u v:W):ew c d (wa u v)=ew c d u+ew c d v:=by
 show ev c (va u.1 v.1)+di (va u.2 v.2) d=(ev c u.1+di u.2 d)+(ev c v.1+di v.2 d)
 rw [YQX,YUX,Int.add_assoc,Int.add_assoc,Int.add_left_comm (ev c v.1)]
theorem YRb (n:Int) (u:W):ew c d (ws n u)=n*ew c d u:=by
 show ev c (vs n u.1)+di (vs n u.2) d=_
 rw [YQW,YUW]; exact (Int.mul_add ..).symm
theorem YTy (u:W):ew c d (ws (-1) u) =-ew c d u:=by rw [YRb,Int.neg_mul,Int.one_mul]
theorem YUT (x:Q):ew c d x.u=x.d c d:=by
 induction x with
 | v i=>exact (Int.zero_add _).trans (YUe i d)
 | c p=>exact (Int.add_zero _).trans (YTe c p)
 | k n=>exact Int.add_zero _
 | w e=>exact (Int.add_zero _).trans ((Int.add_zero _).trans (Int.natCast_pow 2 e))
 | a x y h g=>exact (YQY c d x.u y.u).trans (by rw [h,g]; rfl)
 | s x y h g=>exact (YQY c d x.u (ws (-1) y.u)).trans (by rw [YTy,h,g]; rfl)
 | n x h=>exact (YTy c d x.u).trans (by rw [h]; rfl)
 | m n x h=>exact (YRb c d n x.u).trans (by rw [h]; rfl)
 | r x n h=>exact (YRb c d n x.u).trans (by rw [h,Int.mul_comm]; rfl)
theorem YPQ (x y:Q):ew c d (td x y)=y.d c d-x.d c d:=by
 rw [td,YQY,YTy,YUT,YUT]; rfl
theorem YUB (x y:Q):ew c d (te x y)=y.d c d-x.d c d-1:=by
 rw [te,YQY,YPQ]; rfl
theorem td0 (x y:Q) (h:x.d c d≤y.d c d):0≤ew c d (td x y):=by
 rw [YPQ]; exact Int.sub_nonneg_of_le h
theorem te0 (x y:Q) (h:x.d c d<y.d c d):0≤ew c d (te x y):=by
 rw [YUB]; exact Int.sub_nonneg_of_le (Int.le_sub_left_of_add_le h)
theorem U.n0 (r:U) (h:¬r.d c d):0≤ew c d r.m:=by
 cases r with
 | n r=>exact Int.le_trans (R.n0 c r h) (Int.le_of_eq (Int.add_zero _).symm)
 | l x y=>exact te0 c d y x (Int.lt_of_not_ge h)
 | s x y=>exact td0 c d y x (Int.not_lt.mp h)
 | g x y=>exact td0 c d x y (Classical.byContradiction h)
 | t x y=>exact te0 c d x y (Classical.byContradiction h)
 | _=>exact Int.le_refl _
theorem nm (k:Nat) (v:W) (h:0≤ew c d v):0≤ew c d (ws k v):=by
 rw [YRb]; exact Int.mul_nonneg (Int.natCast_nonneg k) h
theorem YUC (r:U) (k:Nat) (h:r.d c d):0≤ew c d (ws (r.z k) r.w):=by
 cases r with
 | n r=>exact Int.le_trans (YQj c r k h) (Int.le_of_eq (Int.add_zero _).symm)
 | l x y=>exact nm c d k _ (td0 c d x y h)
 | s x y=>exact nm c d k _ (te0 c d x y h)
 | g x y=>exact nm c d k _ (te0 c d y x (Int.lt_of_not_ge h))
 | t x y=>exact nm c d k _ (td0 c d y x (Int.not_lt.mp h))
 | h x y=>exact Int.le_refl _
 | e x y=>rw [YRb]; show 0≤_*ew c d (td x y); rw [YPQ,show x.d c d=y.d c d from h,Int.sub_self,Int.mul_zero]; exact Int.le_refl _
end
theorem YRC (v:List Int):∀ (d:List Int),nul v=true→di v d=0:=by
 induction v with
 | nil=>exact fun c _=>rfl
 | cons a v ih=>
  intro c h
  have h:=(Bool.and_eq_true _ _).mp h
  show a*ni 0 c+di v c.tail=0
  rw [of_decide_eq_true h.1,Int.zero_mul,Int.zero_add]; exact ih _ h.2
theorem YRp (c:List Nat) (d:List Int) (G:U) (H:List U):∀ (k:Nat),((0≤ew c d (ht H k))→G.d c d)→dem c d G H:=by
 induction H with
 | nil=>exact fun k h=>h (Int.le_refl _)
 | cons r H ih=>exact fun k h hr=>ih (k/10) fun q=>h (by
   show 0≤ew c d (wa _ _)
   rw [YQY]; exact Int.add_nonneg (YUC c d r _ hr) q)
section
variable {c:List Nat} {d:List Int} {G:U} {H:List U}
theorem M (k:Nat) (h:chj k G H=true):dem c d G H:=YRp c d G H (k/10) fun q=>Classical.byContradiction fun n=>by
 have h:=(Bool.and_eq_true _ _).mp h
 have a:ew c d (wa (ws ((k%10:Nat):Int) G.m) (ht H (k/10)))<0:=by
  show ev c _+di _ d<0
  rw [YRC _ d h.2,Int.add_zero]; exact YMv c _ h.1
 rw [YQY] at a
 exact absurd (Int.add_nonneg (nm c d _ _ (U.n0 c d G n)) q) (Int.not_le.mpr a)
theorem ME0 {A B C:U} (f:A.d c d→B.d c d→C.d c d):dem c d A H→dem c d B H→dem c d C H:=by
 induction H with
 | nil=>exact f
 | cons r H ih=>exact fun h g q=>ih (h q) (g q)
theorem ME {x y:Q} (k j:Nat) (h:chj k (.l x y) H=true) (g:chj j (.l y x) H=true):dem c d (.e x y) H:=ME0 Int.le_antisymm (M k h) (M j g)
theorem MN {x y:P} (k j:Nat) (h:chj k (.n (.l x y)) H=true) (g:chj j (.n (.l y x)) H=true):dem c d (.n (.e x y)) H:=ME0 Nat.le_antisymm (M k h) (M j g)
theorem nsp (x y t:P) (e:t.d c=x.d c-y.d c) (h1:dem c d G (.n (.l y x)::.n (.e (.a t y) x)::H)) (h2:dem c d G (.n (.l x y)::.n (.e t (.k 0))::H)):dem c d G H:=
 (Nat.le_total (y.d c) (x.d c)).elim (fun q=>h1 q (show t.d c+y.d c=x.d c by rw [e]; exact Nat.sub_add_cancel q)) fun q=>h2 q (show t.d c=0 by rw [e]; exact Nat.sub_eq_zero_of_le q)
theorem nmn (x y t:P) (e:t.d c=min (x.d c) (y.d c)) (h1:dem c d G (.n (.l x y)::.n (.e t x)::H)) (h2:dem c d G (.n (.l y x)::.n (.e t y)::H)):dem c d G H:=
 (Nat.le_total (x.d c) (y.d c)).elim (fun q=>h1 q (e.trans (Nat.min_eq_left q))) fun q=>h2 q (e.trans (Nat.min_eq_right q))
theorem nmx (x y t:P) (e:t.d c=max (x.d c) (y.d c)) (h1:dem c d G (.n (.l x y)::.n (.e t y)::H)) (h2:dem c d G (.n (.l y x)::.n (.e t x)::H)):dem c d G H:=
 (Nat.le_total (x.d c) (y.d c)).elim (fun q=>h1 q (e.trans (Nat.max_eq_right q))) fun q=>h2 q (e.trans (Nat.max_eq_left q))
theorem ndv (x q m:P) (n:Nat) (hn:0<n) (e:q.d c=x.d c/n) (e2:m.d c=x.d c%n) (h:dem c d G (.n (.e (.a (.m n q) m) x)::.n (.s m (.k n))::H)):dem c d G H:=
 h (show n*q.d c+m.d c=x.d c by rw [e,e2]; exact Nat.div_add_mod ..) (show m.d c<n by rw [e2]; exact Nat.mod_lt _ hn)
theorem imn (x y t:Q) (e:t.d c d=min (x.d c d) (y.d c d)) (h1:dem c d G (.l x y::.e t x::H)) (h2:dem c d G (.l y x::.e t y::H)):dem c d G H:=
 (Int.le_total (x.d c d) (y.d c d)).elim (fun q=>h1 q (e.trans (Int.min_eq_left q))) fun q=>h2 q (e.trans (Int.min_eq_right q))
theorem imx (x y t:Q) (e:t.d c d=max (x.d c d) (y.d c d)) (h1:dem c d G (.l x y::.e t y::H)) (h2:dem c d G (.l y x::.e t x::H)):dem c d G H:=
 (Int.le_total (x.d c d) (y.d c d)).elim (fun q=>h1 q (e.trans (Int.max_eq_right q))) fun q=>h2 q (e.trans (Int.max_eq_left q))
theorem itn (x:Q) (t:P) (e:t.d c=(x.d c d).toNat) (h1:dem c d G (.l (.k 0) x::.e (.c t) x::H)) (h2:dem c d G (.l x (.k 0)::.n (.e t (.k 0))::H)):dem c d G H:=
 (Int.le_total 0 (x.d c d)).elim (fun q=>h1 q (show ((t.d c:Nat):Int)=x.d c d by rw [e]; exact Int.toNat_of_nonneg q)) fun q=>h2 q (show t.d c=0 by rw [e]; exact Int.toNat_of_nonpos q)
theorem idv (x q m:Q) (n:Nat) (hn:0<n) (e:q.d c d=x.d c d/(n:Int)) (e2:m.d c d=x.d c d%(n:Int)) (h:dem c d G (.e (.a (.m n q) m) x::.l (.k 0) m::.s m (.k n)::H)):dem c d G H:=
 h (show (n:Int)*q.d c d+m.d c d=x.d c d by rw [e,e2]; exact Int.mul_ediv_add_emod ..) (show (0:Int)≤m.d c d by rw [e2]; exact Int.emod_nonneg _ (Int.ne_of_gt (Int.natCast_pos.mpr hn))) (show m.d c d<(n:Int) by rw [e2]; exact Int.emod_lt_of_pos _ (Int.natCast_pos.mpr hn))
theorem ign {x y:Q}:dem c d (.n .f) (.e x y::H)→dem c d (.h x y) H:=by
 induction H with
 | nil=>exact fun h=>h
 | cons r H ih=>exact fun h q=>ih fun e=>h e q
end
section
variable {a b d f g:Nat} {A B D F:Int}
theorem Zi0:dem [(Int.toNat A)] [A] (.n (.s (.v 0) (.k 17))) [.l (.v 0) (.k 16)]:=itn (.v 0) (.v 0) rfl (M 1101 rfl) (M 101 rfl)
theorem Zi1:dem [(Int.toNat A)] [A] (.e (.c (.v 0)) (.v 0)) [.l (.k 0) (.v 0)]:=itn (.v 0) (.v 0) rfl (ME 101 601 rfl rfl) (ME 1101 11 rfl rfl)
theorem Zi2:dem [a] [] (.l (.c (.v 0)) (.k 5)) [.n (.l (.v 0) (.k 5))]:=M 11 rfl
theorem Zi3:dem [a] [] (.l (.k 0) (.c (.v 0))) []:=M 1 rfl
theorem Zi4:dem [] [A] (.h (.v 0) (.k 0)) [.s (.k 0) (.v 0)]:=ign (M 110 rfl)
theorem Zi5:dem [a] [] (.s (.c (.v 0)) (.w 63)) [.n (.l (.v 0) (.k 1000000))]:=M 11 rfl
theorem Zi6:dem [a] [] (.h (.c (.a (.v 0) (.k 1))) (.k 0)) []:=ign (M 10 rfl)
theorem Zi7:dem [a] [] (.g (.w 63) (.c (.v 0))) [.n (.l (.v 0) (.k 1000000))]:=M 11 rfl
theorem Zi8:dem [] [A,B,D] (.l (.v 2) (.v 1)) [.s (.v 0) (.v 1),.l (.v 2) (.v 0)]:=M 111 rfl
theorem Zi9:dem [] [A,B,D] (.l (.v 0) (.v 2)) [.l (.v 0) (.v 1),.t (.v 2) (.v 1)]:=M 111 rfl
theorem Zi10:dem [] [A,B,D] (.l (.v 0) (.v 2)) [.s (.v 0) (.v 1),.l (.v 1) (.v 2)]:=M 111 rfl
theorem Zi11:dem [] [A,B,D] (.l (.v 2) (.v 1)) [.l (.v 0) (.v 1),.t (.v 0) (.v 2)]:=M 111 rfl
theorem Zi12:dem [] [A,B] (.l (.k 0) (.s (.s (.v 1) (.v 0)) (.k 1))) [.s (.v 0) (.v 1)]:=M 11 rfl
theorem Zi13:dem [] [A] (.l (.k 0) (.v 0)) [.s (.k 0) (.v 0)]:=M 11 rfl
theorem Zi15:dem [] [] (.l (.k 0) (.k 0)) []:=M 1 rfl
theorem Zi16:dem [] [A] (.l (.k 0) (.n (.v 0))) [.t (.k 0) (.v 0)]:=M 11 rfl
theorem Zi17:dem [] [A] (.l (.n (.w 63)) (.v 0)) [.l (.n (.w 60)) (.v 0)]:=M 11 rfl
theorem Zi18:dem [] [A] (.s (.v 0) (.w 63)) [.l (.v 0) (.w 60)]:=M 11 rfl
theorem Zi19:dem [] [A] (.l (.n (.w 63)) (.v 0)) [.l (.k 0) (.v 0)]:=M 11 rfl
theorem Zi20:dem [] [A,B] (.l (.n (.w 63)) (.a (.v 0) (.s (.v 1) (.k 1)))) [.l (.n (.w 60)) (.v 0),.l (.n (.w 60)) (.v 1)]:=M 111 rfl
theorem Zi21:dem [] [A,B] (.s (.a (.v 0) (.s (.v 1) (.k 1))) (.w 63)) [.l (.v 0) (.w 60),.l (.v 1) (.w 60)]:=M 111 rfl
theorem Zi22:dem [] [A,B] (.l (.n (.w 63)) (.a (.v 0) (.a (.v 1) (.k 1)))) [.l (.n (.w 60)) (.v 0),.l (.n (.w 60)) (.v 1)]:=M 111 rfl
theorem Zi23:dem [] [A,B] (.s (.a (.v 0) (.a (.v 1) (.k 1))) (.w 63)) [.l (.v 0) (.w 60),.l (.v 1) (.w 60)]:=M 111 rfl
theorem Zi24:dem [(Int.toNat A)] [A] (.e (.v 0) (.c (.v 0))) [.l (.k 0) (.v 0)]:=itn (.v 0) (.v 0) rfl (ME 601 101 rfl rfl) (ME 11 1101 rfl rfl)
theorem Zi25:dem [(Int.toNat (((A-B)+(1:Int))-(1:Int))),(Int.toNat (A-B))] [A,B] (.n (.e (.v 0) (.v 1))) []:=itn (.s (.a (.s (.v 0) (.v 1)) (.k 1)) (.k 1)) (.v 0) rfl (itn (.s (.v 0) (.v 1)) (.v 1) rfl (MN 10601 60101 rfl rfl) (MN 10011 101 rfl rfl)) (itn (.s (.v 0) (.v 1)) (.v 1) rfl (MN 10001 1101 rfl rfl) (MN 10001 101 rfl rfl))
theorem Zi26:dem [(Int.toNat (0:Int)),(Int.toNat (B-A))] [A,B] (.n (.e (.v 0) (.v 1))) [.t (.v 0) (.v 1)]:=itn (.k 0) (.v 0) rfl (itn (.s (.v 1) (.v 0)) (.v 1) rfl (MN 10001 100101 rfl rfl) (MN 10001 101 rfl rfl)) (itn (.s (.v 1) (.v 0)) (.v 1) rfl (MN 10001 100101 rfl rfl) (MN 10001 101 rfl rfl))
theorem Zi27:dem [b,(Int.toNat (A+((1:Int)*(b:Int)))),(Int.toNat A)] [A] (.n (.e (.v 1) (.a (.v 2) (.v 0)))) [.l (.k 0) (.v 0)]:=itn (.a (.v 0) (.m 1 (.c (.v 0)))) (.v 1) rfl (itn (.v 0) (.v 2) rfl (MN 10601 60101 rfl rfl) (MN 10011 160101 rfl rfl)) (itn (.v 0) (.v 2) rfl (MN 10001 1101 rfl rfl) (MN 10001 101101 rfl rfl))
theorem Zi29:dem [b] [A,(min A (b:Int)),(max (0:Int) (min A (b:Int)))] (.l (.k 0) (.v 2)) []:=imn (.v 0) (.c (.v 0)) (.v 1) rfl (imx (.k 0) (.v 1) (.v 2) rfl (M 611 rfl) (M 601 rfl)) (imx (.k 0) (.v 1) (.v 2) rfl (M 611 rfl) (M 601 rfl))
theorem Zi32:dem [d,(Int.toNat A),(Int.toNat (B-A))] [A,B] (.n (.l (.a (.v 1) (.v 2)) (.v 0))) [.l (.k 0) (.v 0),.l (.v 1) (.c (.v 0)),.l (.v 0) (.c (.v 0))]:=itn (.v 0) (.v 1) rfl (itn (.s (.v 1) (.v 0)) (.v 2) rfl (M 1010101 rfl) (M 10010101 rfl)) (itn (.s (.v 1) (.v 0)) (.v 2) rfl (M 1110101 rfl) (M 10101 rfl))
theorem Zi33:dem [(Int.toNat (B-A))] [A,B] (.n (.e (.v 0) (.k 0))) [.g (.v 0) (.v 1)]:=itn (.s (.v 1) (.v 0)) (.v 0) rfl (MN 1010 1010 rfl rfl) (MN 101 1 rfl rfl)
theorem Zi34:dem [] [A] (.s (.v 0) (.w 63)) [.s (.v 0) (.w 62)]:=M 11 rfl
theorem Zi35:dem [a,b] [] (.n (.s (.v 0) (.v 1))) [.s (.c (.v 0)) (.c (.v 1))]:=M 11 rfl
theorem Zi36:dem [b] [A] (.s (.v 0) (.w 62)) [.s (.v 0) (.c (.v 0)),.n (.l (.v 0) (.k 1000000))]:=M 111 rfl
theorem Zi37:dem [] [A] (.t (.v 0) (.k 0)) [.l (.k 0) (.v 0)]:=M 11 rfl
theorem Zi38:dem [] [A] (.l (.k 0) (.v 0)) [.l (.k 0) (.v 0)]:=M 11 rfl
theorem Zi39:dem [b,(Int.toNat A)] [A] (.s (.v 0) (.c (.v 0))) [.n (.s (.v 1) (.v 0))]:=itn (.v 0) (.v 1) rfl (M 1601 rfl) (M 1011 rfl)
theorem Zi40:dem [] [A] (.s (.v 0) (.w 63)) [.s (.v 0) (.w 60)]:=M 11 rfl
theorem Zi41:dem [] [A] (.t (.v 0) (.n (.w 63))) [.l (.n (.w 60)) (.v 0)]:=M 11 rfl
theorem Zi42:dem [] [A] (.g (.w 63) (.v 0)) [.l (.v 0) (.w 60)]:=M 11 rfl
theorem Zi43:dem [d,(Int.toNat (A-B)),(Int.toNat B)] [A,B] (.n (.e (.v 2) (.k 0))) [.n (.e (.v 1) (.v 0)),.l (.v 0) (.c (.v 0)),.l (.v 1) (.c (.v 0))]:=itn (.s (.v 0) (.v 1)) (.v 1) rfl (itn (.v 1) (.v 2) rfl (MN 1610101 1 rfl rfl) (MN 101 1 rfl rfl)) (itn (.v 1) (.v 2) rfl (MN 10610101 1 rfl rfl) (MN 101 1 rfl rfl))
theorem Zi44:dem [a,b,(Int.toNat (D-F)),(Int.toNat F),(a-(Int.toNat F)),(min (Int.toNat (D-F)) (a-(Int.toNat F)))] [D,F] (.n (.l (.v 5) (.v 1))) [.n (.l (.v 0) (.v 1))]:=itn (.s (.v 0) (.v 1)) (.v 2) rfl (itn (.v 1) (.v 3) rfl (nsp (.v 0) (.v 3) (.v 4) rfl (nmn (.v 2) (.v 4) (.v 5) rfl (M 1000010111 rfl) (M 1000010101 rfl)) (nmn (.v 2) (.v 4) (.v 5) rfl (M 10111 rfl) (M 10101 rfl))) (nsp (.v 0) (.v 3) (.v 4) rfl (nmn (.v 2) (.v 4) (.v 5) rfl (M 1000010111 rfl) (M 1000010101 rfl)) (nmn (.v 2) (.v 4) (.v 5) rfl (M 10111 rfl) (M 10101 rfl)))) (itn (.v 1) (.v 3) rfl (nsp (.v 0) (.v 3) (.v 4) rfl (nmn (.v 2) (.v 4) (.v 5) rfl (M 100000101 rfl) (M 100000111 rfl)) (nmn (.v 2) (.v 4) (.v 5) rfl (M 100000101 rfl) (M 10101 rfl))) (nsp (.v 0) (.v 3) (.v 4) rfl (nmn (.v 2) (.v 4) (.v 5) rfl (M 100000101 rfl) (M 100000111 rfl)) (nmn (.v 2) (.v 4) (.v 5) rfl (M 100000101 rfl) (M 10101 rfl))))
theorem Zi45:dem [a] [] (.e (.a (.k 1) (.c (.v 0))) (.a (.c (.v 0)) (.k 1))) []:=ME 1 1 rfl rfl
theorem Zi46:dem [a,b] [] (.s (.k 0) (.s (.c (.v 1)) (.c (.v 0)))) [.n (.s (.v 0) (.v 1))]:=M 11 rfl
theorem Zi47:dem [a,b] [] (.e (.s (.c (.v 0)) (.c (.a (.v 1) (.k 1)))) (.s (.s (.c (.v 0)) (.c (.v 1))) (.k 1))) []:=ME 1 1 rfl rfl
theorem Zi48:dem [a,b] [] (.l (.s (.c (.v 1)) (.c (.v 0))) (.k 0)) [.n (.t (.v 0) (.v 1))]:=M 11 rfl
theorem Zi49:dem [] [] (.s (.k 0) (.k 1)) []:=M 1 rfl
theorem Zi50:dem [] [A,(((A-(0:Int))-(1:Int))/(1:Int)),(((A-(0:Int))-(1:Int))%(1:Int))] (.e (.a (.v 1) (.k 1)) (.v 0)) []:=idv (.s (.s (.v 0) (.k 0)) (.k 1)) (.v 1) (.v 2) 1 (by decide) rfl rfl (ME 111 1061 rfl rfl)
theorem Zi51:dem [] [A] (.e (.k 0) (.v 0)) [.l (.k 0) (.v 0),.t (.k 0) (.v 0)]:=ME 11 101 rfl rfl
theorem Zi52:dem [] [] (.t (.k 0) (.n (.k 1))) []:=M 1 rfl
theorem Zi53:dem [] [A] (.e (.a (.s (.s (.s (.v 0) (.k 1)) (.n (.k 1))) (.k 1)) (.k 1)) (.v 0)) []:=ME 1 1 rfl rfl
theorem Zi54:dem [] [A] (.e (.k 0) (.v 0)) [.l (.k 0) (.v 0),.t (.n (.k 1)) (.s (.v 0) (.k 1))]:=ME 11 101 rfl rfl
theorem Zi55:dem [] [] (.l (.n (.w 63)) (.k 0)) []:=M 1 rfl
theorem Zi56:dem [] [] (.s (.k 0) (.w 63)) []:=M 1 rfl
theorem Zi57:dem [] [] (.l (.n (.w 63)) (.k 1)) []:=M 1 rfl
theorem Zi58:dem [] [] (.s (.k 1) (.w 63)) []:=M 1 rfl
theorem Zi59:dem [] [] (.l (.n (.w 63)) (.n (.k 1))) []:=M 1 rfl
theorem Zi60:dem [] [] (.s (.n (.k 1)) (.w 63)) []:=M 1 rfl
theorem Zi61:dem [] [] (.l (.n (.w 63)) (.s (.k 0) (.k 1))) []:=M 1 rfl
theorem Zi62:dem [] [] (.s (.s (.k 0) (.k 1)) (.w 63)) []:=M 1 rfl
theorem Zi63:dem [a,b,(Int.toNat ((min ((a:Int)+(1:Int)) (b:Int))-(a:Int)))] [(min ((a:Int)+(1:Int)) (b:Int))] (.n (.e (.v 2) (.k 1))) [.n (.s (.v 0) (.v 1))]:=imn (.a (.c (.v 0)) (.k 1)) (.c (.v 1)) (.v 0) rfl (itn (.s (.v 0) (.c (.v 0))) (.v 2) rfl (MN 10101 60601 rfl rfl) (MN 60010 60010 rfl rfl)) (itn (.s (.v 0) (.c (.v 0))) (.v 2) rfl (MN 11101 160601 rfl rfl) (MN 160010 160010 rfl rfl))
theorem Zi64:dem [a] [] (.l (.n (.w 60)) (.c (.v 0))) []:=M 1 rfl
theorem Zi65:dem [a,b] [] (.l (.c (.v 1)) (.w 60)) [.n (.l (.v 0) (.k 1000000)),.n (.l (.v 1) (.v 0))]:=M 111 rfl
theorem Zi66:dem [a] [] (.l (.n (.w 60)) (.a (.c (.v 0)) (.k 1))) []:=M 1 rfl
theorem Zi67:dem [a,b] [] (.l (.a (.c (.v 1)) (.k 1)) (.w 60)) [.n (.l (.v 0) (.k 1000000)),.n (.l (.v 1) (.v 0))]:=M 111 rfl
theorem Zi73:dem [a,b,(Int.toNat (min (a:Int) (b:Int)))] [(min (a:Int) (b:Int))] (.n (.e (.v 2) (.v 0))) [.n (.l (.v 0) (.v 1))]:=imn (.c (.v 0)) (.c (.v 1)) (.v 0) rfl (itn (.v 0) (.v 2) rfl (MN 10101 60601 rfl rfl) (MN 101 60011 rfl rfl)) (itn (.v 0) (.v 2) rfl (MN 11101 160601 rfl rfl) (MN 101 160011 rfl rfl))
theorem Zi75:dem [a,b,(Int.toNat (min (b:Int) (a:Int)))] [(min (b:Int) (a:Int))] (.n (.l (.v 0) (.v 2))) [.n (.l (.v 0) (.v 1))]:=imn (.c (.v 1)) (.c (.v 0)) (.v 0) rfl (itn (.v 0) (.v 2) rfl (M 160601 rfl) (M 160011 rfl)) (itn (.v 0) (.v 2) rfl (M 60601 rfl) (M 60011 rfl))
theorem Zi77:dem [a] [] (.e (.s (.n (.c (.v 0))) (.k 1)) (.n (.c (.a (.v 0) (.k 1))))) []:=ME 1 1 rfl rfl
theorem Zi83:dem [d,f,g] [A,B] (.s (.v 0) (.c (.v 2))) [.s (.v 0) (.v 1),.l (.v 1) (.c (.v 0)),.n (.l (.v 0) (.v 1)),.n (.l (.v 1) (.v 2))]:=M 11111 rfl
theorem Zi84:dem [a,(Int.toNat ((((((2:Int)*((a:Int)+(1:Int)))-(2:Int))-(1:Int))/(2:Int))+(1:Int)))] [(((((2:Int)*((a:Int)+(1:Int)))-(2:Int))-(1:Int))/(2:Int)),(((((2:Int)*((a:Int)+(1:Int)))-(2:Int))-(1:Int))%(2:Int))] (.n (.e (.v 1) (.v 0))) []:=idv (.s (.s (.m 2 (.a (.c (.v 0)) (.k 1))) (.k 2)) (.k 1)) (.v 0) (.v 1) 2 (by decide) rfl rfl (itn (.a (.v 0) (.k 1)) (.v 1) rfl (MN 11202 106702 rfl rfl) (MN 101 106022 rfl rfl))
theorem Zi85:dem [a,(Int.toNat (0:Int))] [] (.n (.e (.v 1) (.v 0))) [.t (.k 2) (.m 2 (.a (.c (.v 0)) (.k 1)))]:=itn (.k 0) (.v 1) rfl (MN 101 1002 rfl rfl) (MN 101 1002 rfl rfl)
theorem Zi86:dem [a] [] (.e (.a (.k 2) (.m 2 (.c (.v 0)))) (.c (.m 2 (.a (.v 0) (.k 1))))) []:=ME 1 1 rfl rfl
theorem Zi89:dem [b,d,f] [A] (.s (.v 0) (.c (.v 2))) [.s (.v 0) (.r (.s (.c (.v 0)) (.c (.v 1))) 2),.n (.l (.m 2 (.v 0)) (.a (.v 2) (.m 2 (.v 1))))]:=M 111 rfl
theorem Zi92:dem [a] [] (.l (.n (.k 1152921504606846976)) (.m 2 (.a (.c (.v 0)) (.k 1)))) []:=M 1 rfl
theorem Zi93:dem [a] [] (.l (.m 2 (.a (.c (.v 0)) (.k 1))) (.k 1152921504606846976)) [.n (.l (.v 0) (.k 100))]:=M 21 rfl
theorem Zi94:dem [] [A] (.t (.k 40) (.v 0)) [.l (.v 0) (.k 40)]:=M 11 rfl
theorem Zi95:dem [] [A,B] (.t (.v 1) (.v 0)) [.l (.v 0) (.v 1)]:=M 11 rfl
theorem Zi98:dem [a] [] (.l (.c (.v 0)) (.k 40)) [.n (.l (.v 0) (.k 30))]:=M 11 rfl
theorem Zi99:dem [a,b] [] (.l (.c (.v 0)) (.c (.v 1))) [.n (.l (.v 0) (.v 1))]:=M 11 rfl
theorem Zi100:dem [a,b] [] (.s (.c (.v 1)) (.c (.v 0))) [.n (.g (.v 0) (.v 1))]:=M 11 rfl
theorem Zi101:dem [a,b,(min b a)] [] (.e (.c (.v 0)) (.c (.v 2))) [.s (.c (.v 0)) (.c (.v 1))]:=nmn (.v 1) (.v 0) (.v 2) rfl (ME 1010 1010 rfl rfl) (ME 601 101 rfl rfl)
theorem Zi102:dem [a,b,(min b a)] [] (.e (.c (.v 1)) (.c (.v 2))) [.t (.c (.v 0)) (.c (.v 1))]:=nmn (.v 1) (.v 0) (.v 2) rfl (ME 601 101 rfl rfl) (ME 1601 111 rfl rfl)
theorem Zi103:dem [a,b,(max a b)] [] (.e (.c (.v 1)) (.c (.v 2))) [.s (.c (.v 0)) (.c (.v 1))]:=nmx (.v 0) (.v 1) (.v 2) rfl (ME 601 101 rfl rfl) (ME 1010 1010 rfl rfl)
theorem Zi104:dem [a,b,(max b a)] [] (.e (.c (.v 1)) (.c (.v 2))) [.t (.c (.v 1)) (.c (.v 0))]:=nmx (.v 1) (.v 0) (.v 2) rfl (ME 611 1101 rfl rfl) (ME 601 101 rfl rfl)
theorem Zi116:dem [a] [] (.s (.k 0) (.c (.v 0))) [.n (.s (.k 0) (.v 0))]:=M 11 rfl
theorem Zi117:dem [a] [] (.s (.c (.v 0)) (.k 1000000000)) [.n (.l (.v 0) (.k 65536))]:=M 11 rfl
theorem Zi119:dem [a] [] (.e (.a (.k 1) (.c (.v 0))) (.c (.a (.v 0) (.k 1)))) []:=ME 1 1 rfl rfl
theorem Zi120:dem [a] [] (.l (.c (.v 0)) (.k 1152921504606846976)) [.n (.l (.v 0) (.k 3))]:=M 11 rfl
theorem Zi121:dem [a] [] (.l (.c (.v 0)) (.k 1152921504606846976)) [.n (.l (.v 0) (.k 8))]:=M 11 rfl
theorem Zi122:dem [a,b] [] (.e (.a (.c (.v 0)) (.c (.v 1))) (.c (.a (.v 0) (.v 1)))) []:=ME 1 1 rfl rfl
theorem Zi123:dem [a,b,d,f,g,((d+g)-(2*b))] [] (.e (.m 2 (.s (.a (.c (.v 2)) (.c (.v 4))) (.m 2 (.c (.v 1))))) (.c (.m 2 (.v 5)))) [.n (.e (.v 0) (.v 1)),.n (.l (.v 0) (.v 2)),.n (.e (.v 3) (.v 1)),.n (.l (.v 3) (.v 4))]:=nsp (.a (.v 2) (.v 4)) (.m 2 (.v 1)) (.v 5) rfl (ME 701 201 rfl rfl) (ME 21 2727201 rfl rfl)
theorem Zi124:dem [a] [] (.l (.c (.v 0)) (.k 1152921504606846976)) [.n (.s (.v 0) (.k 4))]:=M 11 rfl
theorem Zi125:dem [a,b,d] [] (.l (.n (.k 1152921504606846976)) (.s (.a (.c (.v 1)) (.c (.v 2))) (.m 2 (.c (.v 0))))) [.n (.s (.v 0) (.k 4))]:=M 21 rfl
theorem Zi126:dem [a,b,d] [] (.l (.s (.a (.c (.v 0)) (.c (.v 1))) (.m 2 (.c (.v 2)))) (.k 1152921504606846976)) [.n (.l (.v 0) (.k 3)),.n (.l (.v 1) (.k 3))]:=M 111 rfl
theorem Zi127:dem [a] [] (.l (.c (.v 0)) (.k 1152921504606846976)) [.n (.s (.v 0) (.k 5))]:=M 11 rfl
theorem Zi128:dem [a,b] [] (.n (.e (.v 0) (.v 1))) [.e (.c (.v 0)) (.c (.v 1))]:=MN 11 61 rfl rfl
theorem Zi129:dem [d] [A,B] (.e (.v 0) (.c (.v 0))) [.e (.v 0) (.a (.v 1) (.k 1)),.l (.v 0) (.v 1)]:=ME 160 160 rfl rfl
theorem Zi130:dem [d] [A,B] (.s (.v 1) (.c (.v 0))) [.g (.v 0) (.v 1),.e (.v 0) (.c (.v 0))]:=M 111 rfl
theorem Zi131:dem [a,b,(min b a)] [] (.n (.e (.v 2) (.v 0))) [.l (.c (.v 0)) (.s (.n (.n (.c (.v 1)))) (.k 1))]:=nmn (.v 1) (.v 0) (.v 2) rfl (MN 1010 1010 rfl rfl) (MN 101 601 rfl rfl)
theorem Zi132:dem [a,b,(min a b)] [] (.n (.e (.v 2) (.v 0))) [.s (.s (.n (.n (.c (.v 0)))) (.k 1)) (.c (.v 1))]:=nmn (.v 0) (.v 1) (.v 2) rfl (MN 101 601 rfl rfl) (MN 111 1601 rfl rfl)
theorem Zi133:dem [a,b,(Int.toNat ((min (a:Int) (b:Int))-(0:Int)))] [(min (a:Int) (b:Int))] (.n (.e (.v 2) (.v 0))) [.n (.l (.v 0) (.v 1))]:=imn (.c (.v 0)) (.c (.v 1)) (.v 0) rfl (itn (.s (.v 0) (.k 0)) (.v 2) rfl (MN 10101 60601 rfl rfl) (MN 101 60011 rfl rfl)) (itn (.s (.v 0) (.k 0)) (.v 2) rfl (MN 11101 160601 rfl rfl) (MN 101 160011 rfl rfl))
theorem Zi134:dem [a,b,(Int.toNat ((min (b:Int) (a:Int))-(0:Int)))] [(min (b:Int) (a:Int))] (.n (.l (.v 0) (.v 2))) [.n (.l (.v 0) (.v 1))]:=imn (.c (.v 1)) (.c (.v 0)) (.v 0) rfl (itn (.s (.v 0) (.k 0)) (.v 2) rfl (M 160601 rfl) (M 160011 rfl)) (itn (.s (.v 0) (.k 0)) (.v 2) rfl (M 60601 rfl) (M 60011 rfl))
theorem Zi135:dem [a,b,(a-b),(Int.toNat ((a:Int)-(min (b:Int) (a:Int))))] [(min (b:Int) (a:Int))] (.n (.l (.v 2) (.v 3))) []:=nsp (.v 0) (.v 1) (.v 2) rfl (imn (.c (.v 1)) (.c (.v 0)) (.v 0) rfl (itn (.s (.c (.v 0)) (.v 0)) (.v 3) rfl (M 1010601 rfl) (M 1010011 rfl)) (M 10011 rfl)) (M 101 rfl)
theorem Zi136:dem [b,(Int.toNat (((((b:Int)-A)+(5:Int))-(1:Int))/(5:Int)))] [A,(((((b:Int)-A)+(5:Int))-(1:Int))/(5:Int)),(((((b:Int)-A)+(5:Int))-(1:Int))%(5:Int))] (.n (.l (.v 1) (.a (.v 0) (.k 4)))) [.l (.k 0) (.v 0)]:=idv (.s (.a (.s (.c (.v 0)) (.v 0)) (.k 5)) (.k 1)) (.v 1) (.v 2) 5 (by decide) rfl rfl (itn (.v 1) (.v 1) rfl (M 1011141 rfl) (M 101 rfl))
theorem Zi137:dem [] [A,(A/(1000000:Int)),(A%(1000000:Int))] (.l (.k 0) (.v 2)) []:=idv (.v 0) (.v 1) (.v 2) 1000000 (by decide) rfl rfl (M 101 rfl)
theorem Zi138:dem [] [A,(A/(1000000:Int)),(A%(1000000:Int))] (.s (.v 2) (.k 1000000)) []:=idv (.v 0) (.v 1) (.v 2) 1000000 (by decide) rfl rfl (M 1001 rfl)
theorem Zi139:dem [a,b,d,f,g,(g-(a+((b+d)+f))),(g-(d+f))] [] (.n (.e (.a (.a (.v 5) (.v 0)) (.v 1)) (.v 6))) [.n (.l (.a (.v 0) (.a (.a (.v 1) (.v 2)) (.v 3))) (.v 4))]:=nsp (.v 4) (.a (.v 0) (.a (.a (.v 1) (.v 2)) (.v 3))) (.v 5) rfl (nsp (.v 4) (.a (.v 2) (.v 3)) (.v 6) rfl (MN 10601 60101 rfl rfl) (MN 10011 101 rfl rfl)) (nsp (.v 4) (.a (.v 2) (.v 3)) (.v 6) rfl (MN 110601 1101 rfl rfl) (MN 110011 101 rfl rfl))
theorem Zi140:dem [a,b,d,f,g,(g-(a+((b+d)+f))),(g-(d+f))] [] (.e (.a (.a (.a (.k 1) (.c (.v 5))) (.c (.v 0))) (.c (.v 1))) (.a (.k 1) (.c (.v 6)))) [.n (.l (.a (.v 0) (.a (.a (.v 1) (.v 2)) (.v 3))) (.v 4))]:=nsp (.v 4) (.a (.v 0) (.a (.a (.v 1) (.v 2)) (.v 3))) (.v 5) rfl (nsp (.v 4) (.a (.v 2) (.v 3)) (.v 6) rfl (ME 10601 60101 rfl rfl) (ME 10011 101 rfl rfl)) (nsp (.v 4) (.a (.v 2) (.v 3)) (.v 6) rfl (ME 110601 1101 rfl rfl) (ME 110011 101 rfl rfl))
theorem Zi141:dem [a,b,(b-a)] [] (.e (.a (.a (.k 1) (.c (.v 2))) (.c (.v 0))) (.a (.k 1) (.c (.v 1)))) [.n (.l (.v 0) (.v 1))]:=nsp (.v 1) (.v 0) (.v 2) rfl (ME 101 601 rfl rfl) (ME 1101 11 rfl rfl)
theorem Zi143:dem [a,b] [] (.t (.c (.v 1)) (.c (.v 0))) [.n (.l (.v 0) (.v 1))]:=M 11 rfl
theorem Zi144:dem [a,b,(a-1),((a-1)/2),((a-1)%2)] [(((a:Int)-(1:Int))/(2:Int)),(((a:Int)-(1:Int))%(2:Int))] (.e (.v 0) (.c (.v 3))) [.n (.g (.v 0) (.v 1))]:=idv (.s (.c (.v 0)) (.k 1)) (.v 0) (.v 1) 2 (by decide) rfl rfl (nsp (.v 0) (.k 1) (.v 2) rfl (ndv (.v 2) (.v 3) (.v 4) 2 (by decide) rfl rfl (ME 1160162 10610012 rfl rfl)) (ndv (.v 2) (.v 3) (.v 4) 2 (by decide) rfl rfl (ME 1101002 110610012 rfl rfl)))
theorem Zi146:dem [a] [] (.e (.a (.c (.a (.m 2 (.v 0)) (.k 1))) (.k 1)) (.c (.a (.m 2 (.v 0)) (.k 2)))) []:=ME 1 1 rfl rfl
theorem Zi153:dem [] [A,B,(min B A)] (.e (.v 0) (.v 2)) [.s (.v 0) (.v 1)]:=imn (.v 1) (.v 0) (.v 2) rfl (ME 1010 1010 rfl rfl) (ME 601 101 rfl rfl)
theorem Zi154:dem [] [A,B,(min B A)] (.e (.v 1) (.v 2)) [.t (.v 0) (.v 1)]:=imn (.v 1) (.v 0) (.v 2) rfl (ME 601 101 rfl rfl) (ME 1601 111 rfl rfl)
theorem Zi155:dem [a] [] (.l (.c (.v 0)) (.w 60)) [.n (.l (.v 0) (.k 1000000000))]:=M 11 rfl
theorem Zi156:dem [a,b] [] (.l (.n (.w 60)) (.n (.c (.v 1)))) [.n (.l (.v 0) (.k 1000000)),.n (.l (.v 1) (.v 0))]:=M 111 rfl
theorem Zi157:dem [a] [] (.l (.n (.c (.v 0))) (.w 60)) []:=M 1 rfl
theorem Zi158:dem [a] [] (.s (.n (.c (.v 0))) (.k 0)) [.n (.s (.k 0) (.v 0))]:=M 11 rfl
theorem Zi159:dem [a,b] [] (.l (.k 0) (.a (.n (.c (.v 0))) (.c (.v 1)))) [.n (.l (.v 0) (.v 1))]:=M 11 rfl
theorem Zi160:dem [a,b] [] (.s (.a (.n (.c (.v 0))) (.c (.v 1))) (.c (.v 1))) [.n (.s (.k 0) (.v 0))]:=M 11 rfl
theorem Zi161:dem [a,b,(Int.toNat ((-(a:Int))+(b:Int))),(b-a)] [] (.n (.e (.v 2) (.v 3))) []:=itn (.a (.n (.c (.v 0))) (.c (.v 1))) (.v 2) rfl (nsp (.v 1) (.v 0) (.v 3) rfl (MN 10601 60101 rfl rfl) (MN 10011 101 rfl rfl)) (nsp (.v 1) (.v 0) (.v 3) rfl (MN 10001 1101 rfl rfl) (MN 10001 101 rfl rfl))
theorem Zi162:dem [a] [] (.s (.c (.v 0)) (.w 60)) [.n (.s (.v 0) (.k 1000000000))]:=M 11 rfl
theorem Zi169:dem [a] [] (.n (.l (.v 0) (.k 63))) [.t (.c (.k 63)) (.c (.v 0))]:=M 11 rfl
end
end Mine
end
section
open PySem PySem.W PyProof.Rows
namespace Mine
section
noncomputable def pwp {α:Type} (n:Nat) (c:Nat→Nat→Bool):KasT α→(α→Prop)→Prop
 | .ret a,Q=>Q a
 | .ask i j k,Q=>i<n∧j<n∧pwp n c (k (c i j)) Q
theorem YBN {α β:Type} {n:Nat} {c:Nat→Nat→Bool} {f:α→KasT β} {Q:β→Prop}:∀ (t:KasT α),pwp n c (t.bind f) Q↔pwp n c t (fun a=>pwp n c (f a) Q)
 | .ret _=>Iff.rfl
 | .ask i j k=>by
  show (i<n∧j<n∧pwp n c ((k (c i j)).bind f) Q)↔(i<n∧j<n∧pwp n c (k (c i j)) fun a=>pwp n c (f a) Q)
  rw [YBN (k (c i j))]
theorem YAH {α:Type} {n:Nat} {c:Nat→Nat→Bool} {Q Q':α→Prop} (h:∀ a,Q a→Q' a):∀ (t:KasT α),pwp n c t Q→pwp n c t Q'
 | .ret a,q=>h a q
 | .ask i j k,q=>⟨q.1,q.2.1,YAH h (k (c i j)) q.2.2⟩
set_option genInjectivity false in
structure SO (α:Type) where
 lt:α→α→Bool
 irr:∀ a,lt a a=false
 tr:∀ a b c,lt a b=true→lt b c=true→lt a c=true
 tot:∀ a b,lt a b=false→lt b a=false→a=b
namespace SO
variable {α:Type} (o:SO α)
noncomputable def le (a b:α):Prop:=o.lt b a=false
theorem le_refl (a:α):o.le a a:=o.irr a
theorem le_of_lt {a b:α} (h:o.lt a b=true):o.le a b:=by
 unfold le
 cases q:o.lt b a with
 | false=>rfl
 | true=>have:=o.tr _ _ _ h q; rw [o.irr] at this; cases this
theorem le_trans {a b c:α} (h1:o.le a b) (h2:o.le b c):o.le a c:=by
 unfold le at *
 cases q:o.lt c a with
 | false=>rfl
 | true=>
  cases r:o.lt a b with
  | true=>have:=o.tr _ _ _ q r; rw [this] at h2; cases h2
  | false=>have e:=o.tot _ _ r h1; subst e; rw [q] at h2; cases h2
theorem le_anti {a b:α} (h1:o.le a b) (h2:o.le b a):a=b:=o.tot _ _ h2 h1
end SO
section
variable {α:Type} (o:SO α) (K:Nat→α) (n:Nat)
set_option genInjectivity false in
structure Arr (p:Array Nat):Prop where
 perm:p.toList.Perm (List.range n)
theorem Arr.size {p:Array Nat} (h:Arr n p):p.size=n:=by have:=h.perm.length_eq; simpa using this
theorem Arr.lt {p:Array Nat} (h:Arr n p) {i:Nat} (hi:i<n):p.getD i 0<n:=by
 have hs:=h.size
 have hi':i<p.size:=by exact Ze14 hi hs
 have:p.getD i 0=p[i]:=by simp [Array.getD,hi']
 rw [this]
 have hm:p[i]∈p.toList:=by simp
 exact List.mem_range.mp ((h.perm.mem_iff).mp hm)
theorem Arr.of {p q:Array Nat} (h:Arr n p) (hq:q.Perm p):Arr n q:=⟨(Array.perm_iff_toList_perm.mp hq).trans h.perm⟩
abbrev PK (p:Array Nat) (i:Nat):α:=K (p.getD i 0)
theorem YAA {p q:Array Nat} {i j:Nat} (h:p[i]?=q[j]?):p.getD i 0=q.getD j 0:=by
 rw [Array.getD_eq_getD_getElem?,Array.getD_eq_getD_getElem?,h]
noncomputable def Asc (p:Array Nat) (m:Nat):Prop:=∀ i j,i≤j→j<m→o.le (PK K p i) (PK K p j)
noncomputable def Dsc (p:Array Nat) (m:Nat):Prop:=∀ i j,i≤j→j<m→o.le (PK K p j) (PK K p i)
noncomputable def cmpK:Nat→Nat→Bool:=fun i j=>o.lt (K i) (K j)
theorem YKJ {p:Array Nat} (hp:Arr n p):∀ (f m:Nat),1≤m→m+f≤n→Asc o K p m→
  pwp n (cmpK o K) (kas_asc p f m) (fun r=>m≤r∧r≤m+f∧Asc o K p r∧(r=m+f∨(r<n∧o.lt (PK K p r) (PK K p (r-1))=true)))
 | 0,m,h1,h2,h3=>⟨Nat.le_refl _,Nat.le_refl _,h3,.inl rfl⟩
 | f+1,m,h1,h2,h3=>by
  refine ⟨hp.lt _ (by exact Ze311 h2),hp.lt _ (by exact Ze312 h2),?_⟩
  show pwp _ _ (if cmpK o K (p.getD m 0) (p.getD (m-1) 0)=true then _ else _) _
  split
  ·rename_i hc
   exact ⟨Nat.le_refl _,by exact Ze313,h3,.inr ⟨by exact Ze311 h2,hc⟩⟩
  ·rename_i hc
   have hc:o.le (PK K p (m-1)) (PK K p m):=eq_false_of_ne_true hc
   refine YAH (fun r hr=>⟨by exact Ze10 hr.1,by exact Ze314 hr.2.1,hr.2.2.1,?_⟩) _ (YKJ hp f (m+1) (by exact Ze145) (by exact Ze315 h2) fun i j hij hj=>?_)
   ·rcases hr.2.2.2 with q | q
    ·left; exact Ze316 q
    ·exact .inr q
   ·by_cases q:j<m
    ·exact h3 i j hij q
    ·have hj:j=m:=by exact Ze317 hj q
     subst hj
     by_cases q2:i=j
     ·subst q2; exact o.le_refl _
     ·exact o.le_trans (h3 i (j-1) (by exact Ze318 q2 hij) (by exact Ze319 h1)) hc
theorem YEv {p:Array Nat} (hp:Arr n p) (i j:Nat):Arr n (kas_rev p i j):=hp.of n (mirror_perm _ _ _ _)
theorem YGG {p:Array Nat} {i j:Nat} (hj:j≤p.size) (k:Nat):(kas_rev p i j)[k]?=if i≤k∧k<j then p[i+j-1-k]? else p[k]?:=getElem?_mirror_all hj k
theorem YIy {p:Array Nat} {i j:Nat} (hj:j≤p.size) (he:∀ k,i≤k→k<j→PK K p k=PK K p (j-1)) (k:Nat):PK K (kas_rev p i j) k=PK K p k:=by
 have h:=YGG (i:=i) hj k
 split at h
 ·rename_i q
  rw [PK,YAA h]
  exact (he _ (by exact Ze320 q.2) (by exact Ze321 q.2 q.1)).trans (he k q.1 q.2).symm
 ·rw [PK,YAA h]
theorem YNP {p:Array Nat} {m:Nat} (hm:m≤p.size) (h:Dsc o K p m):Asc o K (kas_rev p 0 m) m:=by
 intro i j hij hj
 have h1:=YGG (i:=0) hm i
 have h2:=YGG (i:=0) hm j
 rw [if_pos (by (first | exact ⟨Ze77,Ze322 hj hij⟩ | exact ⟨Ze77,Ze323 hj⟩))] at h1 h2
 rw [PK,PK,YAA h1,YAA h2]
 exact h _ _ (by exact Ze324 hij) (by exact Ze325 hj)
theorem YEN:∀ (f:Nat) (p:Array Nat) (m q:Nat),Arr n p→1≤m→q<m→m+f≤n→Dsc o K p m→(∀ k,m-(q+1)≤k→k<m→PK K p k=PK K p (m-1))→
  pwp n (cmpK o K) (kas_desc f p m q) (fun r=>Arr n r.1∧m≤r.2.1∧r.2.1≤m+f∧r.2.2<r.2.1∧Dsc o K r.1 r.2.1∧(∀ k,r.2.1-(r.2.2+1)≤k→k<r.2.1→PK K r.1 k=PK K r.1 (r.2.1-1)))
 | 0,p,m,q,hp,h1,hq,h2,h3,h4=>⟨hp,Nat.le_refl _,Nat.le_refl _,hq,h3,h4⟩
 | f+1,p,m,q,hp,h1,hq,h2,h3,h4=>by
  refine ⟨hp.lt _ (by exact Ze311 h2),hp.lt _ (by exact Ze312 h2),?_⟩
  show pwp _ _ (if cmpK o K (p.getD m 0) (p.getD (m-1) 0)=true then _ else _) _
  have ext:∀ {p':Array Nat},(∀ k,PK K p' k=PK K p k)→o.le (PK K p m) (PK K p (m-1))→Dsc o K p' (m+1):=fun {p'} he hle i j hij hj=>by
   rw [he,he]
   by_cases z:j<m
   ·exact h3 i j hij z
   ·have hj:j=m:=by exact Ze317 hj z
    subst hj
    by_cases q2:i=j
    ·subst q2; exact o.le_refl _
    ·exact o.le_trans hle (h3 i (j-1) (by exact Ze318 q2 hij) (by exact Ze319 h1))
  split
  ·rename_i hc
   have hle:o.le (PK K p m) (PK K p (m-1)):=o.le_of_lt hc
   split
   ·have he:=YIy K (p:=p) (i:=m-(q+1)) (j:=m) (by rw [hp.size]; exact Ze326 h2) h4
    refine YAH (fun r hr=>⟨hr.1,by exact Ze10 hr.2.1,by exact Ze314 hr.2.2.1,hr.2.2.2⟩) _ (YEN f _ (m+1) 0 (YEv n hp _ _) (by exact Ze145) (by exact Ze304) (by exact Ze315 h2) (ext he hle) fun k k1 k2=>?_)
    have:k=m:=by exact Ze327 k1 k2
    subst this; rfl
   ·refine YAH (fun r hr=>⟨hr.1,by exact Ze10 hr.2.1,by exact Ze314 hr.2.2.1,hr.2.2.2⟩) _ (YEN f _ (m+1) 0 hp (by exact Ze145) (by exact Ze304) (by exact Ze315 h2) (ext (fun _=>rfl) hle) fun k k1 k2=>?_)
    have:k=m:=by exact Ze327 k1 k2
    subst this; rfl
  ·rename_i hc
   have hc:o.lt (PK K p m) (PK K p (m-1))=false:=eq_false_of_ne_true hc
   refine ⟨hp.lt _ (by exact Ze312 h2),hp.lt _ (by exact Ze311 h2),?_⟩
   show pwp _ _ (if cmpK o K (p.getD (m-1) 0) (p.getD m 0)=true then _ else _) _
   split
   ·exact ⟨hp,Nat.le_refl _,by show m≤m+(f+1); exact Ze313,hq,h3,h4⟩
   ·rename_i hd
    have hd:o.lt (PK K p (m-1)) (PK K p m)=false:=eq_false_of_ne_true hd
    have e:PK K p m=PK K p (m-1):=o.tot _ _ hc hd
    refine YAH (fun r hr=>⟨hr.1,by exact Ze10 hr.2.1,by exact Ze314 hr.2.2.1,hr.2.2.2⟩) _ (YEN f _ (m+1) (q+1) hp (by exact Ze145) (by exact Ze95 hq) (by exact Ze315 h2) (ext (fun _=>rfl) (by rw [e]; exact o.le_refl _)) fun k k1 k2=>?_)
    by_cases z:k=m
    ·subst z; rfl
    ·rw [h4 k (by exact Ze328 k1) (by exact Ze68 z k2),←e]; rfl
theorem YHC {p:Array Nat} {m:Nat} (hp:Arr n p) (h1:1≤m) (hm:m≤n) (h:Dsc o K p m):pwp n (cmpK o K) (kas_tail3 m n p) (fun r=>Arr n r.2∧1≤r.1∧r.1≤n∧Asc o K r.2 r.1):=by
 unfold kas_tail3
 rw [YBN]
 have hr:=YEv n hp 0 m
 refine YAH (fun r q=>?_) _ (YKJ o K n hr (n-m) m h1 (by exact Ze329 hm) (YNP o K (by rw [hp.size]; exact hm) h))
 exact ⟨hr,by exact Ze330 h1 q.1,by exact Ze331 q.2.1 hm,q.2.2.1⟩
theorem YCn {p:Array Nat} {m:Nat} (hp:Arr n p) (h1:1≤m) (hm:m<n) (h:Dsc o K p (m+1)):pwp n (cmpK o K) (kas_descPart m n p) (fun r=>Arr n r.2∧1≤r.1∧r.1≤n∧Asc o K r.2 r.1):=by
 unfold kas_descPart
 rw [YBN]
 refine YAH (fun r q=>?_) _ (YEN o K n (n-(m+1)) p (m+1) 0 hp (by exact Ze145) (by exact Ze304) (by exact Ze332 hm) h fun k k1 k2=>by
  have:k=m:=by exact Ze327 k1 k2
  subst this; rfl)
 obtain ⟨g1,g2,g3,g4,g5,g6⟩:=q
 split
 ·have he:=YIy K (p:=r.1) (i:=r.2.1-(r.2.2+1)) (j:=r.2.1) (by rw [g1.size]; exact Ze333 hm g3) g6
  exact YHC o K n (YEv n g1 _ _) (by exact Ze334 g2) (by exact Ze333 hm g3) fun i j hij hj=>by rw [he,he]; exact g5 i j hij hj
 ·exact YHC o K n g1 (by exact Ze334 g2) (by exact Ze333 hm g3) g5
theorem YLu {p:Array Nat} (hp:Arr n p) (hn:1≤n):pwp n (cmpK o K) (kas_count n p) (fun r=>Arr n r.2∧1≤r.1∧r.1≤n∧Asc o K r.2 r.1):=by
 unfold kas_count
 rw [YBN]
 refine YAH (fun m q=>?_) _ (YKJ o K n hp (n-1) 1 (Nat.le_refl _) (by exact Ze335 hn) fun i j hij hj=>by
  have:i=0:=by exact Ze336 hj hij
  have:j=0:=by exact Ze337 hj
  subst i; subst j; exact o.le_refl _)
 obtain ⟨g1,g2,g3,g4⟩:=q
 split
 ·exact ⟨hp,g1,by exact Ze338 hn g2,g3⟩
 ·rename_i hne
  have hne:m≠n:=by simpa using hne
  obtain ⟨hlt,hc⟩:m<n∧o.lt (PK K p m) (PK K p (m-1))=true:=by
   rcases g4 with q | q
   ·lia
   ·exact q
  split
  ·rename_i hm
   refine ⟨hp.lt _ (by exact Ze339 hn),hp.lt _ (by exact Ze340 hn g2),?_⟩
   show pwp _ _ (if cmpK o K (p.getD 0 0) (p.getD (m-1) 0)=true then _ else _) _
   split
   ·exact ⟨hp,g1,by exact Nat.le_of_lt (by assumption),g3⟩
   ·rename_i hd
    have hd:o.le (PK K p (m-1)) (PK K p 0):=eq_false_of_ne_true hd
    have eqs:∀ k,0≤k→k<m→PK K p k=PK K p (m-1):=fun k _ hk=>o.le_anti (g3 k (m-1) (by exact Ze341 hk) (by exact Ze319 g1)) (o.le_trans hd (g3 0 k (by assumption) hk))
    have he:=YIy K (p:=p) (i:=0) (j:=m) (by rw [hp.size]; exact Nat.le_of_lt (by assumption)) eqs
    refine YCn o K n (YEv n hp _ _) g1 hlt fun i j hij hj=>?_
    rw [he,he]
    by_cases z:j<m
    ·rw [eqs i (by exact Ze77) (by exact Ze322 z hij),eqs j (by exact Ze77) z]; exact o.le_refl _
    ·have:j=m:=by exact Ze317 hj z
     subst this
     by_cases z2:i=j
     ·subst z2; exact o.le_refl _
     ·rw [eqs i (by exact Ze77) (by exact Ze184 z2 hij)]; exact o.le_of_lt hc
  ·have hm:m=1:=by exact Ze342 g1 ‹_›
   subst hm
   refine YCn o K n hp g1 hlt fun i j hij hj=>?_
   by_cases z:i=j
   ·subst z; exact o.le_refl _
   ·have:i=0:=by exact Ze343 z hj hij
    have:j=1:=by exact Ze344 z hj hij
    subst i; subst j
    exact o.le_of_lt hc
theorem YEo {p:Array Nat} (hp:Arr n p) {k:Nat} (hk:k<n) (hs:Asc o K p k):∀ (f l r:Nat),l≤r→r≤k→r-l≤f→(∀ i,i<l→o.le (PK K p i) (PK K p k))→(∀ i,r≤i→i<k→o.lt (PK K p k) (PK K p i)=true)→
  pwp n (cmpK o K) (kas_place p k f l r) (fun l'=>l'≤k∧(∀ i,i<l'→o.le (PK K p i) (PK K p k))∧(∀ i,l'≤i→i<k→o.lt (PK K p k) (PK K p i)=true))
 | 0,l,r,h1,h2,h3,h4,h5=>⟨by exact Ze345 h1 h2,h4,fun i hi=>h5 i (by exact Ze346 h3 hi)⟩
 | f+1,l,r,h1,h2,h3,h4,h5=>by
  unfold kas_place
  split
  ·exact ⟨by exact Ze345 h1 h2,h4,fun i hi=>h5 i (by exact Ze345 ‹_› hi)⟩
  ·refine ⟨hp.lt _ (by assumption),hp.lt _ (by exact Ze347 hk h2 h1),?_⟩
   show pwp _ _ (if cmpK o K (p.getD k 0) (p.getD ((l+r)/2) 0)=true then _ else _) _
   split
   ·rename_i hc
    refine YEo hp hk hs f l ((l+r)/2) (by exact Ze348 h1) (by exact Ze349 h1 h2) (by exact Ze350 h3) h4 fun i hi hik=>?_
    have hle:=hs ((l+r)/2) i hi hik
    have hc:o.lt (PK K p k) (PK K p ((l+r)/2))=true:=hc
    cases q:o.lt (PK K p k) (PK K p i) with
    | true=>rfl
    | false=>exact absurd (o.le_trans hle q) (by unfold SO.le; rw [hc]; simp)
   ·rename_i hc
    have hc:o.le (PK K p ((l+r)/2)) (PK K p k):=eq_false_of_ne_true hc
    exact YEo hp hk hs f ((l+r)/2+1) r (by exact Ze351 ‹_›) h2 (by exact Ze352 h3) (fun i hi=>o.le_trans (hs i ((l+r)/2) (by exact Ze353 hi) (by exact Ze354 h2 ‹_›)) hc) h5
theorem YOG {p:Array Nat} (hp:Arr n p) (k d:Nat):Arr n (bubble p k d):=hp.of n (bubble_perm _ _ _)
theorem YPd {p:Array Nat} {k l:Nat} (hk:k<p.size) (hl:l≤k) (hs:Asc o K p k) (h1:∀ i,i<l→o.le (PK K p i) (PK K p k)) (h2:∀ i,l≤i→i<k→o.lt (PK K p k) (PK K p i)=true):Asc o K (bubble p k (k-l)) (k+1):=by
 have g:∀ i,PK K (bubble p k (k-l)) i=if i=l then PK K p k else if l<i∧i≤k then PK K p (i-1) else PK K p i:=fun i=>by
  have h:=getElem?_bubble hk (k-l) (by exact Ze211) i
  rw [show k-(k-l)=l by exact Ze355 hl] at h
  split at h
  ·rename_i q; rw [if_pos q,PK,YAA h]
  ·rename_i q
   rw [if_neg q]
   split at h
   ·rename_i q2; rw [if_pos q2,PK,YAA h]
   ·rename_i q2; rw [if_neg q2,PK,YAA h]
 intro i j hij hj
 rw [g,g]
 split
 ·split
  ·exact o.le_refl _
  ·rw [if_pos (by exact ⟨Ze356 ‹_› ‹_› hij,Ze357 hj⟩)]
   exact o.le_of_lt (h2 _ (by exact Ze358 ‹_› ‹_› hij) (by exact Ze359 ‹_› hj hl))
 ·split
  ·split
   ·lia
   ·rw [if_pos (by lia)]
    exact hs _ _ (by exact Ze360 hij) (by exact Ze361 ‹_› hj hij hl)
  ·split
   ·exact h1 _ (by lia)
   ·split
    ·exact hs _ _ (by lia) (by exact Ze361 ‹_› hj hij hl)
    ·exact hs _ _ (by assumption) (by lia)
theorem YKC:∀ (f:Nat) (p:Array Nat) (k:Nat),Arr n p→k+f=n→Asc o K p k→pwp n (cmpK o K) (kas_bin f p k) (fun p=>Arr n p∧Asc o K p n)
 | 0,p,k,hp,h1,h2=>⟨hp,by cases (show k=n from Ze45 h1); exact h2⟩
 | f+1,p,k,hp,h1,h2=>by
  unfold kas_bin
  rw [YBN]
  refine YAH (fun l q=>?_) _ (YEo o K n hp (by exact Ze42 h1) h2 k 0 k (Nat.zero_le _) (Nat.le_refl _) (by exact Ze362) (fun i hi=>absurd hi (by exact Ze363)) fun i a b=>absurd a (by exact Ze364 b))
  exact YKC f _ (k+1) (YOG n hp _ _) (by exact Ze43 h1) (YPd o K (by rw [hp.size]; exact Ze42 h1) q.1 h2 q.2.1 q.2.2)
theorem YPa (hn:1≤n):pwp n (cmpK o K) (kas_sort n) (fun p=>Arr n p∧Asc o K p n):=by
 unfold kas_sort
 rw [YBN]
 refine YAH (fun r q=>?_) _ (YLu o K n ⟨by simp⟩ hn)
 obtain ⟨g1,g2,g3,g4⟩:=q
 rw [show max r.1 1=r.1 by exact Ze365 g2]
 split
 ·exact YKC o K n _ _ _ g1 (by exact Ze366 g3) g4
 ·have:r.1=n:=by exact Ze367 g3 ‹_›
  exact ⟨g1,this▸g4⟩
end
end
end Mine
end
section
open PySem
namespace Mine
section
inductive AV where
 | none | bool (b:Bool) | int (i:Int) | str (s:List Nat)
 | tup (vs:List AV) | lst (vs:List AV)
 | rng (a b c:Int)
 | loc (n:Nat)
 deriving Inhabited
inductive AO where
 | list (vs:List AV)
 | lexer (text:List Nat) (pos:Nat) (line:Int) (push:Nat)
 | citer (lx:Nat) (live:Bool)
 | codes (full:Bool)
 deriving Inhabited
set_option genInjectivity false in
structure Own where
 pv:List Addr
 os:List (List Addr)
noncomputable def Own.all (μ:Own):List Addr:=μ.pv++μ.os.flatten
noncomputable def Own.add (μ:Own) (ν:List (List Addr)):Own:=⟨μ.pv,μ.os++ν⟩
theorem Own.add_nil (μ:Own):μ.add []=μ:=by simp [Own.add]
theorem Own.add_add (μ:Own) (ν ν':List (List Addr)):(μ.add ν).add ν'=μ.add (ν++ν'):=by simp [Own.add]
theorem Own.os_all {μ:Own} {a:Addr} (h:a∈μ.os.flatten):a∈μ.all:=List.mem_append.mpr (.inr h)
theorem Own.pv_all {μ:Own} {a:Addr} (h:a∈μ.pv):a∈μ.all:=List.mem_append.mpr (.inl h)
theorem Own.all_add (μ:Own) (ν:List (List Addr)) (a:Addr):a∈(μ.add ν).all↔a∈μ.all∨a∈ν.flatten:=by
 simp only [Own.all,Own.add,List.flatten_append,List.mem_append,or_assoc]
noncomputable def PS (c:String) (h:Heap) (a:Addr) (xs:List Value):Prop:=∃ n,h.get? a=some (PyProof.Rows.seqObj c xs.toArray n)
mutual
inductive RV (μ:Own) (h:Heap):AV→Value→Prop where
 | none:RV μ h .none .none
 | bool (b:Bool):RV μ h (.bool b) (.bool b)
 | int (i:Int) (t:Tok):RV μ h (.int i) (.int i t)
 | str (s:List Nat) (t:Tok):RV μ h (.str s) (.str ⟨s.toArray⟩ t)
 | tup {vs:List AV} {a:Addr} {xs:List Value}:PS "tuple" h a xs→a∉μ.all→RVs μ h vs xs→RV μ h (.tup vs) (.ref a)
 | lst {vs:List AV} {a:Addr} {xs:List Value}:PS "list" h a xs→a∉μ.all→RVs μ h vs xs→RV μ h (.lst vs) (.ref a)
 | rng {a b c:Int} {t u v:Tok} {r:Addr}:IsRange h r a b c t u v→r∉μ.all→Builtin.Range.small a b c=true→RV μ h (.rng a b c) (.ref r)
 | loc {n:Nat} {a:Addr} {l:List Addr}:μ.os[n]?=some (a::l)→RV μ h (.loc n) (.ref a)
inductive RVs (μ:Own) (h:Heap):List AV→List Value→Prop where
 | nil:RVs μ h [] []
 | cons {v:AV} {x:Value} {vs:List AV} {xs:List Value}:RV μ h v x→RVs μ h vs xs→RVs μ h (v::vs) (x::xs)
end
noncomputable def RV.Inv (μ:Own) (h:Heap) (v:AV) (x:Value):Prop:=match v with
 | .none=>x=.none
 | .bool b=>x=.bool b
 | .int i=>∃ t,x=.int i t
 | .str s=>∃ t,x=.str ⟨s.toArray⟩ t
 | .tup vs=>∃ a xs,x=.ref a∧PS "tuple" h a xs∧a∉μ.all∧RVs μ h vs xs
 | .lst vs=>∃ a xs,x=.ref a∧PS "list" h a xs∧a∉μ.all∧RVs μ h vs xs
 | .rng a b c=>∃ t u v r,x=.ref r∧IsRange h r a b c t u v∧r∉μ.all∧Builtin.Range.small a b c=true
 | .loc n=>∃ a l,x=.ref a∧μ.os[n]?=some (a::l)
section
variable {μ:Own} {h:Heap} {x:Value}
theorem RV.inv {v:AV} (r:RV μ h v x):RV.Inv μ h v x:=
 RV.rec (motive_1:=fun v x _=>RV.Inv μ h v x) (motive_2:=fun _ _ _=>True) rfl (fun _=>rfl) (fun _ t=>⟨t,rfl⟩) (fun _ t=>⟨t,rfl⟩) (fun p n q _=>⟨_,_,rfl,p,n,q⟩) (fun p n q _=>⟨_,_,rfl,p,n,q⟩) (fun p n q=>⟨_,_,_,_,rfl,p,n,q⟩) (fun e=>⟨_,_,rfl,e⟩) trivial (fun _ _ _ _=>trivial) r
variable {G:Value→Prop}
@[elab_as_elim] theorem RV.none_ (r:RV μ h .none x) (k:G .none):G x:=Eq.symm (show x=.none from r.inv)▸k
@[elab_as_elim] theorem RV.bool_ {b:Bool} (r:RV μ h (.bool b) x) (k:G (.bool b)):G x:=Eq.symm (show x=.bool b from r.inv)▸k
@[elab_as_elim] theorem RV.int_ {i:Int} (r:RV μ h (.int i) x) (k:∀ t,G (.int i t)):G x:=Exists.elim r.inv fun t e=>e.symm▸k t
@[elab_as_elim] theorem RV.str_ {s:List Nat} (r:RV μ h (.str s) x) (k:∀ t,G (.str ⟨s.toArray⟩ t)):G x:=Exists.elim r.inv fun t e=>e.symm▸k t
@[elab_as_elim] theorem RV.tup_ {vs:List AV} (r:RV μ h (.tup vs) x) (k:∀ a xs n,h.get? a=some (PyProof.Rows.seqObj "tuple" xs.toArray n)→a∉μ.all→RVs μ h vs xs→G (.ref a)):G x:=by
 obtain ⟨a,xs,rfl,⟨n,p⟩,q,r⟩:=r.inv
 exact k a xs n p q r
@[elab_as_elim] theorem RV.lst_ {vs:List AV} (r:RV μ h (.lst vs) x) (k:∀ a xs n,h.get? a=some (PyProof.Rows.seqObj "list" xs.toArray n)→a∉μ.all→RVs μ h vs xs→G (.ref a)):G x:=by
 obtain ⟨a,xs,rfl,⟨n,p⟩,q,r⟩:=r.inv
 exact k a xs n p q r
@[elab_as_elim] theorem RV.rng_ {a b c:Int} (r:RV μ h (.rng a b c) x) (k:∀ r t u v,IsRange h r a b c t u v→r∉μ.all→Builtin.Range.small a b c=true→G (.ref r)):G x:=by
 obtain ⟨t,u,v,w,rfl,p,q,z⟩:=r.inv
 exact k w t u v p q z
end
noncomputable def FrObj (h:Heap) (a:Addr):Prop:=∃ o,h.get? a=some o∧((∃ es n,o.data=.dict es n)∨(∃ v,o.data=.cell v)∨(o.cls≠.type "range"∧∃ vs i t,o.data=.fields vs∧vs[1]?=some (Value.int i t)))
noncomputable def Kept (X:List Addr) (O:List Addr) (h h':Heap):Prop:=∀ a o,h.get? a=some o→a∉O→a∉X→h'.get? a=some o
set_option genInjectivity false in
structure Ev (X:List Addr) (μ:Own) (s:Shared) (μ':Own) (s':Shared):Prop where
 same:∃ h tk,s'={ s with heap:=h,toks:=tk }
 ext:∃ ν,μ'=μ.add ν∧∀ a∈ν.flatten,s.heap.get? a=Option.none
 keep:Kept X μ.os.flatten s.heap s'.heap
 alive:∀ a,s'.heap.get? a=Option.none→s.heap.get? a=Option.none
theorem Ev.refl (X:List Addr) (μ:Own) (s:Shared):Ev X μ s μ s:=
 ⟨⟨s.heap,s.toks,rfl⟩,⟨[],(Own.add_nil _).symm,by simp⟩,fun _ _ e _ _=>e,fun _ e=>e⟩
theorem Ev.trans {X:List Addr} {μ μ' μ'':Own} {s s' s'':Shared} (e:Ev X μ s μ' s') (e':Ev X μ' s' μ'' s'')
  : Ev X μ s μ'' s'':=by
 obtain ⟨⟨h,tk,rfl⟩,⟨ν,rfl,hν⟩,k,al⟩:=e
 obtain ⟨⟨h',tk',rfl⟩,⟨ν',rfl,hν'⟩,k',al'⟩:=e'
 refine ⟨⟨h',tk',rfl⟩,⟨ν++ν',Own.add_add ..,fun a ha=>?_⟩,fun a o ho hμ hX=>?_,fun a ha=>al a (al' a ha)⟩
 ·rw [List.flatten_append,List.mem_append] at ha
  rcases ha with ha | ha
  ·exact hν a ha
  ·exact al a (hν' a ha)
 ·have h1:=k a o ho hμ hX
  refine k' a o h1 ?_ hX
  show a∉(μ.os++ν).flatten
  rw [List.flatten_append,List.mem_append]
  rintro (q | q)
  ·exact hμ q
  ·have:=hν a q; rw [ho] at this; cases this
theorem Ev.wide {X Y:List Addr} {μ μ':Own} {s s':Shared} (e:Ev X μ s μ' s') (hX:∀ a∈X,a∈Y):Ev Y μ s μ' s':=
 ⟨e.same,e.ext,fun a o ho hμ hY=>e.keep a o ho hμ fun q=>hY (hX a q),e.alive⟩
theorem Ev.wide0 {Y:List Addr} {μ μ':Own} {s s':Shared} (e:Ev [] μ s μ' s'):Ev Y μ s μ' s':=e.wide fun _ q=>(nomatch q)
theorem Ev.tok {X:List Addr} {μ μ':Own} {s s':Shared} (e:Ev X μ s μ' s') (t:Nat):Ev X μ s μ' { s' with toks:=t }:=by
 obtain ⟨⟨h,tk,rfl⟩,b,c,d⟩:=e
 exact ⟨⟨h,t,rfl⟩,b,c,d⟩
theorem Ev.shed {X Y:List Addr} {μ μ':Own} {s s':Shared} (e:Ev X μ s μ' s') (hX:∀ a∈X,a∈Y∨s.heap.get? a=Option.none):Ev Y μ s μ' s':=
 ⟨e.same,e.ext,fun a o ho hμ hY=>e.keep a o ho hμ fun q=>(hX a q).elim hY (fun z=>by rw [z] at ho; cases ho),e.alive⟩
theorem YBk {μ μ':Own} {n:Nat} {l:List Addr} (h:∃ ν,μ'=μ.add ν) (e:μ.os[n]?=some l):μ'.os[n]?=some l:=by
 obtain ⟨ν,rfl⟩:=h
 show (μ.os++ν)[n]?=_
 rw [List.getElem?_append_left (by have:=List.getElem?_eq_some_iff.mp e; exact this.1)]
 exact e
theorem YAC {μ:Own} {n:Nat} {l:List Addr} {a:Addr} (e:μ.os[n]?=some l) (ha:a∈l):a∈μ.os.flatten:=
 List.mem_flatten.mpr ⟨l,List.mem_of_getElem? e,ha⟩
section mono
variable {X:List Addr} {μ μ':Own} {h h':Heap}
theorem YCN {a:Addr} {o:Obj} (ext:∃ ν,μ'=μ.add ν∧∀ a∈ν.flatten,h.get? a=Option.none) (ho:h.get? a=some o) (hn:a∉μ.all):a∉μ'.all:=by
 obtain ⟨ν,rfl,hν⟩:=ext
 rw [Own.all_add]
 rintro (q | q)
 ·exact hn q
 ·have:=hν a q; rw [ho] at this; cases this
theorem notFr {a:Addr} {o:Obj} (hX:∀ a∈X,FrObj h a∨a∈μ.pv) (hn:a∉μ.all) (ho:h.get? a=some o) (h1:∀ es n,o.data≠.dict es n) (h2:∀ v,o.data≠.cell v) (h3:o.cls=.type "range"∨∀ vs i t,o.data=.fields vs→vs[1]?≠some (Value.int i t)):a∉X:=fun q=>by
 rcases hX _ q with ⟨o',ho',z⟩ | z
 case inr=>exact hn (Own.pv_all z)
 rw [ho] at ho'; cases ho'
 rcases z with ⟨es,n,z⟩ | ⟨v,z⟩ | ⟨z0,vs,i,t,z1,z2⟩
 ·exact h1 _ _ z
 ·exact h2 _ z
 ·rcases h3 with q | q
  ·exact z0 q
  ·exact q _ _ _ z1 z2
theorem RVs.imp {μ μ':Own} {h h':Heap} (f:∀ v x,RV μ h v x→RV μ' h' v x) {vs:List AV} {xs:List Value} (r:RVs μ h vs xs):RVs μ' h' vs xs:=
 RVs.rec (motive_1:=fun _ _ _=>True) (motive_2:=fun vs xs _=>RVs μ' h' vs xs) trivial (fun _=>trivial) (fun _ _=>trivial) (fun _ _=>trivial) (fun _ _ _ _=>trivial) (fun _ _ _ _=>trivial) (fun _ _ _=>trivial) (fun _=>trivial) .nil (fun a _ _ b=>.cons (f _ _ a) b) r
theorem RV.map {μ μ':Own} {h h':Heap} (hp:∀ a o,h.get? a=some o→(∀ es n,o.data≠.dict es n)→(∀ v,o.data≠.cell v)→(o.cls=.type "range"∨∀ vs i t,o.data=.fields vs→vs[1]?≠some (Value.int i t))→a∉μ.all→h'.get? a=some o∧a∉μ'.all)
  (hl:∀ (n:Nat) (l:List Addr),μ.os[n]?=some l→μ'.os[n]?=some l) {v:AV} {x:Value} (r:RV μ h v x):RV μ' h' v x:=
 have q:∀ {c a xs},PS c h a xs→a∉μ.all→PS c h' a xs∧a∉μ'.all:=fun ⟨n,e⟩ hn=>⟨⟨n,(hp _ _ e (fun _ _ e=>nomatch e) (fun _ e=>nomatch e) (.inr fun _ _ _ e=>nomatch e) hn).1⟩,(hp _ _ e (fun _ _ e=>nomatch e) (fun _ e=>nomatch e) (.inr fun _ _ _ e=>nomatch e) hn).2⟩
 RV.rec (motive_1:=fun v x _=>RV μ' h' v x) (motive_2:=fun vs xs _=>RVs μ' h' vs xs) .none .bool .int .str (fun p n _ i=>.tup (q p n).1 (q p n).2 i) (fun p n _ i=>.lst (q p n).1 (q p n).2 i)
  (fun p n s=>.rng (hp _ _ p (fun _ _ e=>nomatch e) (fun _ e=>nomatch e) (.inl rfl) n).1 (hp _ _ p (fun _ _ e=>nomatch e) (fun _ e=>nomatch e) (.inl rfl) n).2 s) (fun e=>.loc (hl _ _ e)) .nil (fun _ _ a b=>.cons a b) r
theorem RV.mono (ext:∃ ν,μ'=μ.add ν∧∀ a∈ν.flatten,h.get? a=Option.none) (keep:Kept X μ.os.flatten h h') (hX:∀ a∈X,FrObj h a∨a∈μ.pv) {v:AV} {x:Value} (r:RV μ h v x):RV μ' h' v x:=
 r.map (fun _ _ ho h1 h2 h3 hn=>⟨keep _ _ ho (fun q=>hn (Own.os_all q)) (notFr hX hn ho h1 h2 h3),YCN ext ho hn⟩) fun _ _ e=>YBk (ext.imp fun _ q=>q.1) e
theorem RVs.mono (ext:∃ ν,μ'=μ.add ν∧∀ a∈ν.flatten,h.get? a=Option.none) (keep:Kept X μ.os.flatten h h') (hX:∀ a∈X,FrObj h a∨a∈μ.pv) {vs:List AV} {xs:List Value} (r:RVs μ h vs xs):RVs μ' h' vs xs:=r.imp fun _ _=>RV.mono ext keep hX
end mono
theorem Ev.rv {X:List Addr} {μ μ':Own} {s s':Shared} (e:Ev X μ s μ' s') (hX:∀ a∈X,FrObj s.heap a) {v:AV} {x:Value} (r:RV μ s.heap v x):RV μ' s'.heap v x:=r.mono e.ext e.keep fun a q=>.inl (hX a q)
theorem Ev.rvs {X:List Addr} {μ μ':Own} {s s':Shared} (e:Ev X μ s μ' s') (hX:∀ a∈X,FrObj s.heap a) {v:List AV} {x:List Value} (r:RVs μ s.heap v x):RVs μ' s'.heap v x:=r.mono e.ext e.keep fun a q=>.inl (hX a q)
theorem Ev.rv0 {μ μ':Own} {s s':Shared} (e:Ev [] μ s μ' s') {v:AV} {x:Value} (r:RV μ s.heap v x):RV μ' s'.heap v x:=e.rv (fun _ q=>(nomatch q)) r
theorem Ev.rvs0 {μ μ':Own} {s s':Shared} (e:Ev [] μ s μ' s') {v:List AV} {x:List Value} (r:RVs μ s.heap v x):RVs μ' s'.heap v x:=e.rvs (fun _ q=>(nomatch q)) r
section
variable {μ:Own} {h:Heap} {vs:List AV} {xs:List Value}
theorem RVs.ind {P:List AV→List Value→Prop} (n:P [] []) (c:∀ v x vs xs,RV μ h v x→RVs μ h vs xs→P vs xs→P (v::vs) (x::xs)) (r:RVs μ h vs xs):P vs xs:=
 RVs.rec (motive_1:=fun _ _ _=>True) (motive_2:=fun vs xs _=>P vs xs) trivial (fun _=>trivial) (fun _ _=>trivial) (fun _ _=>trivial) (fun _ _ _ _=>trivial) (fun _ _ _ _=>trivial) (fun _ _ _=>trivial) (fun _=>trivial) n (fun a b _ q=>c _ _ _ _ a b q) r
@[elab_as_elim] theorem RVs.nil_ {G:List Value→Prop} (r:RVs μ h [] xs) (k:G []):G xs:=
 r.ind (P:=fun vs xs=>vs=[]→G xs) (fun _=>k) (fun _ _ _ _ _ _ _ e=>nomatch e) rfl
@[elab_as_elim] theorem RVs.cons_ {G:List Value→Prop} {v:AV} (r:RVs μ h (v::vs) xs) (k:∀ x ys,RV μ h v x→RVs μ h vs ys→G (x::ys)):G xs:=
 r.ind (P:=fun us xs=>us=v::vs→G xs) (fun e=>nomatch e) (fun _ _ _ _ a b _ e=>k _ _ ((List.cons.inj e).1▸a) ((List.cons.inj e).2▸b)) rfl
@[elab_as_elim] theorem RVs.one_ {G:List Value→Prop} {v:AV} (r:RVs μ h [v] xs) (k:∀ x,RV μ h v x→G [x]):G xs:=r.cons_ fun x _ a b=>b.nil_ (G:=fun l=>G (x::l)) (k x a)
@[elab_as_elim] theorem RVs.two_ {G:List Value→Prop} {v u:AV} (r:RVs μ h [v,u] xs) (k:∀ x y,RV μ h v x→RV μ h u y→G [x,y]):G xs:=r.cons_ fun x _ a b=>b.one_ (G:=fun l=>G (x::l)) fun y b=>k x y a b
@[elab_as_elim] theorem RVs.three_ {G:List Value→Prop} {v u t:AV} (r:RVs μ h [v,u,t] xs) (k:∀ x y z,RV μ h v x→RV μ h u y→RV μ h t z→G [x,y,z]):G xs:=r.cons_ fun x _ a b=>b.two_ (G:=fun l=>G (x::l)) fun y z b c=>k x y z a b c
theorem RVs.get (r:RVs μ h vs xs):∀ {i:Nat} {v:AV},vs[i]?=some v→∃ x,xs[i]?=some x∧RV μ h v x:=
 r.ind (P:=fun vs xs=>∀ {i:Nat} {v:AV},vs[i]?=some v→∃ x,xs[i]?=some x∧RV μ h v x) (fun e=>nomatch e) fun _ x _ _ a _ b i v e=>match i,e with
  | 0,e=>⟨x,rfl,Option.some.inj e▸a⟩
  | _+1,e=>b e
theorem RVs.get' (r:RVs μ h vs xs):∀ {i:Nat} {x:Value},xs[i]?=some x→∃ v,vs[i]?=some v∧RV μ h v x:=
 r.ind (P:=fun vs xs=>∀ {i:Nat} {x:Value},xs[i]?=some x→∃ v,vs[i]?=some v∧RV μ h v x) (fun e=>nomatch e) fun v _ _ _ a _ b i x e=>match i,e with
  | 0,e=>⟨v,rfl,Option.some.inj e▸a⟩
  | _+1,e=>b e
theorem RVs.len (r:RVs μ h vs xs):vs.length=xs.length:=r.ind (P:=fun vs xs=>vs.length=xs.length) rfl fun _ _ _ _ _ _ b=>congrArg Nat.succ b
theorem RVs.append {ws:List AV} {ys:List Value} (q:RVs μ h ws ys) (r:RVs μ h vs xs):RVs μ h (vs++ws) (xs++ys):=r.ind (P:=fun vs xs=>RVs μ h (vs++ws) (xs++ys)) q fun _ _ _ _ a _ b=>.cons a b
theorem RVs.set {v:AV} {x:Value} (q:RV μ h v x) (i:Nat) (r:RVs μ h vs xs):RVs μ h (vs.set i v) (xs.set i x):=
 r.ind (P:=fun vs xs=>∀ i,RVs μ h (vs.set i v) (xs.set i x)) (fun _=>.nil) (fun _ _ _ _ a c b i=>match i with
  | 0=>.cons q c
  | i+1=>.cons a (b i)) i
theorem RVs.take (i:Nat) (r:RVs μ h vs xs):RVs μ h (vs.take i) (xs.take i):=
 r.ind (P:=fun vs xs=>∀ i,RVs μ h (vs.take i) (xs.take i)) (fun i=>match i with
  | 0=>.nil
  | _+1=>.nil) (fun _ _ _ _ a _ b i=>match i with
  | 0=>.nil
  | i+1=>.cons a (b i)) i
theorem RVs.of_get (e:vs.length=xs.length) (k:∀ (i:Nat) (v:AV) (x:Value),vs[i]?=some v→xs[i]?=some x→RV μ h v x):RVs μ h vs xs:=by
 induction vs generalizing xs with
 | nil=>cases xs with
  | nil=>exact .nil
  | cons=>cases e
 | cons v vs ih=>cases xs with
  | nil=>cases e
  | cons x xs=>exact .cons (k 0 v x rfl rfl) (ih (Nat.succ.inj e) fun i v x a b=>k (i+1) v x a b)
end
noncomputable def lexMap (line:Int) (t:Tok) (sf:Addr) (t2:Tok) (p:Addr):Str→Option Value:=fun n=>
 if n = "pushback" then some (.ref p) else if n = "whitespace" then some (.str "\n\t\r " t2) else if n = "instream" then some (.ref sf) else if n = "lineno" then some (.int line t) else none
open PySem.W (instObj methodObj fnMade tabObj)
set_option genInjectivity false in
structure YE where
 params:Arguments
 body:List Stmt
 scope:Scope
noncomputable def Yq:Str := "_law_lexer.<locals>._law_read_on"
theorem YET {h h':Heap} {a:Addr} {m:Str→Option Value} (x:h.Ns a m) (k:∀ o,h.get? a=some o→h'.get? a=some o):h'.Ns a m:=by
 obtain ⟨o,es,ep,ho,r⟩:=x
 exact ⟨o,es,ep,k o ho,r⟩
theorem Yx {h h':Heap} {a:Addr} {v:Option Value} (x:h.IsCell a v) (k:∀ o,h.get? a=some o→h'.get? a=some o):h'.IsCell a v:=by
 obtain ⟨o,ho,r⟩:=x
 exact ⟨o,k o ho,r⟩
noncomputable def NsB (h:Heap) (a:Addr) (m:Str→Option Value):Prop:=
 ∃ o es ep,h.get? a=some o∧o.data=.dict es ep∧StrKeys es∧(∀ name,nsFind es name=m name)∧es.size≤100
theorem NsB.ns {h:Heap} {a:Addr} {m:Str→Option Value} (x:NsB h a m):h.Ns a m:=let ⟨o,es,ep,a,b,c,d,_⟩:=x; ⟨o,es,ep,a,b,c,d⟩
theorem YMl {h h':Heap} {a:Addr} {m:Str→Option Value} (x:NsB h a m) (k:∀ o,h.get? a=some o→h'.get? a=some o):NsB h' a m:=by
 obtain ⟨o,es,ep,ho,r⟩:=x
 exact ⟨o,es,ep,k o ho,r⟩
set_option genInjectivity false in
structure LexR where
 (x dx sf sd rf ct ca la c p:Addr)
 (t1 t2 t3 t4:Tok)
 fd:FuncData
 (doc pm ctv:Value)
 es:Array DictEntry
 n:Nat
 k:Nat
noncomputable def LexR.l (d:LexR):List Addr:=[d.x,d.dx,d.sf,d.sd,d.rf,d.ct,d.ca,d.la]
theorem YEq {α:Type} {l:List α} (hn:l.Nodup) {i j:Nat} {a b:α} (hi:l[i]?=some a) (hj:l[j]?=some b) (hne:i≠j):a≠b:=fun e=>hne ((List.getElem?_inj (List.getElem?_eq_some_iff.mp hi).1 hn).mp (hi.trans (e▸hj.symm)))
set_option genInjectivity false in
structure LexP (rd:YE) (h:Heap) (text:List Nat) (pos:Nat) (line:Int) (d:LexR):Prop where
 h1:h.get? d.x=some (instObj 87 d.dx)
 h2:NsB h d.dx (lexMap line d.t1 d.sf d.t2 d.p)
 h3:h.get? d.sf=some { cls:=.type "function",dict:=some d.sd,data:=.func d.fd }
 h4:h.get? d.sd=some { cls:=.type "dict",data:=.dict d.es d.n }
 h5:h.Ns d.sd (fun y=>if y = "read" then some (.ref d.rf) else none)
 h6:h.get? d.rf=some (fnMade "_law_read_on" Yq rd.params rd.body rd.scope [("text",d.ct),("at",d.ca)] d.doc d.pm d.c d.ctv)
 h7:h.CodeRec (.ref d.c) Yq
 h8:h.IsCell d.ct (some (.str ⟨text.toArray⟩ d.t3))
 h9:h.IsCell d.ca (some (.ref d.la))
 h10:h.get? d.la=some (PyProof.Rows.seqObj "list" [Value.int pos d.t4].toArray d.k)
noncomputable def LexAt (rd:YE) (μ:Own) (h:Heap) (text:List Nat) (pos:Nat) (line:Int) (push:Nat) (l:List Addr):Prop:=
 ∃ d:LexR,l=d.l∧μ.os[push]?=some [d.p]∧d.c∉μ.all∧LexP rd h text pos line d
theorem at_ {α:Type} {l:List α} {a:α} (i:Nat) (h:l[i]?=some a):a∈l:=List.mem_of_getElem? h
theorem LexP.keep {rd:YE} {h h':Heap} {text:List Nat} {pos:Nat} {line:Int} {d:LexR} (L:LexP rd h text pos line d) (hl:∀ a∈d.l,∀ ob,h.get? a=some ob→h'.get? a=some ob) (hc:h'.CodeRec (.ref d.c) Yq):LexP rd h' text pos line d:=
 ⟨hl _ (at_ 0 rfl) _ L.h1,YMl L.h2 (hl _ (at_ 1 rfl)),hl _ (at_ 2 rfl) _ L.h3,hl _ (at_ 3 rfl) _ L.h4,YET L.h5 (hl _ (at_ 3 rfl)),hl _ (at_ 4 rfl) _ L.h6,hc,Yx L.h8 (hl _ (at_ 5 rfl)),Yx L.h9 (hl _ (at_ 6 rfl)),hl _ (at_ 7 rfl) _ L.h10⟩
noncomputable def CodesAt (h:Heap) (full:Bool) (P:Addr) (O:List Addr):Prop:=
 if full then ∃ c1 c2,h.get? P=some (tabObj #[rawInt 140,rawInt 4,.ref c1,rawInt 144,rawInt 13,.ref c2])∧c1∉O∧h.CodeRec (.ref c1) Yq
 else h.get? P=some (tabObj #[])
noncomputable def AOR (rd:YE) (μ:Own) (h:Heap):AO→List Addr→Prop
 | .list vs,l=>∃ a xs,l=[a]∧PS "list" h a xs∧RVs μ h vs xs
 | .lexer text pos line push,l=>LexAt rd μ h text pos line push l
 | .citer lx live,l=>∃ I q,l=[I,q]∧(live=true→∃ x l' t,μ.os[lx]?=some (x::l') ∧
   h.get? I=some { cls:=.type "callable_iterator",data:=.fields #[.ref q,.str "" t,.bool false] }∧h.get? q=some (methodObj (.ref 70) (.ref x)))
 | .codes full,l=>l=[107]∧CodesAt h full 107 μ.all
set_option genInjectivity false in
structure HS (rd:YE) (H₀:Heap) (μ:Own) (σ:List AO) (h:Heap):Prop where
 base:∀ a o,H₀.get? a=some o→h.get? a=some o
 new:∀ a∈μ.all,H₀.get? a=Option.none
 live:∀ a∈μ.all,∃ o,h.get? a=some o
 nodup:μ.all.Nodup
 len:σ.length=μ.os.length
 objs:∀ (n:Nat) (o:AO) (l:List Addr),σ[n]?=some o→μ.os[n]?=some l→AOR rd μ h o l
theorem YFD {X:List Addr} {μ:Own} {h h':Heap} {c:Addr} {q:Str} (keep:Kept X μ.os.flatten h h') (hX:∀ a∈X,FrObj h a∨a∈μ.pv) (hc:c∉μ.all) (r:h.CodeRec (.ref c) q):h'.CodeRec (.ref c) q:=by
 obtain ⟨c₂,oc,vs,tq,e,ho,hd,hq⟩:=r
 cases e
 exact ⟨c,oc,vs,tq,rfl,keep _ _ ho (fun q=>hc (Own.os_all q)) (notFr hX hc ho (by simp [hd]) (by simp [hd]) (.inr fun vs' i t e q=>by rw [hd] at e; cases e; rw [hq] at q; cases q)),hd,hq⟩
theorem YCZ {h:Heap} {c:Addr} {q:Str} (r:h.CodeRec (.ref c) q):∃ o,h.get? c=some o:=by
 obtain ⟨_,oc,_,_,e,ho,_⟩:=r
 cases e
 exact ⟨oc,ho⟩
theorem AOR.map {rd:YE} {μ μ':Own} {h h':Heap} (hv:∀ v x,RV μ h v x→RV μ' h' v x) (hos:∀ (n:Nat) (l:List Addr),μ.os[n]?=some l→μ'.os[n]?=some l) (hc:∀ c,c∉μ.all→h.CodeRec (.ref c) Yq→c∉μ'.all∧h'.CodeRec (.ref c) Yq) {o:AO} {l:List Addr}
  (hl:∀ a∈l,∀ ob,h.get? a=some ob→h'.get? a=some ob) (r:AOR rd μ h o l):AOR rd μ' h' o l:=by
 cases o with
 | list vs=>
  obtain ⟨a,xs,rfl,⟨n,ho⟩,hs⟩:=r
  exact ⟨a,xs,rfl,⟨n,hl a (at_ 0 rfl) _ ho⟩,hs.imp hv⟩
 | lexer text pos line push=>
  obtain ⟨d,rfl,hp,hn,L⟩:=r
  exact ⟨d,rfl,hos _ _ hp,(hc _ hn L.h7).1,L.keep hl (hc _ hn L.h7).2⟩
 | citer lx live=>
  obtain ⟨I,q,rfl,z⟩:=r
  refine ⟨I,q,rfl,fun e=>?_⟩
  obtain ⟨x,l',t,a,b,c⟩:=z e
  exact ⟨x,l',t,hos _ _ a,hl _ (at_ 0 rfl) _ b,hl _ (at_ 1 rfl) _ c⟩
 | codes full=>
  obtain ⟨rfl,z⟩:=r
  refine ⟨rfl,?_⟩
  cases full with
  | false=>exact hl 107 (at_ 0 rfl) _ z
  | true=>
   obtain ⟨c1,c2,a,b,d⟩:=z
   exact ⟨c1,c2,hl 107 (at_ 0 rfl) _ a,(hc _ b d).1,(hc _ b d).2⟩
theorem AOR.keep {rd:YE} {X:List Addr} {μ μ':Own} {h h':Heap} (ext:∃ ν,μ'=μ.add ν∧∀ a∈ν.flatten,h.get? a=Option.none) (keep:Kept X μ.os.flatten h h') (hX:∀ a∈X,FrObj h a∨a∈μ.pv) {o:AO} {l:List Addr}
  (hl:∀ a∈l,∀ ob,h.get? a=some ob→h'.get? a=some ob) (r:AOR rd μ h o l):AOR rd μ' h' o l:=
 r.map (fun _ _=>RV.mono ext keep hX) (fun _ _=>YBk (ext.imp fun _ q=>q.1)) (fun _ hc r=>⟨(YCZ r).elim fun _ ho=>YCN ext ho hc,YFD keep hX hc r⟩) hl
theorem HS.keep {rd:YE} {X:List Addr} {H₀:Heap} {μ:Own} {σ:List AO} {h h':Heap} (H:HS rd H₀ μ σ h) (keep:Kept X [] h h') (hX:∀ a∈X,FrObj h a) (hn:∀ a∈X,a∉μ.all∧H₀.get? a=Option.none):HS rd H₀ μ σ h' where
 base a o e:=keep a o (H.base a o e) (by simp) fun q=>by rw [(hn a q).2] at e; cases e
 new:=H.new
 live a ha:=let ⟨o,e⟩:=H.live a ha; ⟨o,keep a o e (by simp) fun q=>(hn a q).1 ha⟩
 nodup:=H.nodup
 len:=H.len
 objs n o l h1 h2:=(H.objs n o l h1 h2).keep ⟨[],(Own.add_nil _).symm,by simp⟩ (fun a o e _ x=>keep a o e (by simp) x) (fun a q=>.inl (hX a q)) fun a ha ob e=>keep a ob e (by simp) fun q=>(hn a q).1 (Own.os_all (YAC h2 ha))
theorem HS.keep0 {rd:YE} {H₀:Heap} {μ:Own} {σ:List AO} {h h':Heap} (H:HS rd H₀ μ σ h) (keep:∀ a o,h.get? a=some o→h'.get? a=some o):HS rd H₀ μ σ h':=
 H.keep (X:=[]) (fun a o e _ _=>keep a o e) (fun _ q=>(nomatch q)) (fun _ q=>(nomatch q))
theorem HS.own_some {rd:YE} {H₀:Heap} {μ:Own} {σ:List AO} {h:Heap} (H:HS rd H₀ μ σ h) {n:Nat} {o:AO} (e:σ[n]?=some o):∃ l,μ.os[n]?=some l∧AOR rd μ h o l:=by
 have:n<μ.os.length:=by rw [←H.len]; exact (List.getElem?_eq_some_iff.mp e).1
 exact ⟨μ.os[n],List.getElem?_eq_getElem this,H.objs n o _ e (List.getElem?_eq_getElem this)⟩
theorem YEn {μ:List (List Addr)} {n:Nat} {l:List Addr} {a:Addr} (e:μ[n]?=some l) (ha:a∈l):a∈μ.flatten:=
 List.mem_flatten.mpr ⟨l,List.mem_of_getElem? e,ha⟩
theorem YBw {μ:List (List Addr)} (hn:μ.flatten.Nodup) {i j:Nat} {l l':List Addr} (hi:μ[i]?=some l) (hj:μ[j]?=some l') (hne:i≠j) {a:Addr} (ha:a∈l):a∉l':=by
 induction μ generalizing i j with
 | nil=>simp at hi
 | cons x r ih=>
  rw [List.flatten_cons,List.nodup_append] at hn
  cases i with
  | zero=>
   simp at hi; subst hi
   cases j with
   | zero=>exact absurd rfl hne
   | succ j=>
    intro q
    exact hn.2.2 a ha a (YEn (by simpa using hj) q) rfl
  | succ i=>
   cases j with
   | zero=>
    simp at hj; subst hj
    intro q
    exact hn.2.2 a q a (YEn (by simpa using hi) ha) rfl
   | succ j=>exact ih hn.2.1 (by simpa using hi) (by simpa using hj) (by lia)
theorem HS.ndos {rd:YE} {H₀:Heap} {μ:Own} {σ:List AO} {h:Heap} (H:HS rd H₀ μ σ h):μ.os.flatten.Nodup:=(List.nodup_append.mp H.nodup).2.1
theorem HS.set {rd:YE} {H₀:Heap} {μ:Own} {σ:List AO} {h h':Heap} (H:HS rd H₀ μ σ h) {n:Nat} {o':AO} {l:List Addr} (hμ:μ.os[n]?=some l)
  (keep:∀ a o,h.get? a=some o→a∉l→h'.get? a=some o) (alive:∀ a,h'.get? a=Option.none→h.get? a=Option.none) (new:AOR rd μ h' o' l):HS rd H₀ μ (σ.set n o') h' where
 base a o e:=keep a o (H.base a o e) fun q=>by rw [H.new a (Own.os_all (YAC hμ q))] at e; cases e
 new:=H.new
 live a ha:=by
  obtain ⟨o,e⟩:=H.live a ha
  cases q:h'.get? a with
  | none=>rw [alive a q] at e; cases e
  | some o'=>exact ⟨o',rfl⟩
 nodup:=H.nodup
 len:=by rw [List.length_set]; exact H.len
 objs m o l' h1 h2:=by
  by_cases q:n=m
  ·subst q
   rw [hμ] at h2; cases h2
   have hlt:n<σ.length:=by rw [H.len]; exact (List.getElem?_eq_some_iff.mp hμ).1
   rw [List.getElem?_set_self hlt] at h1
   cases h1
   exact new
  ·rw [List.getElem?_set_ne q] at h1
   exact (H.objs m o l' h1 h2).keep (X:=[]) ⟨[],(Own.add_nil _).symm,by simp⟩ (fun a o e hn _=>keep a o e fun z=>hn (YAC hμ z)) (fun _ q=>(nomatch q))
    fun a ha ob e=>keep a ob e fun z=>YBw H.ndos hμ h2 q z ha
theorem Ev.set {μ:Own} {s:Shared} {h':Heap} {tk:Nat} {n:Nat} {l:List Addr} (hμ:μ.os[n]?=some l) (keep:∀ a o,s.heap.get? a=some o→a∉l→h'.get? a=some o)
  (alive:∀ a,h'.get? a=Option.none→s.heap.get? a=Option.none):Ev [] μ s μ { s with heap:=h',toks:=tk }:=
 ⟨⟨_,_,rfl⟩,⟨[],(Own.add_nil _).symm,by simp⟩,fun a o e hn _=>keep a o e fun z=>hn (YAC hμ z),alive⟩
theorem YCb {h h':Heap} (k:∀ a o,h.get? a=some o→∃ o',h'.get? a=some o'):∀ a,h'.get? a=Option.none→h.get? a=Option.none:=fun a e=>by
 cases q:h.get? a with
 | none=>rfl
 | some o=>obtain ⟨o',z⟩:=k a o q; rw [e] at z; cases z
theorem YFl {a:Addr} {h h':Heap} {l:List Addr} (hs:Heap.SameBut a h h') (ha:a∈l):∀ b o,h.get? b=some o→b∉l→h'.get? b=some o:=
 fun b _ e hn=>(hs.2 b fun q=>hn (q▸ha)).trans e
theorem YBL {a:Addr} {o':Obj} {h h':Heap} (hs:Heap.SameBut a h h') (ha:h'.get? a=some o'):∀ b,h'.get? b=Option.none→h.get? b=Option.none:=
 YCb fun b o e=>by
  by_cases q:b=a
  ·exact ⟨o',q▸ha⟩
  ·exact ⟨o,(hs.2 b q).trans e⟩
theorem HS.more {rd:YE} {H₀:Heap} {μ:Own} {σ:List AO} {h h':Heap} (H:HS rd H₀ μ σ h) {o:AO} {l:List Addr} (hl:l.Nodup) (hnew:∀ a∈l,h.get? a=Option.none)
  (keep:∀ a o,h.get? a=some o→h'.get? a=some o) (live:∀ a∈l,∃ o,h'.get? a=some o) (new:AOR rd (μ.add [l]) h' o l):HS rd H₀ (μ.add [l]) (σ++[o]) h' where
 base a o e:=keep a o (H.base a o e)
 new a ha:=by
  rw [Own.all_add] at ha
  rcases ha with ha | ha
  ·exact H.new a ha
  ·have ha:a∈l:=by simpa using ha
   cases q:H₀.get? a with
   | none=>rfl
   | some o'=>have:=H.base a o' q; rw [hnew a ha] at this; cases this
 live a ha:=by
  rw [Own.all_add] at ha
  rcases ha with ha | ha
  ·obtain ⟨o,e⟩:=H.live a ha; exact ⟨o,keep a o e⟩
  ·exact live a (by simpa using ha)
 nodup:=by
  show (μ.pv++(μ.os++[l]).flatten).Nodup
  rw [List.flatten_append,←List.append_assoc,List.nodup_append]
  refine ⟨H.nodup,by simpa using hl,fun a ha b hb=>?_⟩
  rintro rfl
  obtain ⟨o,e⟩:=H.live a ha
  rw [hnew a (by simpa using hb)] at e; cases e
 len:=by simp [H.len,Own.add]
 objs m o' l' h1 h2:=by
  have h2:(μ.os++[l])[m]?=some l':=h2
  by_cases q:m<μ.os.length
  ·rw [List.getElem?_append_left (by rw [H.len]; exact q)] at h1
   rw [List.getElem?_append_left q] at h2
   exact (H.objs m o' l' h1 h2).keep (X:=[]) ⟨[l],rfl,by simpa using hnew⟩ (fun a o e _ _=>keep a o e) (fun _ q=>(nomatch q)) fun a _ ob e=>keep a ob e
  ·rw [List.getElem?_append_right (by rw [H.len]; exact Ze0 q)] at h1
   rw [List.getElem?_append_right (by exact Ze0 q)] at h2
   have hm:m=μ.os.length:=by
    have:=(List.getElem?_eq_some_iff.mp h2).1
    simp at this; exact Ze1 this q
   subst hm
   rw [H.len] at h1
   simp at h1 h2
   subst h1 h2
   exact new
theorem Ev.more {μ:Own} {s:Shared} {h':Heap} {tk:Nat} {l:List Addr} (hnew:∀ a∈l,s.heap.get? a=Option.none) (keep:∀ a o,s.heap.get? a=some o→h'.get? a=some o):Ev [] μ s (μ.add [l]) { s with heap:=h',toks:=tk }:=
 ⟨⟨_,_,rfl⟩,⟨[l],rfl,by simpa using hnew⟩,fun a o e _ _=>keep a o e,YCb fun a o e=>⟨o,keep a o e⟩⟩
theorem Ev.keeps {μ:Own} {s:Shared} {h':Heap} {tk:Nat} (keep:∀ a o,s.heap.get? a=some o→h'.get? a=some o):Ev [] μ s μ { s with heap:=h',toks:=tk }:=
 ⟨⟨_,_,rfl⟩,⟨[],(Own.add_nil _).symm,by simp⟩,fun a o e _ _=>keep a o e,YCb fun a o e=>⟨o,keep a o e⟩⟩
end
noncomputable def Vis (env:Env) (x:Str):Prop:=env.kindOf x=some .local∨env.kindOf x=some .cell∨env.kindOf x=some .free
noncomputable def Read (env:Env) (h:Heap) (x:Str) (v:Value):Prop:=
 (env.kindOf x=some .local∧∃ m,h.Ns env.locals m∧m x=some v) ∨
 ((env.kindOf x=some .cell∨env.kindOf x=some .free)∧∃ c,env.cells.lookup x=some c∧h.IsCell c (some v))
noncomputable def slot:List Str→Str→Option Nat
 | [],_=>Option.none
 | y::r,x=>match slot r x with
  | some i=>some (i+1)
  | Option.none=>if y=x then some 0 else Option.none
theorem YGM:∀ {nm:List Str} {x:Str} {i:Nat},slot nm x=some i→i<nm.length
 | y::r,x,i,h=>by
  unfold slot at h
  split at h
  ·rename_i j e
   cases h
   have:=YGM e
   simp; assumption
  ·split at h
   ·cases h; simp
   ·cases h
theorem YBr:∀ {nm:List Str} {x:Str} {i:Nat},slot nm x=some i→nm[i]?=some x
 | y::r,x,i,h=>by
  unfold slot at h
  split at h
  ·rename_i j e
   cases h
   simpa using YBr e
  ·split at h
   ·rename_i e; cases h; simp [e]
   ·cases h
theorem YCX:∀ (nm:List Str) (x:Str),slot (nm++[x]) x=some nm.length
 | [],x=>by simp [slot]
 | y::r,x=>by simp [slot,YCX r x]
noncomputable def YA (env:Env):List Addr:=env.locals::env.cells.map (·.2)
set_option genInjectivity false in
structure FR (H₀:Heap) (env:Env) (nm:List Str) (ρ:List (Option AV)) (μ:Own) (h:Heap):Prop where
 kind:env.scope.kind=.function
 glob:env.globals=mainGlobals
 blt:env.builtins=builtinsNs
 ns:∃ m,h.Ns env.locals m
 cells:∀ x c,(x,c)∈env.cells→∃ v,h.IsCell c v
 own:∀ a∈YA env,a∉μ.all∧H₀.get? a=Option.none
 apart:env.cells.Pairwise fun x y=>x.2≠y.2
 len:nm.length=ρ.length
 vars:∀ x i v,slot nm x=some i→ρ[i]?=some (some v)→Vis env x→∃ rv,Read env h x rv∧RV μ h v rv
theorem YQO {h:Heap} {a:Addr} {m m':Str→Option Value} (x:h.Ns a m) (y:h.Ns a m'):m=m':=by
 obtain ⟨o,es,ep,ho,hd,_,hm⟩:=x
 obtain ⟨o',es',ep',ho',hd',_,hm'⟩:=y
 rw [ho] at ho'; cases ho'
 rw [hd] at hd'; cases hd'
 funext n
 rw [←hm n,←hm' n]
section
variable {H₀:Heap} {env:Env} {nm:List Str} {ρ:List (Option AV)} {μ μ':Own}
theorem FR.frObj {h:Heap} (F:FR H₀ env nm ρ μ h):∀ a∈YA env,FrObj h a:=by
 intro a ha
 rcases List.mem_cons.mp ha with rfl | ha
 ·obtain ⟨m,o,es,ep,ho,hd,_⟩:=F.ns
  exact ⟨o,ho,.inl ⟨es,ep,hd⟩⟩
 ·obtain ⟨⟨x,c⟩,hp,rfl⟩:=List.mem_map.mp ha
  obtain ⟨v,o,ho,hd⟩:=F.cells x c hp
  exact ⟨o,ho,.inr (.inl ⟨v,hd⟩)⟩
theorem Read.keeps {h h':Heap} {x:Str} {v:Value} (r:Read env h x v) (hk:∀ a∈YA env,∀ o,h.get? a=some o→h'.get? a=some o):Read env h' x v:=by
 rcases r with ⟨k,m,⟨o,es,ep,ho,z⟩,hm⟩ | ⟨k,c,hc,o,ho,hd⟩
 ·exact .inl ⟨k,m,⟨o,es,ep,hk _ (List.mem_cons_self ..) o ho,z⟩,hm⟩
 ·exact .inr ⟨k,c,hc,o,hk _ (List.mem_cons_of_mem _ (List.mem_map_of_mem (mem_of_lookup hc))) o ho,hd⟩
theorem FR.ev {s s':Shared} (F:FR H₀ env nm ρ μ s.heap) (e:Ev [] μ s μ' s'):FR H₀ env nm ρ μ' s'.heap:=by
 have hk:∀ a∈YA env,∀ o,s.heap.get? a=some o→s'.heap.get? a=some o:=fun a ha o ho=>e.keep a o ho (fun q=>(F.own a ha).1 (Own.os_all q)) (by simp)
 refine ⟨F.kind,F.glob,F.blt,?_,fun x c hc=>?_,fun a ha=>⟨?_,(F.own a ha).2⟩,F.apart,F.len,fun x i v h1 h2 h3=>?_⟩
 ·obtain ⟨m,o,es,ep,ho,z⟩:=F.ns
  exact ⟨m,o,es,ep,hk _ (List.mem_cons_self ..) o ho,z⟩
 ·obtain ⟨v,o,ho,hd⟩:=F.cells x c hc
  exact ⟨v,o,hk _ (List.mem_cons_of_mem _ (List.mem_map.mpr ⟨_,hc,rfl⟩)) o ho,hd⟩
 ·obtain ⟨o,ho,_⟩:=F.frObj a ha
  exact YCN e.ext ho (F.own a ha).1
 ·obtain ⟨rv,h4,h5⟩:=F.vars x i v h1 h2 h3
  exact ⟨rv,h4.keeps hk,e.rv0 h5⟩
theorem FR.load {M:Model} {A:Around} {E:Value→Shared→Prop} {s:Shared} {x:Str} {pos:Pos} {i:Nat} {v:AV} {Q:Value→Shared→Prop} (F:FR H₀ env nm ρ μ s.heap)
  (h1:slot nm x=some i) (h2:ρ[i]?=some (some v)) (h3:Vis env x) (hd:(x==("__debug__":Str))=false) (hc:(x==("__classdict__":Str))=false) (h:∀ rv,RV μ s.heap v rv→Q rv s):
  wpAny M A (loadName env x) Q E s:=by
 obtain ⟨rv,r,q⟩:=F.vars x i v h1 h2 h3
 rcases r with ⟨k,m,hn,hm⟩ | ⟨k | k,c,hl,hv⟩
 ·exact wpAny_loadName_local F.kind k hn hm (h rv q)
 ·exact wpAny_loadName_cell F.kind k hl hv (h rv q)
 ·exact wpAny_loadName_free F.kind k hl hv (h rv q) hc
noncomputable def tgt (env:Env) (x:Str):Addr:=if env.kindOf x=some .local then env.locals else (env.cells.lookup x).getD 0
theorem YGD {x:Str} (h3:env.kindOf x=some .local∨(env.kindOf x=some .cell∧(env.cells.lookup x).isSome=true)):tgt env x∈YA env:=by
 unfold tgt
 rcases h3 with k | ⟨k,hc⟩
 ·rw [if_pos k]; exact List.mem_cons_self ..
 ·rw [if_neg (by rw [k]; simp)]
  obtain ⟨c,hc⟩:=Option.isSome_iff_exists.mp hc
  rw [hc]
  exact List.mem_cons_of_mem _ (List.mem_map.mpr ⟨(x,c),mem_of_lookup hc,rfl⟩)
theorem FR.store {rd:YE} {σ:List AO} {M:Model} {A:Around} {E:Value→Shared→Prop} {s:Shared} {x:Str} {i:Nat} {v:AV} {rv:Value} {Q:Unit→Shared→Prop} (F:FR H₀ env nm ρ μ s.heap) (H:HS rd H₀ μ σ s.heap) (r:RV μ s.heap v rv)
  (h1:slot nm x=some i) (h3:env.kindOf x=some .local∨(env.kindOf x=some .cell∧(env.cells.lookup x).isSome=true))
  (h:∀ s',Ev [tgt env x] μ s μ s'→HS rd H₀ μ σ s'.heap→FR H₀ env nm (ρ.set i (some v)) μ s'.heap→Q () s'):
  wpAny M A (storeName env x rv) Q E s:=by
 have own:=F.own
 have fro:=F.frObj
 -- what holds behind any store of x that turns one frame address
 have key:∀ (h':Heap) (tk:Nat) (b:Addr),b=tgt env x→Heap.SameBut b s.heap h'→FrObj h' b→(∃ m,h'.Ns env.locals m)→(∀ y c,(y,c)∈env.cells→∃ v,h'.IsCell c v)→
   Read env h' x rv→(∀ y w,y≠x→Read env s.heap y w→Read env h' y w)→Q () { s with heap:=h',toks:=tk }:=by
  intro h' tk b hbe hs hfb hns hcl hrx hry
  have hb:b∈YA env:=hbe▸YGD h3
  have kp:Kept [b] [] s.heap h':=fun a o ho _ hx=>(hs.2 a fun q=>hx (by simp [q])).trans ho
  have hX:∀ a∈[b],FrObj s.heap a:=fun a ha=>by simp at ha; subst ha; exact fro _ hb
  have al:∀ a,h'.get? a=Option.none→s.heap.get? a=Option.none:=by
   obtain ⟨o,ho,_⟩:=hfb
   exact YBL hs ho
  have ev:Ev [b] μ s μ { s with heap:=h',toks:=tk }:=⟨⟨_,_,rfl⟩,⟨[],(Own.add_nil _).symm,by simp⟩,fun a o e _ hx=>kp a o e (by simp) hx,al⟩
  refine h _ (hbe▸ev) (H.keep kp hX fun a ha=>by simp at ha; subst ha; exact own _ hb) ⟨F.kind,F.glob,F.blt,hns,hcl,own,F.apart,by rw [List.length_set]; exact F.len,fun y j u g1 g2 g3=>?_⟩
  have mono:∀ {u:AV} {w:Value},RV μ s.heap u w→RV μ h' u w:=fun q=>ev.rv hX q
  by_cases q:y=x
  ·subst q
   rw [h1] at g1; cases g1
   have:i<ρ.length:=by rw [←F.len]; exact YGM h1
   rw [List.getElem?_set_self this] at g2
   cases g2
   exact ⟨rv,hrx,mono r⟩
  ·have hij:i≠j:=fun e=>q (by have a:=YBr h1; have b:=YBr g1; rw [←e,a] at b; exact (Option.some.inj b).symm)
   rw [List.getElem?_set_ne hij] at g2
   obtain ⟨w,z1,z2⟩:=F.vars y j u g1 g2 g3
   exact ⟨w,hry y w q z1,mono z2⟩
 rcases h3 with k | ⟨k,hc⟩
 ·obtain ⟨m,hm⟩:=F.ns
  refine wpAny_storeName_local k hm (fun h' hn hs=>?_) (by rw [F.kind]; rfl)
  have hother:∀ a∈env.cells.map (·.2),a≠env.locals:=fun a ha e=>by
   obtain ⟨⟨y,c⟩,hp,rfl⟩:=List.mem_map.mp ha
   obtain ⟨v',o,ho,hd⟩:=F.cells y c hp
   obtain ⟨o',es,ep,ho',hd',_⟩:=hm
   have e:c=env.locals:=e
   rw [e,ho'] at ho; cases ho
   rw [hd'] at hd; cases hd
  refine key h' _ env.locals (by unfold tgt; rw [if_pos k]) hs ?_ ⟨_,hn⟩ (fun y c hp=>?_) (.inl ⟨k,_,hn,by simp⟩) fun y u hy z=>?_
  ·obtain ⟨o,es,ep,ho,hd,_⟩:=hn
   exact ⟨o,ho,.inl ⟨es,ep,hd⟩⟩
  ·obtain ⟨v',hv'⟩:=F.cells y c hp
   exact ⟨v',hv'.sameBut hs (hother c (List.mem_map.mpr ⟨_,hp,rfl⟩))⟩
  ·rcases z with ⟨k',m',hm',z⟩ | ⟨k',c,hl,z⟩
   ·refine .inl ⟨k',_,hn,?_⟩
    rw [if_neg hy,YQO hm hm']; exact z
   ·exact .inr ⟨k',c,hl,z.sameBut hs (hother c (List.mem_map.mpr ⟨_,mem_of_lookup hl,rfl⟩))⟩
 ·obtain ⟨c,hc⟩:=Option.isSome_iff_exists.mp hc
  have hmem:=mem_of_lookup hc
  obtain ⟨v₀,hv₀⟩:=F.cells x c hmem
  refine wpAny_storeName_cell F.kind k hc hv₀ fun h' hn hs=>?_
  obtain ⟨m,hm⟩:=F.ns
  have hne:env.locals≠c:=fun e=>by
   obtain ⟨o,es,ep,ho,hd,_⟩:=hm
   obtain ⟨o',ho',hd'⟩:=hv₀
   rw [e,ho'] at ho; cases ho
   rw [hd'] at hd; cases hd
  refine key h' s.toks c (by unfold tgt; rw [if_neg (by rw [k]; simp),hc]; rfl) hs ?_ ⟨m,hm.sameBut hs hne⟩ (fun y c' hp=>?_) (.inr ⟨.inl k,c,hc,hn⟩) fun y u hy z=>?_
  ·obtain ⟨o,ho,hd⟩:=hn
   exact ⟨o,ho,.inr (.inl ⟨_,hd⟩)⟩
  ·by_cases q:c'=c
   ·subst q; exact ⟨_,hn⟩
   ·obtain ⟨v',hv'⟩:=F.cells y c' hp
    exact ⟨v',hv'.sameBut hs q⟩
  ·rcases z with ⟨k',m',hm',z⟩ | ⟨k',c',hl,z⟩
   ·exact .inl ⟨k',m',hm'.sameBut hs hne,z⟩
   ·refine .inr ⟨k',c',hl,z.sameBut hs fun q=>hy ?_⟩
    subst q
    exact name_of_addr F.apart (mem_of_lookup hl) hmem
end
end Mine
end
section
open PySem PySem.Spec PyProof.Rows
namespace Mine
noncomputable def lim:Nat:=1000000
noncomputable def items (σ:List AO):AV→Option (List AV)
 | .lst vs=>some vs
 | .loc n=>match σ[n]? with
  | some (.list vs)=>some vs
  | _=>none
 | _=>none
noncomputable def rlen (a b c:Int):Nat:=(Builtin.Range.rangeSize a b c).toNat
noncomputable def asciiL (s:List Nat):Bool:=s.all (·<128)
noncomputable def nthA (σ:List AO) (it:AV) (i:Nat):Option (Option AV):=match it with
 | .rng a b c=>some (if i<rlen a b c then some (.int (a+c*i)) else none)
 | .str s=>if asciiL s then some ((s[i]?).map fun c=>.str [c]) else none
 | v=>(items σ v).map fun vs=>vs[i]?
noncomputable def fits (i:Int):Bool:=decide (-(2 ^ 60)≤i)&&decide (i≤2 ^ 60)
mutual
noncomputable def dataOf:AV→Option PyData
 | .none=>some .none
 | .bool b=>some (.bool b)
 | .int i=>some (.int i)
 | .str s=>some (.str ⟨s.toArray⟩)
 | .tup vs=>(Yd vs).map .tuple
 | .lst vs=>(Yd vs).map .list
 | .rng ..=>none
 | .loc _=>none
noncomputable def Yd:List AV→Option (List PyData)
 | []=>some []
 | v::r=>(dataOf v).bind fun d=>(Yd r).map (d::·)
end
noncomputable def dataAt (σ:List AO):AV→Option PyData
 | .loc n=>match σ[n]? with
  | some (.list vs)=>(Yd vs).map .list
  | _=>none
 | v=>dataOf v
noncomputable def strsOf:List AV→Option (List (List Nat))
 | []=>some []
 | .str s::r=>(strsOf r).map (s::·)
 | _=>none
noncomputable def intsOf:List AV→Option (List Int)
 | []=>some []
 | .int i::r=>(intsOf r).map (i::·)
 | _=>none
noncomputable def minL:List Int→Option Int
 | []=>none
 | x::r=>some (r.foldl (fun m y=>if y<m then y else m) x)
noncomputable def maxL:List Int→Option Int
 | []=>none
 | x::r=>some (r.foldl (fun m y=>if y>m then y else m) x)
noncomputable def ltS:List Nat→List Nat→Bool:=fun a b=>decide (a<b)
noncomputable def ltSS:List (List Nat)→List (List Nat)→Bool
 | a::r,b::t=>if a=b then ltSS r t else ltS a b
 | [],_::_=>true
 | _,[]=>false
noncomputable def pairC:(v:AV)→Option {l:List (List Nat) // ∃ u1 u2,l=[u1,u2]∧v=.tup [.str u1,.str u2]}
 | .tup [.str a,.str b]=>some ⟨[a,b],a,b,rfl,rfl⟩
 | _=>none
noncomputable def pairOf (v:AV):Option (List (List Nat)):=(pairC v).map (·.1)
noncomputable def pairsOf:List AV→Option (List (List (List Nat)))
 | []=>some []
 | v::r=>(pairOf v).bind fun p=>(pairsOf r).map (p::·)
noncomputable def insSS (x:List (List Nat)):List (List (List Nat))→List (List (List Nat))
 | []=>[x]
 | y::r=>if ltSS y x then y::insSS x r else x::y::r
noncomputable def sortSS (l:List (List (List Nat))):List (List (List Nat)):=l.foldr insSS []
inductive Bi where
 | len | range | list | min | max | sum | sorted
 deriving DecidableEq
inductive Me where
 | append | pop | pop0 | extend | index | join | count | lower
 deriving DecidableEq
noncomputable def lowerC (c:Nat):Nat:=if 65≤c∧c≤90 then c+32 else c
noncomputable def slA {α:Type} (xs:List α) (lo hi st:Option Int):List α:=
 (sliceRange (sliceBounds lo hi st xs.length).1 (sliceBounds lo hi st xs.length).2.1 (sliceBounds lo hi st xs.length).2.2).filterMap (xs[·]?)
noncomputable def Calm (A:Around):Prop:=A.handled=none∧A.units+100<cLine
noncomputable def Kp (rd:YE) (H₀:Heap) (μ:Own) (σ:List AO) (s:Shared) (v:AV) (Q:Value→Shared→Prop):Prop:=∀ s' rv,Ev [] μ s μ s'→HS rd H₀ μ σ s'.heap→RV μ s'.heap v rv→Q rv s'
abbrev Crt {α:Type} (P:α→Prop):=Option {v:α // P v}
section
variable {α β:Type} {P:α→Prop}
noncomputable def Crt.val (o:Crt P):Option α:=o.map (·.1)
theorem Crt.ok {o:Crt P} {v:α} (h:o.val=some v):P v:=by
 cases o with
 | none=>cases h
 | some p=>exact Option.some.inj h▸p.2
noncomputable def gdC (p:Prop) [Decidable p] (k:p→Crt P):Crt P:=if h:p then k h else none
theorem YO {p:Prop} [Decidable p] (h:p) {k:p→Crt P} {r:Option α} (e:(k h).val=r):(gdC p k).val=r:=by
 unfold gdC; rw [dif_pos h]; exact e
noncomputable def optC:(o:Option β)→(∀ a,o=some a→Crt P)→Crt P
 | some a,k=>k a rfl
 | none,_=>none
theorem YG {o:Option β} {a:β} (h:o=some a) {k:∀ a,o=some a→Crt P} {r:Option α} (e:(k a h).val=r):(optC o k).val=r:=by
 subst h; exact e
end
section
variable {prog:Program} {w:World} {A:Around} {E:Value→Shared→Prop} {s:Shared} {rd:YE} {H₀:Heap} {μ:Own} {σ:List AO}
theorem YQ {Q:Value→Shared→Prop} {v:AV} {rv:Value} {h':Heap} {tk:Nat} (H:HS rd H₀ μ σ s.heap) (k:∀ a o,s.heap.get? a=some o→h'.get? a=some o) (r:RV μ h' v rv)
  (h:Kp rd H₀ μ σ s v Q):Q rv { s with heap:=h',toks:=tk }:=
 h _ _ (Ev.keeps k) (H.keep0 k) r
theorem YH {Q:Value→Shared→Prop} {v:AV} {rv:Value} {tk:Nat} (H:HS rd H₀ μ σ s.heap) (r:RV μ s.heap v rv)
  (h:Kp rd H₀ μ σ s v Q):Q rv { s with toks:=tk }:=
 YQ (h':=s.heap) H (fun _ _ e=>e) r h
theorem YW {Q:Value→Shared→Prop} {v:AV} {rv:Value} (H:HS rd H₀ μ σ s.heap) (r:RV μ s.heap v rv)
  (h:Kp rd H₀ μ σ s v Q):Q rv s:=YH (tk:=s.toks) H r h
theorem HS.fresh (H:HS rd H₀ μ σ s.heap) {a:Addr} (e:s.heap.get? a=none):a∉μ.all:=fun q=>by
 obtain ⟨o,z⟩:=H.live a q
 rw [e] at z; cases z
theorem YN (h:Heap):h.get? h.objs.size=none:=Heap.get?_none_of_le (Nat.le_refl _)
theorem RVs.push (o:Obj) {v:List AV} {x:List Value} (r:RVs μ s.heap v x):RVs μ (s.heap.push o) v x:=
 r.mono (X:=[]) ⟨[],(Own.add_nil _).symm,by simp⟩ (fun _ _ e _ _=>Heap.get?_push_of_some _ e) (fun _ q=>(nomatch q))
theorem YCa {Q:Value→Shared→Prop} {vs:List AV} {xs:List Value} {tk:Nat} (H:HS rd H₀ μ σ s.heap) (r:RVs μ s.heap vs xs)
  (h:Kp rd H₀ μ σ s (.lst vs) Q):Q (.ref s.heap.objs.size) { s with heap:=s.heap.push { cls:=.type "list",data:=.seq xs.toArray },toks:=tk }:=
 YQ H (fun _ _ e=>Heap.get?_push_of_some _ e) (.lst ⟨_,Heap.get?_push_size _ rfl⟩ (H.fresh (YN _)) (r.push _)) h
theorem YGi {Q:Value→Shared→Prop} {vs:List AV} {xs:List Value} {tk:Nat} (H:HS rd H₀ μ σ s.heap) (r:RVs μ s.heap vs xs)
  (h:Kp rd H₀ μ σ s (.tup vs) Q):Q (.ref s.heap.objs.size) { s with heap:=s.heap.push { cls:=.type "tuple",data:=.seq xs.toArray },toks:=tk }:=
 YQ H (fun _ _ e=>Heap.get?_push_of_some _ e) (.tup ⟨_,Heap.get?_push_size _ rfl⟩ (H.fresh (YN _)) (r.push _)) h
theorem YJ (H:HS rd H₀ μ σ s.heap) {v:AV} {x:Value} {vs:List AV} (e:items σ v=some vs) (r:RV μ s.heap v x):
  ∃ a xs,x=.ref a∧PS "list" s.heap a xs∧RVs μ s.heap vs xs:=by
 cases v with
 | lst ws=>cases e; obtain ⟨a,xs,rfl,p,_,q⟩:=r.inv; exact ⟨a,xs,rfl,p,q⟩
 | loc n=>
  obtain ⟨a,l,rfl,hn⟩:=r.inv
  have e:(match σ[n]? with | some (.list vs)=>some vs | _=>none)=some vs:=e
  match he:σ[n]?,e with
  | some (.list _),e=>
   cases e
   obtain ⟨l',h1,a',xs,h0,h2,h3⟩:=H.own_some he
   rw [hn,h0] at h1
   cases h1
   exact ⟨a,xs,rfl,h2,h3⟩
 | _=>cases e
theorem PS.isList {h:Heap} {a:Addr} {xs:List Value} (p:PS "list" h a xs):h.IsList a xs.toArray:=let ⟨n,e⟩:=p; ⟨_,e,rfl,n,rfl⟩
theorem YAF {n:Nat} (h:n≤lim):n≤sizeLine:=by rw [sizeLine_eq]; unfold lim at h; exact Nat.le_trans (by assumption) (by decide)
theorem YAD (l:List Nat):(⟨l.toArray⟩:Str).length=l.length:=by simp [PySem.Str.length]
theorem YJW (a b:List Nat):(⟨a.toArray⟩:Str)++⟨b.toArray⟩=⟨(a++b).toArray⟩:=by
 show PySem.Str.append _ _=_
 simp [PySem.Str.append]
theorem YAl {i:Int}:fits i=true ↔ -(2 ^ 60)≤i∧i≤2 ^ 60:=by simp [fits]
theorem mulOk {a b:Int} (ha:fits a=true):IntMulOk a b:=by
 rw [YAl] at ha
 mul_fits
theorem bits16:∀ k:Fin 17,Builtin.Int.intBits ((k.val:Nat):Int)≤5:=by decide +kernel
theorem YLS {a b:Int} (h0:0≤a) (h1:a≤16) (h2:b≤16):(Builtin.Int.intBits a:Int)*b≤2 ^ 27:=by
 have:=bits16 ⟨a.toNat,by exact Zi0 h1⟩
 have e:((a.toNat:Nat):Int)=a:=by exact Zi1 h0
 simp only [e] at this
 have h5:(Builtin.Int.intBits a:Int)≤5:=by exact Zi2 this
 have h6:0≤(Builtin.Int.intBits a:Int):=by exact Zi3
 calc (Builtin.Int.intBits a:Int)*b≤(Builtin.Int.intBits a:Int)*16:=Int.mul_le_mul_of_nonneg_left h2 h6
  _≤2 ^ 27:=by lia
noncomputable def Snd2 (f:Value→Value→Sem Value) (σ:List AO) (x y v:AV):Prop:=∀ {prog:Program} {w:World} {A:Around} {E:Value→Shared→Prop} {s:Shared} {rd:YE} {H₀:Heap} {μ:Own} {a b:Value} {Q:Value→Shared→Prop},
 Calm A→HS rd H₀ μ σ s.heap→RV μ s.heap x a→RV μ s.heap y b→Kp rd H₀ μ σ s v Q→wpAny (model prog w) A (f a b) Q E s
theorem YJM {x y:AV} {xs ys:List AV} (h1:items σ x=some xs) (h2:items σ y=some ys) (hl:xs.length+ys.length≤lim):Snd2 (binaryOp .Add) σ x y (.lst (xs++ys)):=fun _ H ra rb h=>by
 obtain ⟨a',as,rfl,⟨n,pa⟩,qa⟩:=YJ H h1 ra
 obtain ⟨b',bs,rfl,⟨m,pb⟩,qb⟩:=YJ H h2 rb
 refine P.add_list pa pb ?_ (by rw [List.size_toArray,List.size_toArray,←qa.len,←qb.len]; exact YAF hl)
 rw [List.append_toArray]
 exact YCa H (qb.append qa) h
noncomputable def binC (σ:List AO) (op:Operator) (x y:AV):Crt (Snd2 (binaryOp op) σ x y):=match op,x,y with
 | .Add,.int a,.int b=>some ⟨.int (a+b),fun _ H ra rb h=>ra.int_ fun _=>rb.int_ fun _=>add_int (YH H (.int _ _) h)⟩
 | .Add,.str a,.str b=>gdC (a.length+b.length≤lim) fun hl=>some ⟨.str (a++b),fun _ H ra rb h=>ra.str_ fun _=>rb.str_ fun _=>add_str (fun _ _=>YJW a b▸YH H (.str _ _) h) (by rw [YAD,YAD]; exact YAF hl)⟩
 | .Add,x,y=>optC (items σ x) fun xs h1=>optC (items σ y) fun ys h2=>gdC (xs.length+ys.length≤lim) fun hl=>some ⟨.lst (xs++ys),YJM h1 h2 hl⟩
 | .Sub,.int a,.int b=>some ⟨.int (a-b),fun _ H ra rb h=>ra.int_ fun _=>rb.int_ fun _=>sub_int (YH H (.int _ _) h)⟩
 | .Mult,.int a,.int b=>gdC (fits a=true∧fits b=true) fun hl=>some ⟨.int (a*b),fun _ H ra rb h=>ra.int_ fun _=>rb.int_ fun _=>mul_int (YH H (.int _ _) h) (mulOk hl.1)⟩
 | .FloorDiv,.int a,.int b=>gdC (0<b∧b<1000000000) fun hl=>some ⟨.int (a.fdiv b),fun _ H ra rb h=>ra.int_ fun _=>rb.int_ fun _=>floordiv_int (by exact Zi4 hl.1) (YH H (.int _ _) h) (.inl (PyProof.noPylong_small (by lia)))⟩
 | .Mod,.int a,.int b=>gdC (¬b=0) fun hl=>some ⟨.int (a.fmod b),fun _ H ra rb h=>ra.int_ fun _=>rb.int_ fun _=>mod_int' hl (YH H (.int _ _) h)⟩
 | .Pow,.int a,.int b=>gdC (0≤b∧b≤16∧0≤a∧a≤16) fun hl=>some ⟨.int (a ^ b.toNat),fun _ H ra rb h=>ra.int_ fun _=>rb.int_ fun _=>pow_int hl.1 (YLS hl.2.2.1 hl.2.2.2 hl.2.1) (YH H (.int _ _) h)⟩
 | .RShift,.int a,.int b=>gdC (b=1) fun hl=>some ⟨.int (a.fdiv 2),fun _ H ra rb h=>ra.int_ fun _=>rb.int_ fun _=>by subst hl; refine rshift_int (by decide) ?_; exact YH H (.int _ _) h⟩
 | _,_,_=>none
noncomputable def binA (σ:List AO) (op:Operator) (x y:AV):Option AV:=(binC σ op x y).val
theorem YST {op:Operator} {x y v:AV} (e:binA σ op x y=some v):Snd2 (binaryOp op) σ x y v:=Crt.ok e
theorem size63 {vs:List AV} {xs:List Value} {μ:Own} {h:Heap} (r:RVs μ h vs xs) (hl:vs.length≤lim):((xs.toArray.size:Nat):Int)<2 ^ 63:=by
 rw [List.size_toArray,←r.len]; unfold lim at hl; exact Zi5 hl
theorem YHi {vs:List AV} {xs:List Value} {μ:Own} {h:Heap} (r:RVs μ h vs xs):xs.toArray.isEmpty=vs.isEmpty:=r.ind (P:=fun vs xs=>xs.toArray.isEmpty=vs.isEmpty) rfl fun _ _ _ _ _ _ _=>rfl
theorem YSY {i:Int} {a:Value} {Q:Value→Shared→Prop} (H:HS rd H₀ μ σ s.heap) (ra:RV μ s.heap (.int i) a) (h:Kp rd H₀ μ σ s (.int (-i)) Q):wpAny (model prog w) A (unaryOp .USub a) Q E s:=
 ra.int_ fun _=>PyProof.Rows.neg_int (YH H (.int _ _) h)
noncomputable def KpB (rd:YE) (H₀:Heap) (μ:Own) (σ:List AO) (s:Shared) (t:Bool) (Q:Bool→Shared→Prop):Prop:=∀ s',Ev [] μ s μ s'→HS rd H₀ μ σ s'.heap→Q t s'
theorem YAQ {Q:Bool→Shared→Prop} {b:Bool} {tk:Nat} (H:HS rd H₀ μ σ s.heap) (h:KpB rd H₀ μ σ s b Q):Q b { s with toks:=tk }:=h _ (Ev.keeps (h':=s.heap) fun _ _ e=>e) H
noncomputable def SndT (σ:List AO) (x:AV) (t:Bool):Prop:=∀ {prog:Program} {w:World} {A:Around} {E:Value→Shared→Prop} {s:Shared} {rd:YE} {H₀:Heap} {μ:Own} {a:Value} {Q:Bool→Shared→Prop},
 HS rd H₀ μ σ s.heap→RV μ s.heap x a→KpB rd H₀ μ σ s t Q→wpAny (model prog w) A (truthy a) Q E s
theorem YHn {v:AV} {vs:List AV} (h1:items σ v=some vs) (hl:vs.length≤lim):SndT σ v (!vs.isEmpty):=fun H ra h=>by
 obtain ⟨a',xs,rfl,p,q⟩:=YJ H h1 ra
 refine wpAny_truthy_list p.isList (size63 q hl) ?_
 rw [YHi q]
 exact YAQ H h
theorem YJl (l:List Nat):(((l.length:Nat):Int) != 0)=!l.isEmpty:=by
 cases l with
 | nil=>rfl
 | cons a r=>exact bne_iff_ne.mpr (by rw [List.length_cons]; exact Zi6)
noncomputable def truthC (σ:List AO) (x:AV):Crt (SndT σ x):=match x with
 | .none=>some ⟨false,fun H ra h=>ra.none_ (wpAny_of_eq (show truthy .none=pure false from rfl) (YAQ H h))⟩
 | .bool b=>some ⟨b,fun H ra h=>ra.bool_ (wpAny_truthy_bool (YAQ H h))⟩
 | .int i=>some ⟨i != 0,fun H ra h=>ra.int_ fun _=>PyProof.Rows.truthy_int (YAQ H h)⟩
 | .str s=>gdC (s.length≤lim) fun hl=>some ⟨!s.isEmpty,fun H ra h=>ra.str_ fun _=>P.truthy_str (by rw [YAD]; unfold lim at hl; exact Zi7 hl) (by rw [YAD,YJl]; exact YAQ H h)⟩
 | .tup vs=>gdC (vs.length≤lim) fun hl=>some ⟨!vs.isEmpty,fun H ra h=>ra.tup_ fun _ _ k p _ q=>PyProof.Rows.truthy_tuple ⟨_,p,rfl,k,rfl⟩ (size63 q hl) (by rw [YHi q]; exact YAQ H h)⟩
 | v=>optC (items σ v) fun vs h1=>gdC (vs.length≤lim) fun hl=>some ⟨!vs.isEmpty,YHn h1 hl⟩
noncomputable def truthA (σ:List AO) (x:AV):Option Bool:=(truthC σ x).val
theorem YHS {x:AV} {t:Bool} (e:truthA σ x=some t):SndT σ x t:=Crt.ok e
theorem YI {α β:Type} {o:Option α} {f:α→Option β} {r:β} {G:Prop} (h:o.bind f=some r) (k:∀ a,o=some a→f a=some r→G):G:=by
 cases o with
 | none=>cases h
 | some a=>exact k a rfl h
@[elab_as_elim] theorem YBY {α β:Type} {o:Option α} {f:α→β} {r:β} {G:β→Prop} (h:o.map f=some r) (k:∀ a,o=some a→G (f a)):G r:=by
 cases o with
 | none=>cases h
 | some a=>exact Option.some.inj h▸k a rfl
theorem YDj {μ:Own} {h:Heap}:(∀ (v:AV) (x:Value),RV μ h v x→∀ d,dataOf v=some d→∃ as,Reads h x d as)∧∀ (vs:List AV) (xs:List Value),RVs μ h vs xs→∀ ds,Yd vs=some ds→∃ as,ReadsAll h xs ds as:=by
 have cons:∀ (v:AV) (vs:List AV),(∀ (x:Value),RV μ h v x→∀ d,dataOf v=some d→∃ as,Reads h x d as)→(∀ (xs:List Value),RVs μ h vs xs→∀ ds,Yd vs=some ds→∃ as,ReadsAll h xs ds as)→∀ (xs:List Value),RVs μ h (v::vs) xs→∀ ds,Yd (v::vs)=some ds→∃ as,ReadsAll h xs ds as:=
  fun v vs f g xs r ds e=>r.cons_ fun x ys a b=>YI (f:=fun d=>(Yd vs).map (d::·)) e fun d h1 e=>YBY e fun ds h2=>(f x a d h1).elim fun as p=>(g ys b ds h2).elim fun bs q=>⟨_,.cons p q⟩
 have tup:∀ vs:List AV,(∀ (xs:List Value),RVs μ h vs xs→∀ ds,Yd vs=some ds→∃ as,ReadsAll h xs ds as)→∀ (x:Value),RV μ h (.tup vs) x→∀ d,dataOf (.tup vs)=some d→∃ as,Reads h x d as:=
  fun vs f x r d e=>r.tup_ fun a xs n p _ q=>YBY (show (Yd vs).map PyData.tuple=some d from e) fun ds h1=>(f xs q ds h1).elim fun as z=>⟨_,.tuple p rfl rfl z⟩
 have lst:∀ vs:List AV,(∀ (xs:List Value),RVs μ h vs xs→∀ ds,Yd vs=some ds→∃ as,ReadsAll h xs ds as)→∀ (x:Value),RV μ h (.lst vs) x→∀ d,dataOf (.lst vs)=some d→∃ as,Reads h x d as:=
  fun vs f x r d e=>r.lst_ fun a xs n p _ q=>YBY (show (Yd vs).map PyData.list=some d from e) fun ds h1=>(f xs q ds h1).elim fun as z=>⟨_,.list p rfl rfl z⟩
 have nil:∀ (xs:List Value),RVs μ h [] xs→∀ ds,Yd []=some ds→∃ as,ReadsAll h xs ds as:=fun xs r ds e=>r.nil_ (Option.some.inj e▸⟨_,.nil⟩)
 have one:∀ (v:AV) (x:Value),RV μ h v x→∀ d,dataOf v=some d→∃ as,Reads h x d as:=fun v=>
  AV.rec (motive_1:=fun v=>∀ (x:Value),RV μ h v x→∀ d,dataOf v=some d→∃ as,Reads h x d as) (motive_2:=fun vs=>∀ (xs:List Value),RVs μ h vs xs→∀ ds,Yd vs=some ds→∃ as,ReadsAll h xs ds as)
   (fun x r d e=>r.none_ (Option.some.inj e▸⟨_,.none⟩)) (fun b x r d e=>r.bool_ (Option.some.inj e▸⟨_,.bool b⟩)) (fun i x r d e=>r.int_ fun t=>Option.some.inj e▸⟨_,.int i t⟩) (fun s x r d e=>r.str_ fun t=>Option.some.inj e▸⟨_,.str _ t⟩)
   tup lst (fun _ _ _ _ _ _ e=>nomatch e) (fun _ _ _ _ e=>nomatch e) nil cons v
 exact ⟨one,fun vs=>List.rec (motive:=fun vs=>∀ (xs:List Value),RVs μ h vs xs→∀ ds,Yd vs=some ds→∃ as,ReadsAll h xs ds as) nil (fun v vs ih=>cons v vs (one v) ih) vs⟩
theorem YCc (H:HS rd H₀ μ σ s.heap) {v:AV} {x:Value} {d:PyData} (e:dataAt σ v=some d) (r:RV μ s.heap v x):∃ as,Reads s.heap x d as:=by
 cases v with
 | loc n=>
  have e:(match σ[n]? with | some (.list vs)=>(Yd vs).map PyData.list | _=>none)=some d:=e
  match he:σ[n]?,e with
  | some (.list vs),e=>
   refine YBY (show (Yd vs).map PyData.list=some d from e) fun ds h1=>?_
   obtain ⟨a,xs,rfl,⟨k,p⟩,q⟩:=YJ (vs:=vs) H (by show (match σ[n]? with | some (.list vs)=>some vs | _=>none)=_; rw [he]) r
   obtain ⟨as,z⟩:=YDj.2 _ _ q _ h1
   exact ⟨_,.list p rfl rfl z⟩
 | _=>exact YDj.1 _ _ r _ e
inductive LtV:List Value→List Value→Bool→Prop
 | nil:LtV [] [] false
 | eq (i:Int) (t u:Tok) {xs ys:List Value} {b:Bool}:LtV xs ys b→LtV (.int i t::xs) (.int i u::ys) b
 | ne (i j:Int) (t u:Tok) (xs ys:List Value):i≠j→LtV (.int i t::xs) (.int j u::ys) (decide (i<j))
noncomputable def ltC:∀ (va vb:List AV),Crt fun b=>∀ {μ:Own} {h:Heap} {xs ys:List Value},RVs μ h va xs→RVs μ h vb ys→LtV xs ys b
 | .int a::r,.int b::t=>if hk:a=b then (match ltC r t with
   | some ⟨c,z⟩=>some ⟨c,fun p q=>p.cons_ fun _ _ p1 p2=>q.cons_ fun _ _ q1 q2=>p1.int_ fun _=>q1.int_ fun _=>hk▸.eq a _ _ (z p2 q2)⟩
   | none=>none) else some ⟨decide (a<b),fun p q=>p.cons_ fun _ _ p1 _=>q.cons_ fun _ _ q1 _=>p1.int_ fun _=>q1.int_ fun _=>.ne a b _ _ _ _ hk⟩
 | [],[]=>some ⟨false,fun p q=>p.nil_ (q.nil_ .nil)⟩
 | _,_=>none
theorem YTY {β:Type} {init:β} {res:Bool→β} {f:Value×Value→β→Sem (ForInStep β)} {K:β→Shared→Prop} {E:Value→Shared→Prop} {M:Model} {A:Around}
  (h1:∀ i t u (Q:ForInStep β→Shared→Prop),Q (.yield init) s→wpAny M A (f (.int i t,.int i u) init) Q E s) (h2:∀ i j t u,i≠j→∀ Q:ForInStep β→Shared→Prop,Q (.done (res (decide (i<j)))) s→wpAny M A (f (.int i t,.int j u) init) Q E s)
  {xs ys:List Value} {b:Bool} (L:LtV xs ys b) (hd:K (res b) s) (hn:xs.length=ys.length→b=false→K init s):wpAny M A (forIn (List.zip xs ys) init f) K E s:=by
 induction L with
 | nil=>exact wpAny_pure (hn rfl rfl)
 | eq i t u _ ih=>
  rw [List.zip_cons_cons,List.forIn_cons]
  exact wpAny_bind (h1 i t u _ (ih hd fun e=>hn (congrArg Nat.succ e)))
 | ne i j t u xs ys hne=>
  rw [List.zip_cons_cons,List.forIn_cons]
  exact wpAny_bind (h2 i j t u hne _ (wpAny_pure hd))
theorem YEH {x y:Addr} {xs ys:List Value} {n k:Nat} {b:Bool} {P:Fin→Shared→Prop} {A:Around} (hx:s.heap.get? x=some { cls:=.type "tuple",data:=.seq xs.toArray n }) (hy:s.heap.get? y=some { cls:=.type "tuple",data:=.seq ys.toArray k })
  (L:LtV xs ys b) (h:P (.done (.ret (.bool b))) s):
  wpAny (model prog w) A (Builtin.«tuple.__lt__» ⟨[.ref x,.ref y],[]⟩) P E s:=by
 show wpAny _ _ (isInstance (.ref y) (.type "tuple") >>= _) _ _ s
 refine wpAny_bind (wpAny_isInstance ⟨_,hy,rfl⟩ isSubtype_tuple_tuple ?_)
 simp only [Bool.not_true,Bool.false_eq_true,if_false]
 refine wpAny_bind (wpAny_tupleItemsOf hx rfl ?_)
 refine wpAny_bind (wpAny_tupleItemsOf hy rfl ?_)
 refine wpAny_bind ?_
 refine YTY (res:=fun b=>(some (.done (.ret (.bool b))),())) (fun i t u Q hQ=>?_) (fun i j t u hne Q hQ=>?_) L ?_ fun hl hb=>?_
 ·exact wpAny_bind (wpAny_eqBool_int (by rw [beq_self_eq_true]; exact wpAny_pure hQ))
 ·refine wpAny_bind (wpAny_eqBool_int ?_)
  rw [show (_==_)=false from beq_eq_false_iff_ne.mpr hne]
  exact wpAny_bind (wpAny_rule (wpAny_bind (PyProof.Rows.lt_int (wpAny_bind (wpAny_pure (wpAny_pure hQ))))))
 ·exact wpAny_pure h
 ·subst hb
  refine wpAny_pure ?_
  have e2:Builtin.Tuple.tupleCompareSizes .Lt xs.toArray.size ys.toArray.size=.bool false:=by
   unfold Builtin.Tuple.tupleCompareSizes
   rw [show xs.toArray.size=ys.toArray.size from hl]
   exact congrArg Value.bool (decide_eq_false (Nat.lt_irrefl _))
  rw [e2]; exact h
theorem YHM {μ:Own} {h:Heap} {vs:List AV}:∀ {xs:List Value} {ss:List (List Nat)},strsOf vs=some ss→RVs μ h vs xs→StrsAre xs (ss.map fun l=>(⟨l.toArray⟩:Str)):=by
 induction vs with
 | nil=>intro xs ss e r; exact r.nil_ (Option.some.inj e▸.nil)
 | cons v vs ih=>
  intro xs ss e r
  cases v with
  | str s=>exact r.cons_ fun x ys a b=>a.str_ fun t=>YBY (show (strsOf vs).map (s::·)=some ss from e) fun ss h1=>.cons _ _ (ih h1 b)
  | _=>cases e
theorem YPN {a b:List Nat}:((⟨a.toArray⟩:Str)=⟨b.toArray⟩)↔a=b:=⟨fun e=>congrArg (fun s:Str=>s.cps.toList) e,fun e=>e▸rfl⟩
theorem YPe (a b:List Nat):((⟨a.toArray⟩:Str)==⟨b.toArray⟩)=(a==b):=by
 rw [Bool.eq_iff_iff,beq_iff_eq,beq_iff_eq,YPN]
theorem YFP (x:Nat) (l:List Nat):decide (x∈(⟨l.toArray⟩:Str).cps.toList)=l.contains x:=by simp
theorem YTB {x y:AV} {da db:PyData} (h1:dataAt σ x=some da) (h2:dataAt σ y=some db) (hs:SeqAt.shaped da=true∧SeqAt.shaped db=true):Snd2 (compareOp .Eq) σ x y (.bool (PyData.eqv da db)):=fun hA H ra rb h=>
 (YCc H h1 ra).elim fun _ r1=>(YCc H h2 rb).elim fun _ r2=>eq_dataH r1 r2 hs.1 hs.2 (by have:=hA.2; exact Ze2 this) (YW H (.bool _) h)
theorem YSR {x y:AV} {da db:PyData} (h1:dataAt σ x=some da) (h2:dataAt σ y=some db) (hs:SeqAt.shaped da=true∧SeqAt.shaped db=true):Snd2 (compareOp .NotEq) σ x y (.bool (!PyData.eqv da db)):=fun hA H ra rb h=>
 (YCc H h1 ra).elim fun _ r1=>(YCc H h2 rb).elim fun _ r2=>ne_dataH r1 r2 hs.1 hs.2 (by have:=hA.2; exact Ze2 this) (YW H (.bool _) h)
theorem YSM {a b:List AV} {c:Bool} (z:∀ {μ:Own} {h:Heap} {xs ys:List Value},RVs μ h a xs→RVs μ h b ys→LtV xs ys c):Snd2 (compareOp .Lt) σ (.tup a) (.tup b) (.bool c):=fun hA H ra rb h=>ra.tup_ fun x xs n p _ q=>rb.tup_ fun y ys k p2 _ q2=>by
 show wpAny _ _ (richCompare .Lt _ _) _ _ _
 refine wpAny_richCompare_same_room (T := "tuple") ⟨_,p,rfl⟩ ⟨_,p2,rfl⟩ F.slot_tuple_lt (wpAny_call_entry F.slot_tuple_lt ⟨_,p,rfl⟩ F.entry_tuple_lt ?_ (F.args_tuple_lt_2 _ _)) (by have:=hA.2; exact Ze3 this)
 exact YEH p p2 (z q q2) ⟨_,rfl,(fun e=>nomatch e),YW H (.bool _) h⟩
theorem YPw {x:Nat} {s:List Nat}:Snd2 (compareOp .In) σ (.str [x]) (.str s) (.bool (s.contains x)):=fun _ H ra rb h=>ra.str_ fun _=>rb.str_ fun _=>by
 refine PyProof.Rows.in_str ?_
 rw [StrLaws.found_one,YFP]
 exact YW H (.bool _) h
theorem YPx {c:List Nat} {vs:List AV} {ss:List (List Nat)} (h1:strsOf vs=some ss):Snd2 (compareOp .In) σ (.str c) (.tup vs) (.bool (ss.contains c)):=fun _ H ra rb h=>ra.str_ fun _=>rb.tup_ fun y ys n p _ q=>by
 refine in_tuple_strs (items:=_) ⟨_,p,rfl,n,rfl⟩ (YHM h1 q) ?_
 have:((ss.map fun l=>(⟨l.toArray⟩:Str)).any fun z=>z==⟨c.toArray⟩)=ss.contains c:=by
  rw [List.any_map,←List.any_beq']
  exact congrArg ss.any (funext fun l=>YPe l c)
 rw [this]
 exact YW H (.bool _) h
noncomputable def cmpC (σ:List AO) (op:CmpOp) (x y:AV):Crt fun b=>Snd2 (compareOp op) σ x y (.bool b):=match op,x,y with
 | .Eq,x,y=>optC (dataAt σ x) fun a h1=>optC (dataAt σ y) fun b h2=>gdC (SeqAt.shaped a=true∧SeqAt.shaped b=true) fun hs=>some ⟨_,YTB h1 h2 hs⟩
 | .NotEq,x,y=>optC (dataAt σ x) fun a h1=>optC (dataAt σ y) fun b h2=>gdC (SeqAt.shaped a=true∧SeqAt.shaped b=true) fun hs=>some ⟨_,YSR h1 h2 hs⟩
 | .Lt,.int a,.int b=>some ⟨decide (a<b),fun _ H ra rb h=>ra.int_ fun _=>rb.int_ fun _=>PyProof.Rows.lt_int (YW H (.bool _) h)⟩
 | .LtE,.int a,.int b=>some ⟨decide (a≤b),fun _ H ra rb h=>ra.int_ fun _=>rb.int_ fun _=>PyProof.Rows.le_int (YW H (.bool _) h)⟩
 | .Gt,.int a,.int b=>some ⟨decide (b<a),fun _ H ra rb h=>ra.int_ fun _=>rb.int_ fun _=>PyProof.Rows.gt_int (YW H (.bool _) h)⟩
 | .GtE,.int a,.int b=>some ⟨decide (b≤a),fun _ H ra rb h=>ra.int_ fun _=>rb.int_ fun _=>PyProof.Rows.ge_int (YW H (.bool _) h)⟩
 | .Lt,.tup a,.tup b=>(ltC a b).map fun p=>⟨p.1,YSM p.2⟩
 | .In,.str [x],.str s=>some ⟨_,YPw⟩
 | .In,.str c,.tup vs=>optC (strsOf vs) fun ss h1=>some ⟨_,YPx h1⟩
 | _,_,_=>none
noncomputable def cmpA (σ:List AO) (op:CmpOp) (x y:AV):Option Bool:=(cmpC σ op x y).val
theorem YHP {op:CmpOp} {x y:AV} {b:Bool} (e:cmpA σ op x y=some b):Snd2 (compareOp op) σ x y (.bool b):=Crt.ok e
end
end Mine
end
section
open PySem PySem.Spec PySem.W PyProof.Rows
namespace Mine
section
variable {prog:Program} {w:World} {A:Around} {E:Value→Shared→Prop} {s:Shared} {vs:List Value} {G:Array Nat→Prop}
theorem YHb {α:Type} {n:Nat} {c:Nat→Nat→Bool} {cmp:Nat→Nat→(Bool→Shared→Prop)→Shared→Prop} {Q:α→Prop} (hc:∀ i j,i<n→j<n→∀ C:Bool→Shared→Prop,C (c i j) s→cmp i j C s):
  ∀ (t:KasT α),pwp n c t Q→t.kasWp cmp (fun a s'=>Q a∧s'=s) s
 | .ret a,h=>⟨h,rfl⟩
 | .ask i j k,h=>hc i j h.1 h.2.1 _ (YHb hc (k (c i j)) h.2.2)
noncomputable def Asks (prog:Program) (w:World) (vs:List Value) (G:Array Nat→Prop) (s:Shared):Prop:=
 ∀ A:Around,A.units+90<cLine→∃ κ,(∀ Q:SortKind→Shared→Prop,Q κ s→wpAny (model prog w) A (keyKind' vs.toArray) Q (fun _ _=>False) s)∧(kas_sort vs.length).kasWp (kas_ask prog w A κ vs) (fun p s'=>G p∧s'=s) s
theorem YIi {a:Addr} {n:Nat} {P:PySem.Fin→Shared→Prop} (hA:A.units+90<cLine) (ho:s.heap.get? a=some (seqObj "list" vs.toArray n)) (h2:2≤vs.length) (h64:vs.length<64)
  (hk:∀ h',(∀ b o,b≠a→s.heap.get? b=some o→h'.get? b=some o)→Asks prog w vs G { s with heap:=h' })
  (h:∀ p c h',G p→p.size=vs.length→(∀ b o,b≠a→s.heap.get? b=some o→h'.get? b=some o)→h'.get? a=some (seqObj "list" (p.toList.map fun i=>vs.getD i Value.none).toArray c)→P (.done (.ret .none)) { s with heap:=h' }):
  wpAny (model prog w) A (Builtin.«list.sort» ⟨[.ref a],[]⟩) P E s:=by
 rw [list_sort_plain]
 refine wpAny_bind (listItems_at ho rfl ?_)
 refine wpAny_bind (listUpdate_at ho rfl ?_ (by rw [List.size_toArray,sizeLine_eq]; exact Ze368 h64) (Nat.zero_le _))
 have ho1:=get?_update_seq ho fun _=>(#[]:Array Value)
 have kp1:∀ b o,b≠a→s.heap.get? b=some o→(s.heap.update a (Obj.mapSeq fun _=>(#[]:Array Value))).get? b=some o:=fun b o hb e=>(Heap.get?_update_ne _ _ _ _ hb).trans e
 generalize s.heap.update a (Obj.mapSeq fun _=>(#[]:Array Value))=g1 at ho1 kp1
 refine wpAny_bind (seqEpoch_at ho1 rfl ?_)
 refine wpAny_bind (wpAny_newTuple ?_ (by show vs.length≤_; rw [sizeLine_eq]; exact Ze368 h64))
 refine wpAny_bind (wpAny_newList ?_ (Nat.zero_le _))
 refine wpAny_holding ?_
 have ho2:=Heap.get?_push_of_some { cls:=.type "list",data:=.seq ([]:List Value).toArray } (Heap.get?_push_of_some { cls:=.type "tuple",data:=.seq vs.toArray } ho1)
 have kp2:∀ b o,b≠a→s.heap.get? b=some o→((g1.push { cls:=.type "tuple",data:=.seq vs.toArray }).push { cls:=.type "list",data:=.seq ([]:List Value).toArray }).get? b=some o:=
  fun b o hb e=>Heap.get?_push_of_some _ (Heap.get?_push_of_some _ (kp1 b o hb e))
 show wpAny (model prog w) A _ P E { s with heap:=(g1.push { cls:=.type "tuple",data:=.seq vs.toArray }).push { cls:=.type "list",data:=.seq ([]:List Value).toArray } }
 generalize (g1.push { cls:=.type "tuple",data:=.seq vs.toArray }).push { cls:=.type "list",data:=.seq ([]:List Value).toArray }=g2 at ho2 kp2
 obtain ⟨κ,hκ,hask⟩:=hk g2 kp2 A hA
 dsimp only
 have hn2:¬vs.toArray.size<2:=by rw [List.size_toArray]; exact Ze369 h2
 rw [if_neg hn2,if_neg hn2]
 refine wpAny_bind (wpAny_mono (hκ (fun k s'=>k=κ∧s'={ s with heap:=g2 }) ⟨rfl,rfl⟩) (fun κ' s0 hk=>?_) fun _ _ x=>x.elim)
 obtain ⟨rfl,rfl⟩:=hk
 refine wpAny_bind (wpAny_mono (kat_run (Q:=fun st' s'=>∃ p:Array Nat,p.size=vs.length∧arrOf st'=p.map (kas_item (vs.toArray.zip vs.toArray))∧failedOf st'=none∧G p∧s'={ s with heap:=g2 })
  rfl h2 h64 (fun p' st' s' a1 a2 a3 a4=>⟨p',a1,a2,a3,a4⟩) hask) ?_ fun _ _ e=>e)
 rintro ⟨⟨⟩,st'⟩ s' ⟨p,hp,har,hf,hG,rfl⟩
 dsimp only
 have hout:=kat_snds (ks:=vs) (vs:=vs) rfl har
 have hsz:(List.toArray (p.toList.map fun i=>vs.getD i Value.none)).size=vs.length:=by rw [List.size_toArray,List.length_map,Array.length_toList,hp]
 rw [hout]
 have ho3:=get?_update_seq ho2 fun _=>List.toArray (p.toList.map fun i=>vs.getD i Value.none)
 have kp3:∀ b o,b≠a→s.heap.get? b=some o→(g2.update a (Obj.mapSeq fun _=>List.toArray (p.toList.map fun i=>vs.getD i Value.none))).get? b=some o:=fun b o hb e=>(Heap.get?_update_ne _ _ _ _ hb).trans (kp2 b o hb e)
 refine wpAny_bind (seqEpoch_at ho2 rfl ?_)
 refine wpAny_bind (listUpdate_at ho2 rfl ?_ (Nat.zero_le _) (Nat.le_trans (Nat.le_of_eq hsz) (by rw [sizeLine_eq]; exact Ze370 h64)))
 rw [hf]
 simp only [bne_self_eq_false,Bool.false_eq_true,if_false]
 exact wpAny_pure (h p _ _ hG hp kp3 ho3)
theorem YIR {l:Addr} {Q:Value→Shared→Prop} (hA:A.units+100<cLine) (hl:s.heap.IsList l vs.toArray) (h2:2≤vs.length) (h64:vs.length<64)
  (hk:∀ h',(∀ b o,s.heap.get? b=some o→h'.get? b=some o)→Asks prog w vs G { s with heap:=h' })
  (h:∀ p D c h',G p→p.size=vs.length→(∀ b o,s.heap.get? b=some o→h'.get? b=some o)→s.heap.get? D=none→h'.get? D=some (seqObj "list" (p.toList.map fun i=>vs.getD i Value.none).toArray c)→Q (.ref D) { s with heap:=h' }):
  wpAny (model prog w) A (call (.builtin "sorted") [.ref l]) Q E s:=by
 refine Calls.call_function_entry kind_sorted plain_sorted entry_sorted (args_sorted1 _) ?_
 unfold Builtin.«sorted»
 refine wpAny_bind (m:=checkCount "sorted" 1 1 _) (wpAny_pure ?_)
 refine wpAny_bind (collect_list hl ?_ (by rw [sizeLine_eq]; exact Ze368 h64))
 refine wpAny_bind (wpAny_newList ?_ (by rw [sizeLine_eq]; exact Ze368 h64))
 have keep1:∀ b o,s.heap.get? b=some o→((s.heap.push (seqObj "list" #[] 0)).update s.heap.objs.size (Obj.mapSeq (·++vs.toArray))).get? b=some o:=fun b o q=>
  (Heap.get?_update_ne _ _ _ _ (Nat.ne_of_lt (Heap.lt_size q))).trans (Heap.get?_push_of_some _ q)
 have hsz:s.heap.objs.size≤((s.heap.push (seqObj "list" #[] 0)).update s.heap.objs.size (Obj.mapSeq (·++vs.toArray))).objs.size:=by
  rw [Heap.size_update,size_push']; exact Ze38
 show wpAny _ _ _ _ _ { s with heap:=((s.heap.push (seqObj "list" #[] 0)).update s.heap.objs.size (Obj.mapSeq (·++vs.toArray))).push (seqObj "list" vs.toArray 0) }
 generalize (s.heap.push (seqObj "list" #[] 0)).update s.heap.objs.size (Obj.mapSeq (·++vs.toArray))=g1 at keep1 hsz
 have hoL:(g1.push (seqObj "list" vs.toArray 0)).get? g1.objs.size=some (seqObj "list" vs.toArray 0):=Heap.get?_push_size _ rfl
 have keep:∀ b o,s.heap.get? b=some o→(g1.push (seqObj "list" vs.toArray 0)).get? b=some o:=fun b o q=>Heap.get?_push_of_some _ (keep1 b o q)
 have new:s.heap.get? g1.objs.size=none:=Heap.get?_none_of_le hsz
 have ne:∀ b o,s.heap.get? b=some o→b≠g1.objs.size:=fun b o q e=>by rw [e,new] at q; cases q
 refine wpAny_bind (wpAny_holding (wpAny_call_entry slot_list_sort ⟨_,hoL,rfl⟩ entry_list_sort ?body (args_list_sort _)))
 case body=>
  refine YIi (G:=G) (s:={ s with heap:=g1.push (seqObj "list" vs.toArray 0) }) (by show A.units+1+1+90<_; exact Ze371 hA) hoL h2 h64 (fun h' k=>hk h' fun b o q=>k b o (ne b o q) (keep b o q)) fun p c h' hG hp k hg=>?_
  exact ⟨_,rfl,wpAny_pure ⟨_,rfl,h p _ c h' hG hp (fun b o q=>k b o (ne b o q) (keep b o q)) new hg⟩⟩
end
theorem YOn (a:List Nat):ltS a a=false:=by unfold ltS; exact decide_eq_false (List.lt_irrefl a)
theorem YRR {a b c:List Nat} (h1:ltS a b=true) (h2:ltS b c=true):ltS a c=true:=by
 unfold ltS at *; exact decide_eq_true (List.lt_trans (of_decide_eq_true h1) (of_decide_eq_true h2))
theorem YQL {a b:List Nat} (h1:ltS a b=false) (h2:ltS b a=false):a=b:=by
 unfold ltS at *; exact List.le_antisymm (of_decide_eq_false h2) (of_decide_eq_false h1)
theorem YEe:∀ a:List (List Nat),ltSS a a=false
 | []=>rfl
 | x::r=>by unfold ltSS; rw [if_pos rfl]; exact YEe r
theorem YJH:∀ a b c:List (List Nat),ltSS a b=true→ltSS b c=true→ltSS a c=true
 | [],[],_,h,_=>by simp [ltSS] at h
 | [],_::_,[],_,h=>by simp [ltSS] at h
 | [],_::_,_::_,_,_=>rfl
 | _::_,[],_,h,_=>by simp [ltSS] at h
 | _::_,_::_,[],_,h=>by simp [ltSS] at h
 | x::r,y::t,z::u,h1,h2=>by
  unfold ltSS at *
  by_cases e1:x=y
  ·subst e1
   rw [if_pos rfl] at h1
   by_cases e2:x=z
   ·rw [if_pos e2] at h2 ⊢; exact YJH r t u h1 h2
   ·rw [if_neg e2] at h2 ⊢; exact h2
  ·rw [if_neg e1] at h1
   by_cases e2:y=z
   ·subst e2; rw [if_neg e1]; exact h1
   ·rw [if_neg e2] at h2
    have h3:=YRR h1 h2
    by_cases e3:x=z
    ·subst e3; rw [YOn] at h3; cases h3
    ·rw [if_neg e3]; exact h3
theorem YGz:∀ a b:List (List Nat),ltSS a b=false→ltSS b a=false→a=b
 | [],[],_,_=>rfl
 | [],_::_,h,_=>by simp [ltSS] at h
 | _::_,[],_,h=>by simp [ltSS] at h
 | x::r,y::t,h1,h2=>by
  unfold ltSS at h1 h2
  by_cases e:x=y
  ·subst e
   rw [if_pos rfl] at h1 h2
   rw [YGz r t h1 h2]
  ·rw [if_neg e] at h1
   rw [if_neg (Ne.symm e)] at h2
   exact absurd (YQL h1 h2) e
noncomputable def oSS:SO (List (List Nat)):=⟨ltSS,YEe,YJH,YGz⟩
theorem YEZ (x:List (List Nat)):∀ l,(insSS x l).Perm (x::l)
 | []=>List.Perm.refl _
 | y::r=>by
  unfold insSS
  split
  ·exact ((YEZ x r).cons y).trans (List.Perm.swap x y r)
  ·exact List.Perm.refl _
theorem YBC:∀ l,(sortSS l).Perm l
 | []=>List.Perm.refl _
 | x::r=>(YEZ x _).trans ((YBC r).cons x)
theorem YDa (x:List (List Nat)):∀ l,l.Pairwise oSS.le→(insSS x l).Pairwise oSS.le
 | [],_=>by simp [insSS]
 | y::r,h=>by
  rw [List.pairwise_cons] at h
  unfold insSS
  split
  ·rename_i hy
   rw [List.pairwise_cons]
   refine ⟨fun z hz=>?_,YDa x r h.2⟩
   rcases List.mem_cons.mp ((YEZ x r).mem_iff.mp hz) with rfl | hz
   ·exact oSS.le_of_lt hy
   ·exact h.1 z hz
  ·rename_i hy
   have hy:oSS.le x y:=eq_false_of_ne_true hy
   rw [List.pairwise_cons]
   refine ⟨fun z hz=>?_,List.pairwise_cons.mpr h⟩
   rcases List.mem_cons.mp hz with rfl | hz
   ·exact hy
   ·exact oSS.le_trans hy (h.1 z hz)
theorem YAm:∀ l,(sortSS l).Pairwise oSS.le
 | []=>List.Pairwise.nil
 | x::r=>YDa x _ (YAm r)
theorem YBf {α:Type} (o:SO α):∀ {l l':List α},l.Perm l'→l.Pairwise o.le→l'.Pairwise o.le→l=l'
 | [],l',h,_,_=>by have:=h.symm.eq_nil; exact this.symm
 | x::r,[],h,_,_=>by have:=h.eq_nil; cases this
 | x::r,y::t,h,h1,h2=>by
  rw [List.pairwise_cons] at h1 h2
  have e:x=y:=by
   rcases List.mem_cons.mp (h.mem_iff.mp (List.mem_cons_self ..)) with e | hx
   ·exact e
   ·rcases List.mem_cons.mp (h.symm.mem_iff.mp (List.mem_cons_self ..)) with e | hy
    ·exact e.symm
    ·exact o.le_anti (h1.1 y hy) (h2.1 x hx)
  subst e
  rw [YBf o ((List.perm_cons x).mp h) h1.2 h2.2]
theorem YQK {l l':List (List (List Nat))} (h:l.Perm l'):sortSS l=sortSS l':=
 YBf oSS ((YBC l).trans (h.trans (YBC l').symm)) (YAm l) (YAm l')
theorem YAE {α:Type} (l:List α) (d:α):(List.range l.length).map (fun i=>l.getD i d)=l:=by
 refine List.ext_getElem? fun i=>?_
 rw [List.getElem?_map]
 by_cases h:i<l.length
 ·rw [List.getElem?_range h]; simp [h]
 ·rw [List.getElem?_eq_none (by simpa using h),List.getElem?_eq_none (by simpa using h)]; rfl
theorem YEV {ps:List (List (List Nat))} {p:Array Nat} (hp:Arr ps.length p) (hs:Asc oSS (fun i=>ps.getD i []) p ps.length):p.toList.map (fun i=>ps.getD i [])=sortSS ps:=by
 refine YBf oSS ?_ ?_ (YAm ps)
 ·have h1:=hp.perm.map (fun i=>ps.getD i [])
  rw [YAE] at h1
  exact h1.trans (YBC ps).symm
 ·rw [List.pairwise_map,List.pairwise_iff_getElem]
  intro i j hi hj hij
  have hz:=hp.size
  simp only [Array.length_toList] at hi hj
  have:=hs i j (by exact Nat.le_of_lt (by assumption)) (by exact Ze70 hj hz)
  have e1:p.getD i 0=p.toList[i]:=by simp [Array.getD,hi]
  have e2:p.getD j 0=p.toList[j]:=by simp [Array.getD,hj]
  unfold PK at this
  rw [e1,e2] at this
  exact this
section
variable {prog:Program} {w:World} {A:Around} {E:Value→Shared→Prop} {s:Shared} {rd:YE} {H₀:Heap} {μ:Own} {σ:List AO}
theorem YNY {μ:Own} {h:Heap} {v:AV} {x:Value} {l:List (List Nat)} (e:pairOf v=some l) (r:RV μ h v x):∃ a u1 u2 t1 t2,x=.ref a∧PS "tuple" h a [.str ⟨u1.toArray⟩ t1,.str ⟨u2.toArray⟩ t2]∧l=[u1,u2]∧v=.tup [.str u1,.str u2]:=by
 obtain ⟨u1,u2,rfl,rfl⟩:=Crt.ok (P:=fun l=>∃ u1 u2,l=[u1,u2]∧v=.tup [.str u1,.str u2]) e
 obtain ⟨a,xs,rfl,p,_,q⟩:=r.inv
 revert p
 exact q.two_ fun y z r1 r2=>r1.str_ fun t1=>r2.str_ fun t2 p=>⟨a,u1,u2,t1,t2,rfl,p,rfl,rfl⟩
theorem YKa {vs:List AV}:∀ {ps:List (List (List Nat))},Mine.pairsOf vs=some ps→vs.length=ps.length∧∀ (i:Nat) (v:AV),vs[i]?=some v→∃ p,ps[i]?=some p∧pairOf v=some p:=by
 induction vs with
 | nil=>intro ps e; cases e; exact ⟨rfl,fun _ _ e=>nomatch e⟩
 | cons v r ih=>exact fun e=>YI (f:=fun p=>(Mine.pairsOf r).map (p::·)) e fun p e1 e=>YBY e fun q e2=>⟨congrArg Nat.succ (ih e2).1,fun i u hu=>match i,hu with
  | 0,hu=>⟨p,rfl,Option.some.inj hu▸e1⟩
  | i+1,hu=>(ih e2).2 i u hu⟩
theorem YPU {a b:Addr} {u1 u2 v1 v2:List Nat} {t1 t2 t3 t4:Tok} {Q:Bool→Shared→Prop} (ha:PS "tuple" s.heap a [.str ⟨u1.toArray⟩ t1,.str ⟨u2.toArray⟩ t2]) (hb:PS "tuple" s.heap b [.str ⟨v1.toArray⟩ t3,.str ⟨v2.toArray⟩ t4])
  (h:Q (ltSS [u1,u2] [v1,v2]) s):wpAny (model prog w) A (keyLt' (tuples' true) (.ref a) (.ref b)) Q (fun _ _=>False) s:=by
 obtain ⟨n,ha⟩:=ha
 obtain ⟨k,hb⟩:=hb
 have dec:∀ x y:List Nat,(decide ((⟨x.toArray⟩:Str)=⟨y.toArray⟩))=decide (x=y):=fun x y=>by
  by_cases q:x=y
  ·subst q; simp
  ·rw [decide_eq_false q,decide_eq_false]
   intro z
   injection z with z
   exact q (by simpa using z)
 refine kat_lt ha rfl hb rfl ?_
 show KatLex prog w A true _ Q [(.str ⟨u1.toArray⟩ t1,.str ⟨v1.toArray⟩ t3),(.str ⟨u2.toArray⟩ t2,.str ⟨v2.toArray⟩ t4)] 0 s
 refine kat_cons (wpAny_eqBool_str ?_)
 rw [dec]
 by_cases e1:u1=v1
 ·subst e1
  rw [decide_eq_true rfl]
  refine kat_yes (kat_cons (wpAny_eqBool_str ?_))
  rw [dec]
  by_cases e2:u2=v2
  ·subst e2
   rw [decide_eq_true rfl]
   refine kat_yes (kat_nil ?_)
   have:ltSS [u1,u2] [u1,u2]=false:=YEe _
   rw [this] at h
   exact h
  ·rw [decide_eq_false e2]
   refine kat_no (kat_one _ _ (PyProof.Rows.lt_str ?_))
   have:ltSS [u1,u2] [u1,v2]=decide (u2<v2):=by simp [ltSS,e2,ltS]
   rw [this] at h
   exact h
 ·rw [decide_eq_false e1]
  refine kat_no (oneLt_str ?_)
  have:ltSS [u1,u2] [v1,v2]=decide (u1<v1):=by simp [ltSS,e1,ltS]
  rw [this] at h
  exact h
theorem YFv {ps:List (List (List Nat))} {avs:List AV} {l:Addr} {xs:List Value} {Q:Value→Shared→Prop} (hA:Calm A) (H:HS rd H₀ μ σ s.heap) (hp:PS "list" s.heap l xs) (r:RVs μ s.heap avs xs) (e:Mine.pairsOf avs=some ps) (h2:2≤avs.length) (h64:avs.length<64)
  (h:Kp rd H₀ μ σ s (.lst ((sortSS ps).map fun p=>.tup (p.map .str))) Q):wpAny (model prog w) A (call (.builtin "sorted") [.ref l]) Q E s:=by
 obtain ⟨elen,eget⟩:=YKa e
 have hlen:=r.len
 have at_:∀ i,i<xs.length→∃ a u1 u2 t1 t2,xs.getD i Value.none=.ref a∧PS "tuple" s.heap a [.str ⟨u1.toArray⟩ t1,.str ⟨u2.toArray⟩ t2]∧ps.getD i []=[u1,u2]∧avs[i]?=some (.tup [.str u1,.str u2]):=fun i hi=>by
  have hx:xs[i]?=some xs[i]:=List.getElem?_eq_getElem hi
  obtain ⟨v,hv,rv⟩:=r.get' hx
  obtain ⟨p,hp',e'⟩:=eget i v hv
  obtain ⟨a,u1,u2,t1,t2,e1,e2,rfl,rfl⟩:=YNY e' rv
  exact ⟨a,u1,u2,t1,t2,by rw [List.getD_eq_getElem?_getD,hx]; exact e1,e2,by rw [List.getD_eq_getElem?_getD,hp']; rfl,hv⟩
 refine YIR (vs:=xs) (G:=fun p=>Arr ps.length p∧Asc oSS (fun i=>ps.getD i []) p ps.length) hA.2 hp.isList (by exact Ze372 h2 hlen) (by exact Ze373 h64 hlen) (fun h' k A' hA'=>?_) fun p D c h' hG hpz k hD hg=>?_
 ·refine ⟨tuples' true,fun Q hQ=>?_,?_⟩
  ·have tups:∀ n,n≤xs.length→∃ fs,KatTups h' (xs.drop n) fs∧fs.length=xs.length-n∧∀ v∈fs,W.Looks (model prog w) h' (typeOf v) (.type "str"):=fun n=>by
    intro hn
    induction hm:xs.length-n generalizing n with
    | zero=>
     have:n=xs.length:=by exact Ze232 hm hn
     subst this
     exact ⟨[],by rw [List.drop_length]; exact KatTups.nil,rfl,fun v hv=>(nomatch hv)⟩
    | succ m ih=>
     have hlt:n<xs.length:=by exact Ze374 hm
     obtain ⟨fs,g1,g2,g3⟩:=ih (n+1) (by exact Ze375 hm) (by exact Ze376 hm)
     obtain ⟨a,u1,u2,t1,t2,e1,⟨q,e2⟩,_,_⟩:=at_ n hlt
     rw [List.drop_eq_getElem_cons hlt]
     have e3:xs[n]=.ref a:=by rw [←e1,List.getD_eq_getElem?_getD,List.getElem?_eq_getElem hlt]; rfl
     rw [e3]
     refine ⟨.str ⟨u1.toArray⟩ t1::fs,KatTups.cons (k _ _ e2) rfl rfl (by simp) g1,by simp [g2],fun v hv=>?_⟩
     rcases List.mem_cons.mp hv with rfl | hv
     ·exact .now
     ·exact g3 v hv
   obtain ⟨fs,g1,g2,g3⟩:=tups 0 (Nat.zero_le _)
   exact kat_kind (T:=.type "str") g1 (by exact Ze377 h2 hlen g2) g3 (by decide) hQ
  ·have hs:=YPa oSS (fun i=>ps.getD i []) ps.length (by exact Ze378 h2 elen)
   rw [show xs.length=ps.length by exact Ze379 hlen elen]
   refine YHb (fun i j hi hj C hC=>?_) _ hs
   obtain ⟨a,u1,u2,t1,t2,e1,⟨q,e2⟩,e3,_⟩:=at_ i (by exact Ze380 hi elen hlen)
   obtain ⟨b,v1,v2,t3,t4,f1,⟨q',f2⟩,f3,_⟩:=at_ j (by exact Ze380 hj elen hlen)
   unfold kas_ask
   rw [e1,f1]
   refine YPU (s:={ s with heap:=h' }) ⟨q,k _ _ e2⟩ ⟨q',k _ _ f2⟩ ?_
   have:cmpK oSS (fun i=>ps.getD i []) i j=ltSS [u1,u2] [v1,v2]:=by unfold cmpK; simp only [e3,f3]; rfl
   rw [←this]; exact hC
 ·obtain ⟨hA1,hA2⟩:=hG
  have ev:Ev [] μ s μ { s with heap:=h' }:=Ev.keeps k
  refine h _ _ ev (H.keep0 k) (.lst ⟨c,hg⟩ (H.fresh hD) ?_)
  rw [←YEV hA1 hA2,List.map_map]
  refine RVs.of_get (by simp) fun i v x g1 g2=>?_
  rw [List.getElem?_map] at g1 g2
  cases hpi:p.toList[i]? with
  | none=>rw [hpi] at g2; cases g2
  | some m=>
   rw [hpi] at g1 g2
   have hm:m<xs.length:=by
    have:=(hA1.perm.mem_iff).mp (List.mem_of_getElem? hpi)
    rw [List.mem_range] at this; exact Ze380 this elen hlen
   simp only [Option.map_some,Option.some.injEq,Function.comp] at g1 g2
   obtain ⟨a,u1,u2,t1,t2,e1,⟨q,e2⟩,e3,e4⟩:=at_ m hm
   subst g1 g2
   have hx:xs[m]?=some (.ref a):=by rw [←e1,List.getD_eq_getElem?_getD,List.getElem?_eq_getElem hm]; rfl
   obtain ⟨x,hx',rx⟩:=r.get e4
   rw [hx] at hx'; cases hx'
   simp only [e3,e1]
   exact ev.rv0 rx
end
end Mine
end
section
open PySem PySem.Spec PyProof.Rows
namespace Mine
section
variable {prog:Program} {w:World} {A:Around} {E:Value→Shared→Prop} {s:Shared} {rd:YE} {H₀:Heap} {μ:Own} {σ:List AO}
theorem YCh {μ:Own} {h:Heap} {vs:List AV}:∀ {xs:List Value} {ns:List Int},intsOf vs=some ns→RVs μ h vs xs→∃ ys:List (Int×Tok),xs=ys.map (fun p=>Value.int p.1 p.2)∧ys.map (·.1)=ns:=by
 induction vs with
 | nil=>intro xs ns e r; exact r.nil_ ⟨[],rfl,Option.some.inj e⟩
 | cons v vs ih=>
  intro xs ns e r
  cases v with
  | int i=>exact r.cons_ fun x ys a b=>a.int_ fun t=>YBY (show (intsOf vs).map (i::·)=some ns from e) fun ns h1=>(ih h1 b).elim fun zs p=>⟨(i,t)::zs,congrArg (Value.int i t::·) p.1,congrArg (i::·) p.2⟩
  | _=>cases e
theorem foldMin (r:List Int):∀ x,(r.foldl (fun m y=>if y<m then y else m) x∈x::r)∧∀ y∈x::r,r.foldl (fun m y=>if y<m then y else m) x≤y:=by
 induction r with
 | nil=>intro x; simp
 | cons z r ih=>
  intro x
  rw [List.foldl_cons]
  by_cases hz:z<x
  ·rw [if_pos hz]
   obtain ⟨h1,h2⟩:=ih z
   refine ⟨by rcases List.mem_cons.mp h1 with e | e <;> simp [e],fun y hy=>?_⟩
   have h3:=h2 z (List.mem_cons_self ..)
   simp only [List.mem_cons] at hy
   rcases hy with rfl | rfl | hy
   ·exact Zi8 hz h3
   ·exact h3
   ·exact h2 y (List.mem_cons_of_mem _ hy)
  ·rw [if_neg hz]
   obtain ⟨h1,h2⟩:=ih x
   refine ⟨by rcases List.mem_cons.mp h1 with e | e <;> simp [e],fun y hy=>?_⟩
   have h3:=h2 x (List.mem_cons_self ..)
   simp only [List.mem_cons] at hy
   rcases hy with rfl | rfl | hy
   ·exact h3
   ·exact Zi9 h3 hz
   ·exact h2 y (List.mem_cons_of_mem _ hy)
theorem foldMax (r:List Int):∀ x,(r.foldl (fun m y=>if y>m then y else m) x∈x::r)∧∀ y∈x::r,y≤r.foldl (fun m y=>if y>m then y else m) x:=by
 induction r with
 | nil=>intro x; simp
 | cons z r ih=>
  intro x
  rw [List.foldl_cons]
  by_cases hz:z>x
  ·rw [if_pos hz]
   obtain ⟨h1,h2⟩:=ih z
   refine ⟨by rcases List.mem_cons.mp h1 with e | e <;> simp [e],fun y hy=>?_⟩
   have h3:=h2 z (List.mem_cons_self ..)
   simp only [List.mem_cons] at hy
   rcases hy with rfl | rfl | hy
   ·exact Zi10 hz h3
   ·exact h3
   ·exact h2 y (List.mem_cons_of_mem _ hy)
  ·rw [if_neg hz]
   obtain ⟨h1,h2⟩:=ih x
   refine ⟨by rcases List.mem_cons.mp h1 with e | e <;> simp [e],fun y hy=>?_⟩
   have h3:=h2 x (List.mem_cons_self ..)
   simp only [List.mem_cons] at hy
   rcases hy with rfl | rfl | hy
   ·exact h3
   ·exact Zi11 h3 hz
   ·exact h2 y (List.mem_cons_of_mem _ hy)
theorem YNg {l:List Int} {k:Nat} (h:k<l.length):l.getD k 0∈l:=by
 rw [List.getD_eq_getElem?_getD,List.getElem?_eq_getElem h]; exact List.getElem_mem h
theorem YPn {l:List Int} {a:Int} (h:a∈l):∃ k,k<l.length∧l.getD k 0=a:=by
 obtain ⟨k,hk,rfl⟩:=List.getElem_of_mem h
 exact ⟨k,hk,by rw [List.getD_eq_getElem?_getD,List.getElem?_eq_getElem hk]; rfl⟩
theorem rsize {a b c:Int} (h0:c≠0):0≤Builtin.Range.rangeSize a b c∧Builtin.Range.rangeSize a b c≤(b-a).natAbs:=by
 unfold Builtin.Range.rangeSize
 split
 ·split
  ·have h1:=Int.ediv_le_self c (a:=b-a-1) (by exact Zi12 ‹_›)
   have h2:=Int.ediv_nonneg (a:=b-a-1) (b:=c) (by exact Zi12 ‹_›) (by exact Zi13 ‹_›)
   lia
  ·exact ⟨Zi15,Zi3⟩
 ·split
  ·have h1:=Int.ediv_le_self (-c) (a:=a-b-1) (by exact Zi12 ‹_›)
   have h2:=Int.ediv_nonneg (a:=a-b-1) (b := -c) (by exact Zi12 ‹_›) (by exact Zi16 ‹_›)
   lia
  ·exact ⟨Zi15,Zi3⟩
theorem YEK {a b c:Int} (ha:fits a=true) (hb:fits b=true) (hc:fits c=true) (h0:c≠0):Builtin.Range.small a b c=true:=by
 rw [YAl] at ha hb hc
 have:=rsize (a:=a) (b:=b) h0
 unfold Builtin.Range.small Builtin.Range.rangeFitsLong
 simp only [Bool.and_eq_true,decide_eq_true_eq,Bool.or_eq_true,beq_iff_eq]
 refine ⟨⟨⟨⟨?_,?_⟩,?_⟩,?_⟩,.inr ?_⟩
 ·exact ⟨Zi17 ha.1,Zi18 ha.2⟩
 ·exact ⟨Zi17 hb.1,Zi18 hb.2⟩
 ·exact ⟨Zi17 hc.1,Zi18 hc.2⟩
 ·lia
 ·split <;> simp only [Bool.and_eq_true,decide_eq_true_eq] <;> (first | exact ⟨Zi20 hb.1 hc.1,Zi21 hb.2 hc.2⟩ | exact ⟨Zi22 hb.1 hc.1,Zi23 hb.2 hc.2⟩)
theorem YLY {c:Int} (h:fits c=true):c.natAbs.log2<9000:=by
 rw [YAl] at h
 by_cases h0:c.natAbs=0
 ·rw [h0]; decide
 ·have:=(Nat.log2_lt h0 (k:=61)).mpr (by lia)
  exact Nat.lt_of_lt_of_le (by assumption) (by decide)
theorem RVs.one {μ:Own} {h:Heap} {v:AV} {xs:List Value} (r:RVs μ h [v] xs):∃ x,xs=[x]∧RV μ h v x:=r.one_ fun x a=>⟨x,rfl,a⟩
theorem RVs.two {μ:Own} {h:Heap} {v u:AV} {xs:List Value} (r:RVs μ h [v,u] xs):∃ x y,xs=[x,y]∧RV μ h v x∧RV μ h u y:=r.two_ fun x y a b=>⟨x,y,rfl,a,b⟩
noncomputable def biName:Bi→Str
 | .len => "len" | .range => "range" | .list => "list" | .min => "min" | .max => "max" | .sum => "sum" | .sorted => "sorted"
noncomputable def biVal:Bi→Value
 | .len=>.builtin "len" | .range=>.type "range" | .list=>.type "list" | .min=>.builtin "min" | .max=>.builtin "max" | .sum=>.builtin "sum" | .sorted=>.builtin "sorted"
noncomputable def SndL (f:Value) (σ:List AO) (as:List AV) (v:AV):Prop:=∀ {prog:Program} {w:World} {A:Around} {E:Value→Shared→Prop} {s:Shared} {rd:YE} {H₀:Heap} {μ:Own} {xs:List Value} {Q:Value→Shared→Prop},
 Calm A→HS rd H₀ μ σ s.heap→RVs μ s.heap as xs→Kp rd H₀ μ σ s v Q→wpAny (model prog w) A (call f xs) Q E s
theorem YEb {Q:Value→Shared→Prop} {a b c:Int} {t u v:Tok} {tk:Nat} (H:HS rd H₀ μ σ s.heap) (hs:Builtin.Range.small a b c=true)
  (h:Kp rd H₀ μ σ s (.rng a b c) Q):Q (.ref s.heap.objs.size) { s with heap:=s.heap.push { cls:=.type "range",data:=.fields #[.int a t,.int b u,.int c v] },toks:=tk }:=
 YQ H (fun _ _ e=>Heap.get?_push_of_some _ e) (.rng (Heap.get?_push_size _ rfl) (H.fresh (YN _)) hs) h
theorem YFr {a b c:Int} {x:Value} {Q:Value→Shared→Prop} (hA:Calm A) (ra:RV μ s.heap (.rng a b c) x) (hl:rlen a b c≤lim)
  (h:∀ h' tk n xs,(∀ b o,s.heap.get? b=some o→h'.get? b=some o)→h'.get? s.heap.objs.size=some { cls:=.type "list",data:=.seq (List.toArray xs) n }→
   (∀ μ' h'',RVs μ' h'' ((List.range (rlen a b c)).map fun (i:Nat)=>.int (a+c*i)) xs)→Q (.ref s.heap.objs.size) { s with heap:=h',toks:=tk }):wpAny (model prog w) A (call (.type "list") [x]) Q E s:=by
 refine ra.rng_ fun r t u v hr hn hs=>?_
 ·have h0:0≤Builtin.Range.rangeSize a b c:=by
   by_cases hc:c=0
   ·subst hc
    unfold Builtin.Range.rangeSize
    simp
    split <;> simp
   ·exact (rsize hc).1
  refine call_list_range hA.1 hr hs (n:=rlen a b c) (by unfold rlen; exact Zi24 h0) (by unfold lim at hl; exact Nat.le_trans (by assumption) (by decide)) fun h' tk acc c' hk hg hi=>?_
  refine h h' tk c' acc.toList hk (by simpa using hg) fun μ' h''=>?_
  refine RVs.of_get (by simpa using hi.1.symm) fun i v x h1 h2=>?_
  simp only [List.getElem?_map,Option.map_eq_some_iff] at h1
  obtain ⟨j,hj,rfl⟩:=h1
  rw [List.getElem?_range (by
   have:=(List.getElem?_eq_some_iff.mp hj).1
   simpa using this)] at hj
  cases hj
  obtain ⟨t,rfl⟩:=hi.2 i x (by simpa using h2)
  rw [Int.mul_comm]
  exact .int _ _
theorem YCJ (ys:List (Int×Tok)):(ys.map fun p=>Value.int p.1 p.2).toArray=intItems ys.toArray:=by simp [intItems]
theorem YKc {ys:List (Int×Tok)} {M:Int} {r:Int→Int→Bool} (hpos:0<ys.toArray.size) (hM:M∈ys.map (·.1)) (hle:∀ y∈ys.map (·.1),r y M=false) (tot:∀ a b,r a b=false→r b a=false→a=b)
  {j:Nat} (k1:j≤ys.toArray.size-1) (k2:∀ k,k≤ys.toArray.size-1→r (numAt ys.toArray k) (numAt ys.toArray j)=false):numAt ys.toArray j=M:=by
 have hlen:(ys.map (·.1)).length=ys.toArray.size:=by rw [List.length_map,List.size_toArray]
 obtain ⟨k,hk,e3⟩:=YPn hM
 have g2:=k2 k (Nat.le_sub_one_of_lt (hlen▸hk))
 rw [numAt_eq _ k,e3] at g2
 exact tot _ _ (hle _ (by rw [numAt_eq]; exact YNg (by rw [hlen]; exact Nat.lt_of_le_of_lt k1 (Nat.sub_lt hpos Nat.one_pos)))) g2
theorem YMm {ys:List (Int×Tok)} {f:List Int→Option Int} (h0:f []=none) {M:Int} (h:f (ys.map (·.1))=some M):0<ys.toArray.size:=by
 cases ys with
 | nil=>rw [List.map_nil,h0] at h; cases h
 | cons _ _=>exact Nat.succ_pos _
theorem YGg {l:List Nat} (hl:l.length≤lim):SndL (biVal .len) σ [.str l] (.int l.length):=fun _ H ra h=>ra.one_ fun _ r=>r.str_ fun _=>by
 refine PyProof.Rows.len_str (by rw [YAD]; unfold lim at hl; exact Zi7 hl) ?_
 rw [YAD]
 exact YH H (.int _ _) h
theorem YOX {v:AV} {vs:List AV} (h1:items σ v=some vs) (hl:vs.length≤lim):SndL (biVal .len) σ [v] (.int vs.length):=fun _ H ra h=>ra.one_ fun _ r=>by
 obtain ⟨a',ys,rfl,p,q⟩:=YJ H h1 r
 refine PyProof.Rows.len_list p.isList (size63 q hl) ?_
 rw [List.size_toArray,←q.len]
 exact YH H (.int _ _) h
theorem YOE {a b c:Int} (hl:fits a=true∧fits b=true∧fits c=true∧c≠0):SndL (biVal .range) σ [.int a,.int b,.int c] (.rng a b c):=fun _ H ra h=>ra.three_ fun _ _ _ r1 r2 r3=>r1.int_ fun _=>r2.int_ fun _=>r3.int_ fun _=>
 call_range_3 hl.2.2.2 (YEb H (YEK hl.1 hl.2.1 hl.2.2.1 hl.2.2.2) h) (.inl (PyProof.noPylong_of_log2 (YLY hl.2.2.1)))
theorem YLT {a b:Int}:SndL (biVal .min) σ [.int a,.int b] (.int (if b<a then b else a)):=fun hA H ra h=>ra.two_ fun _ _ r1 r2=>r1.int_ fun _=>r2.int_ fun _=>by
 refine min_two_ints hA.1 fun h' tk hk=>?_
 split
 ·exact YQ H hk (by rename_i z; rw [if_pos z]; exact .int _ _) h
 ·exact YQ H hk (by rename_i z; rw [if_neg z]; exact .int _ _) h
theorem YMT {a b:Int}:SndL (biVal .max) σ [.int a,.int b] (.int (if b>a then b else a)):=fun hA H ra h=>ra.two_ fun _ _ r1 r2=>r1.int_ fun _=>r2.int_ fun _=>by
 refine max_two_ints hA.1 fun h' tk hk=>?_
 split
 ·exact YQ H hk (by rename_i z; rw [if_pos z]; exact .int _ _) h
 ·exact YQ H hk (by rename_i z; rw [if_neg z]; exact .int _ _) h
theorem YOr {v:AV} {vs:List AV} {ns:List Int} {M:Int} (h1:items σ v=some vs) (h2:intsOf vs=some ns) (h3:minL ns=some M):SndL (biVal .min) σ [v] (.int M):=fun hA H ra h=>ra.one_ fun _ r1=>by
 obtain ⟨a',zs,rfl,p,q⟩:=YJ H h1 r1
 obtain ⟨ys,rfl,rfl⟩:=YCh h2 q
 have hp:=p.isList
 rw [YCJ] at hp
 have hpos:=YMm (f:=minL) rfl h3
 refine min_intList hA.1 hp hpos fun v h' tk hv hk=>?_
 obtain ⟨t,rfl⟩:=intItems_at hv
 obtain ⟨k1,k2⟩:=argBest_lt (numAt ys.toArray) (ys.toArray.size-1)
 have hM:M∈ys.map (·.1)∧∀ y∈ys.map (·.1),M≤y:=by
  cases hm:ys.map (·.1) with
  | nil=>rw [hm] at h3; cases h3
  | cons y r=>rw [hm] at h3; cases h3; exact foldMin r y
 rw [YKc (r:=fun a b=>decide (a<b)) hpos hM.1 (fun y hy=>decide_eq_false (Int.not_lt.mpr (hM.2 y hy))) (fun a b h1 h2=>Int.le_antisymm (Int.not_lt.mp (of_decide_eq_false h2)) (Int.not_lt.mp (of_decide_eq_false h1))) k1 fun k hk=>decide_eq_false (Int.not_lt.mpr (k2 k hk))]
 exact YQ H hk (.int _ _) h
theorem YPh {v:AV} {vs:List AV} {ns:List Int} {M:Int} (h1:items σ v=some vs) (h2:intsOf vs=some ns) (h3:maxL ns=some M):SndL (biVal .max) σ [v] (.int M):=fun hA H ra h=>ra.one_ fun _ r1=>by
 obtain ⟨a',zs,rfl,p,q⟩:=YJ H h1 r1
 obtain ⟨ys,rfl,rfl⟩:=YCh h2 q
 have hp:=p.isList
 rw [YCJ] at hp
 have hpos:=YMm (f:=maxL) rfl h3
 refine max_intList hA.1 hp hpos fun v h' tk hv hk=>?_
 obtain ⟨t,rfl⟩:=intItems_at hv
 obtain ⟨k1,k2⟩:=argBest_gt (numAt ys.toArray) (ys.toArray.size-1)
 have hM:M∈ys.map (·.1)∧∀ y∈ys.map (·.1),y≤M:=by
  cases hm:ys.map (·.1) with
  | nil=>rw [hm] at h3; cases h3
  | cons y r=>rw [hm] at h3; cases h3; exact foldMax r y
 rw [YKc (r:=fun a b=>decide (a>b)) hpos hM.1 (fun y hy=>decide_eq_false (Int.not_lt.mpr (hM.2 y hy))) (fun a b h1 h2=>Int.le_antisymm (Int.not_lt.mp (of_decide_eq_false h1)) (Int.not_lt.mp (of_decide_eq_false h2))) k1 fun k hk=>decide_eq_false (Int.not_lt.mpr (k2 k hk))]
 exact YQ H hk (.int _ _) h
theorem YNe {v:AV} {vs:List AV} {ns:List Int} (h1:items σ v=some vs) (h2:intsOf vs=some ns):SndL (biVal .sum) σ [v] (.int ns.sum):=fun hA H ra h=>ra.one_ fun _ r1=>by
 obtain ⟨a',zs,rfl,p,q⟩:=YJ H h1 r1
 obtain ⟨ys,rfl,rfl⟩:=YCh h2 q
 have hp:=p.isList
 rw [YCJ] at hp
 refine sum_intListG hA.1 hp fun h' tk t' hk=>?_
 have e2:preSum (numAt ys.toArray) ys.toArray.size=(ys.map (·.1)).sum:=by
  rw [preSum_eq]
  exact congrArg List.sum (List.take_of_length_le (Nat.le_of_eq (List.length_map ..)))
 rw [e2]
 exact YQ H hk (.int _ _) h
theorem YHm {v:AV} {vs:List AV} {ps:List (List (List Nat))} (h1:items σ v=some vs) (h2:pairsOf vs=some ps) (hl:2≤vs.length∧vs.length<64):SndL (biVal .sorted) σ [v] (.lst ((sortSS ps).map fun p=>.tup (p.map .str))):=fun hA H ra h=>ra.one_ fun _ r1=>by
 obtain ⟨a',zs,rfl,p,q⟩:=YJ H h1 r1
 exact YFv hA H p q h2 hl.1 hl.2 h
noncomputable def biC (σ:List AO) (b:Bi) (as:List AV):Crt (SndL (biVal b) σ as):=match b,as with
 | .len,[.str s]=>gdC (s.length≤lim) fun hl=>some ⟨_,YGg hl⟩
 | .len,[v]=>optC (items σ v) fun vs h1=>gdC (vs.length≤lim) fun hl=>some ⟨_,YOX h1 hl⟩
 | .range,[.int b]=>gdC (fits b=true) fun hl=>some ⟨.rng 0 b 1,fun _ H ra h=>ra.one_ fun _ r=>r.int_ fun _=>call_range_1 (YEb H (YEK (by decide) hl (by decide) (by decide)) h)⟩
 | .range,[.int a,.int b]=>gdC (fits a=true∧fits b=true) fun hl=>some ⟨.rng a b 1,fun _ H ra h=>ra.two_ fun _ _ r1 r2=>r1.int_ fun _=>r2.int_ fun _=>call_range_2 (YEb H (YEK hl.1 hl.2 (by decide) (by decide)) h)⟩
 | .range,[.int a,.int b,.int c]=>gdC (fits a=true∧fits b=true∧fits c=true∧c≠0) fun hl=>some ⟨_,YOE hl⟩
 | .min,[.int a,.int b]=>some ⟨_,YLT⟩
 | .max,[.int a,.int b]=>some ⟨_,YMT⟩
 | .min,[v]=>optC (items σ v) fun vs h1=>optC (intsOf vs) fun ns h2=>optC (minL ns) fun m h3=>some ⟨.int m,YOr h1 h2 h3⟩
 | .max,[v]=>optC (items σ v) fun vs h1=>optC (intsOf vs) fun ns h2=>optC (maxL ns) fun m h3=>some ⟨.int m,YPh h1 h2 h3⟩
 | .sum,[v]=>optC (items σ v) fun vs h1=>optC (intsOf vs) fun ns h2=>some ⟨.int ns.sum,YNe h1 h2⟩
 | .sorted,[v]=>optC (items σ v) fun vs h1=>optC (pairsOf vs) fun ps h2=>gdC (2≤vs.length∧vs.length<64) fun hl=>some ⟨_,YHm h1 h2 hl⟩
 | _,_=>none
noncomputable def mrC:(as:List AV)→Crt fun vs:List AV=>∃ a b c,as=[.rng a b c]∧rlen a b c≤lim∧vs=(List.range (rlen a b c)).map fun (i:Nat)=>.int (a+c*i)
 | [.rng a b c]=>gdC (rlen a b c≤lim) fun h=>some ⟨_,a,b,c,rfl,h,rfl⟩
 | _=>none
noncomputable def mrA (as:List AV):Option (List AV):=(mrC as).val
theorem YTt {as vs:List AV} (e:mrA as=some vs):∃ a b c,as=[.rng a b c]∧rlen a b c≤lim∧vs=(List.range (rlen a b c)).map fun (i:Nat)=>.int (a+c*i):=Crt.ok (P:=fun vs:List AV=>∃ a b c,as=[.rng a b c]∧rlen a b c≤lim∧vs=(List.range (rlen a b c)).map fun (i:Nat)=>.int (a+c*i)) e
noncomputable def biA (σ:List AO) (b:Bi) (as:List AV):Option AV:=(biC σ b as).val
theorem YSJ {b:Bi} {as:List AV} {v:AV} (e:biA σ b as=some v):SndL (biVal b) σ as v:=Crt.ok e
end
theorem YBW (a b:Int) (h0:0≤a):sliceRange a b 1=(List.range (b-a).toNat).map fun k=>a.toNat+k:=by
 unfold sliceRange
 simp only [show ((1:Int)>0)=True by simp,if_true]
 have e:(if a<b then (b-a+1-1)/1 else 0).toNat=(b-a).toNat:=by
  split
  ·rw [Int.ediv_one]; exact Zi25
  ·exact Zi26 ‹_›
 rw [e]
 refine List.map_congr_left fun k _=>?_
 exact Zi27 h0
theorem YDK {α:Type} (xs:List α) (a n:Nat) (h:a+n≤xs.length):((List.range n).map fun k=>a+k).filterMap (xs[·]?)=(xs.drop a).take n:=by
 rw [List.filterMap_map]
 induction n with
 | zero=>simp
 | succ n ih=>
  rw [List.range_succ,List.filterMap_append,ih (by exact Ze4 h)]
  have hl:a+n<xs.length:=by exact Ze5 h
  have e1:List.filterMap ((fun x=>xs[x]?)∘fun k=>a+k) [n]=[xs[a+n]]:=by simp [List.getElem?_eq_getElem hl]
  rw [e1,List.take_add_one,List.getElem?_drop,List.getElem?_eq_getElem hl]
  rfl
theorem YDb (lo hi:Option Int) (n:Nat):(sliceBounds lo hi none n).2.2=1∧0≤(sliceBounds lo hi none n).1∧(sliceBounds lo hi none n).1≤n∧0≤(sliceBounds lo hi none n).2.1∧(sliceBounds lo hi none n).2.1≤n:=by
 refine ⟨rfl,?_,?_,?_,?_⟩ <;> (unfold sliceBounds; cases lo <;> cases hi <;> simp <;> (try split) <;> lia)
theorem YCM {α:Type} (xs:List α) (lo hi:Option Int):
  slA xs lo hi none=(xs.drop (sliceBounds lo hi none xs.length).1.toNat).take ((sliceBounds lo hi none xs.length).2.1-(sliceBounds lo hi none xs.length).1).toNat:=by
 obtain ⟨h1,h2,h3,h4,h5⟩:=YDb lo hi xs.length
 unfold slA
 rw [h1,YBW _ _ h2]
 by_cases hc:(sliceBounds lo hi none xs.length).1≤(sliceBounds lo hi none xs.length).2.1
 ·exact YDK xs _ _ (by exact Zi32 h2 h5 h3)
 ·rw [show ((sliceBounds lo hi none xs.length).2.1-(sliceBounds lo hi none xs.length).1).toNat=0 by exact Zi33 hc]
  simp
section
variable {prog:Program} {w:World} {A:Around} {E:Value→Shared→Prop} {s:Shared} {rd:YE} {H₀:Heap} {μ:Own} {σ:List AO}
theorem YBt {n:Nat} {a:Addr} {l:List Addr} {k:Nat} {xs ys:List Value} {vs:List AV} (H:HS rd H₀ μ σ s.heap) {vs0:List AV} (hσ:σ[n]?=some (.list vs0)) (hμ:μ.os[n]?=some (a::l)) (hp:s.heap.get? a=some (seqObj "list" xs.toArray k))
  (f:Array Value→Array Value) (hf:f xs.toArray=ys.toArray) (r:RVs μ s.heap vs ys) (tk:Nat):
  Ev [] μ s μ { s with heap:=s.heap.update a (Obj.mapSeq f),toks:=tk }∧HS rd H₀ μ (σ.set n (.list vs)) (s.heap.update a (Obj.mapSeq f)):=by
 obtain ⟨l',e1,a',xs',rfl,_,_⟩:=H.own_some hσ
 rw [hμ] at e1
 cases e1
 have hs:=Heap.SameBut.update s.heap a (Obj.mapSeq f)
 have hg:=IsL.update hp f
 rw [hf] at hg
 have hk:∀ b o,s.heap.get? b=some o→b∉[a]→(s.heap.update a (Obj.mapSeq f)).get? b=some o:=YFl hs (at_ 0 rfl)
 have ha:=YBL hs hg
 have ev:Ev [] μ s μ { s with heap:=s.heap.update a (Obj.mapSeq f),toks:=tk }:=Ev.set hμ hk ha
 exact ⟨ev,H.set hμ hk ha ⟨a,ys,rfl,⟨_,hg⟩,ev.rvs0 r⟩⟩
theorem YBo (H:HS rd H₀ μ σ s.heap) {n:Nat} {x:Value} {vs:List AV} (hσ:σ[n]?=some (.list vs)) (r:RV μ s.heap (.loc n) x):∃ a k xs,x=.ref a∧μ.os[n]?=some [a]∧s.heap.get? a=some (seqObj "list" (List.toArray xs) k)∧RVs μ s.heap vs xs:=by
 obtain ⟨a,l,rfl,hn⟩:=r.inv
 obtain ⟨l',e1,a',xs,h0,⟨k,p⟩,q⟩:=H.own_some hσ
 rw [hn,h0] at e1
 cases e1
 exact ⟨a,k,xs,rfl,hn,p,q⟩
theorem YHv {l:Addr} {items:Array Value} {n:Nat} {k:Int} {t:Tok} {v:Value} {Q:Unit→Shared→Prop} (hl:IsL s.heap l items n)
  (h0:0≤k) (hfit:k<2 ^ 62) (hn:k<items.size)
  (hQ:Q () { s with heap:=s.heap.update l (Obj.mapSeq (·.setIfInBounds k.toNat v)) }):
  wpAny (model prog w) A (setItem (.ref l) (.int k t) v) Q E s:=by
 have hT:=hl.isList.typeIs
 have hf:Builtin.List.listFitsIndex k=true:=fitsIndex_of h0 (by exact Zi34 hfit)
 clear hfit
 unfold setItem
 refine wpAny_holding ?_
 refine wpAny_bind (wpAny_sequenceKey hT (by decide) ?_)
 refine wpAny_bind (wpAny_callSpecial?_slot (name:=Str.ofString "__setitem__") hT slot_list_setitem (wpAny_call_entry slot_list_setitem hT entry_list_setitem ?_ (args_list_setitem _ _ _)))
 show wpAny _ _ (Builtin.List.listSubscript? (.int k t) >>= _) _ _ s
 refine wpAny_bind (wpAny_listSubscript_int hf ?_)
 clear hf
 obtain ⟨j,rfl⟩:=Int.eq_ofNat_of_zero_le h0
 have hj:j<items.size:=by exact Zi35 hn
 show wpAny _ _ ((seqItemAt l j >>= fun r=>pure (r.map (j,·))) >>= _) _ _ s
 refine wpAny_bind (wpAny_bind (wpAny_seqItemAt hl rfl (wpAny_pure ?_)))
 rw [Array.getElem?_eq_getElem hj]
 show wpAny _ _ (setSeqItemAt l j v >>= _) _ _ s
 refine wpAny_bind (wpAny_setSeqItemAt hl rfl ?_)
 first
  | exact wpAny_bind (wpAny_pure (wpAny_pure ⟨.none,rfl,wpAny_pure hQ⟩))
  | exact wpAny_pure ⟨.none,rfl,wpAny_pure hQ⟩
noncomputable def SndS (σ:List AO) (o i v:AV) (σ':List AO):Prop:=∀ {prog:Program} {w:World} {A:Around} {E:Value→Shared→Prop} {s:Shared} {rd:YE} {H₀:Heap} {μ:Own} {x y z:Value} {Q:Unit→Shared→Prop},
 HS rd H₀ μ σ s.heap→RV μ s.heap o x→RV μ s.heap i y→RV μ s.heap v z→(∀ s',Ev [] μ s μ s'→HS rd H₀ μ σ' s'.heap→Q () s')→wpAny (model prog w) A (setItem x y z) Q E s
theorem YMb {n:Nat} {k:Int} {v:AV} {vs:List AV} (hσ:σ[n]?=some (.list vs)) (hb:0≤k∧k<vs.length∧vs.length≤lim):SndS σ (.loc n) (.int k) v (σ.set n (.list (vs.set k.toNat v))):=fun {prog w A E s rd H₀ μ x y z Q} H ro ri rv h=>ri.int_ fun _=>by
 obtain ⟨a,m,xs,rfl,hμ,hp,q⟩:=YBo H hσ ro
 refine YHv hp hb.1 (by unfold lim at hb; exact Zi36 hb.2.1 hb.2.2) (by rw [List.size_toArray,←q.len]; exact hb.2.1) ?_
 obtain ⟨ev,H'⟩:=YBt (vs:=vs.set k.toNat v) (ys:=xs.set k.toNat z) H hσ hμ hp (·.setIfInBounds k.toNat z) (by simp) (q.set rv _) s.toks
 exact h _ ev H'
noncomputable def atL:(o:Option AO)→Option {vs // o=some (AO.list vs)}
 | some (.list vs)=>some ⟨vs,rfl⟩
 | _=>none
theorem YRA {o:Option AO} {vs:List AV} (h:o=some (.list vs)):atL o=some ⟨vs,h⟩:=by subst h; rfl
@[irreducible] noncomputable def locC {β:Type} {P:β→Prop} (σ:List AO) (n:Nat) (k:∀ vs,σ[n]?=some (.list vs)→Crt P):Crt P:=optC (atL σ[n]?) fun vs _=>k vs.1 vs.2
theorem YDE {β:Type} {P:β→Prop} {σ:List AO} {n:Nat} {vs:List AV} (h:σ[n]?=some (.list vs)) {k:∀ vs,σ[n]?=some (.list vs)→Crt P} {r:Option β} (e:(k vs h).val=r):(locC σ n k).val=r:=by
 unfold locC; exact YG (YRA h) e
noncomputable def ssetC (σ:List AO) (o i v:AV):Crt (SndS σ o i v):=match o,i with
 | .loc n,.int k=>locC σ n fun vs h=>gdC (0≤k∧k<vs.length∧vs.length≤lim) fun hb=>some ⟨_,YMb h hb⟩
 | _,_=>none
noncomputable def ssetA (σ:List AO) (o i v:AV):Option (List AO):=(ssetC σ o i v).val
theorem YPz {o i v:AV} {σ':List AO} (e:ssetA σ o i v=some σ'):SndS σ o i v σ':=Crt.ok e
theorem YBh {k:Int} {n:Nat} (h0:0≤k) (h:k.toNat<n):seqIndex? k n=some k.toNat:=by
 unfold seqIndex?
 have h1:¬k<0:=by exact Zi37 h0
 simp only [h1,if_false]
 rw [if_pos (by simp only [Bool.and_eq_true,decide_eq_true_eq]; exact ⟨Zi38 h0,Zi39 h⟩)]
theorem YIj {vs:List AV} {xs:List Value} {v:AV} {k:Int} (q:RVs μ s.heap vs xs) (e:vs[k.toNat]?=some v):∃ x,xs.toArray[k.toNat]?=some x∧RV μ s.heap v x:=by
 obtain ⟨x,h1,h2⟩:=q.get e
 exact ⟨x,by simpa using h1,h2⟩
theorem YLi {vs:List AV} {k:Int} {v:AV} (hb:0≤k∧k<2 ^ 60) (e:vs[k.toNat]?=some v):Snd2 getItem σ (.tup vs) (.int k) v:=fun _ H ro ri h=>ro.tup_ fun a xs n p _ q=>ri.int_ fun _=>by
 obtain ⟨x,h1,h2⟩:=YIj q e
 exact PyProof.Rows.getItem_tuple ⟨_,p,rfl,n,rfl⟩ (by exact Zi19 hb.1) (by exact Zi40 hb.2) (j:=_) (YBh hb.1 (Array.getElem?_eq_some_iff.mp h1).1) h1 (YW H h2 h)
theorem YLM {s:List Nat} {k:Int} {j c:Nat} (hf:fits k=true) (h1:seqIndex? k s.length=some j) (h2:s[j]?=some c):Snd2 getItem σ (.str s) (.int k) (.str [c]):=fun _ H ro ri h=>ro.str_ fun _=>ri.int_ fun _=>by
 rw [YAl] at hf
 refine PyProof.Rows.getItem_str (c:=c) ?_ (by rw [YAD,h1]; exact (List.getElem?_toArray ..).trans h2) (YH H (.str [c] _) h)
 simp only [Bool.or_eq_false_iff,decide_eq_false_iff_not]; exact ⟨Zi41 hf.1,Zi42 hf.2⟩
theorem YKv {o:AV} {vs:List AV} {k:Int} {v:AV} (h1:items σ o=some vs) (hb:0≤k∧k<2 ^ 60) (e:vs[k.toNat]?=some v):Snd2 getItem σ o (.int k) v:=fun _ H ro ri h=>ri.int_ fun _=>by
 obtain ⟨a,xs,rfl,p,q⟩:=YJ H h1 ro
 obtain ⟨x,h3,h4⟩:=YIj q e
 exact wpAny_getItem_list p.isList hb.1 (by exact Zi40 hb.2) h3 (YW H h4 h)
noncomputable def SubOn (σ:List AO) (o:AV):Prop:=∀ {prog:Program} {w:World} {A:Around} {E:Value→Shared→Prop} {s:Shared} {rd:YE} {H₀:Heap} {μ:Own} {x y:Value} {Q:Value→Shared→Prop},HS rd H₀ μ σ s.heap→RV μ s.heap o x→
 wpAny (model prog w) A (getItem x y) Q E s→SubscriptOn (model prog w) A x y Q E s
theorem onT {vs:List AV}:SubOn σ (.tup vs):=fun _ ro g=>by
 obtain ⟨a,xs,rfl,⟨n,p⟩,_,q⟩:=ro.inv
 exact ⟨"tuple",_,F.slot_tuple_getitem.lookup,⟨_,p,rfl⟩,g⟩
theorem onS {l:List Nat}:SubOn σ (.str l):=fun _ ro g=>by
 obtain ⟨t,rfl⟩:=ro.inv
 exact ⟨"str",_,F.slot_str_getitem.lookup,typeIs_str _ _ _,g⟩
theorem onL {o:AV} {vs:List AV} (h1:items σ o=some vs):SubOn σ o:=fun H ro g=>by
 obtain ⟨a,xs,rfl,p,q⟩:=YJ H h1 ro
 exact ⟨"list",_,list_getitem_lookup,p.isList.typeIs,g⟩
noncomputable def sbC (σ:List AO) (o i:AV):Crt fun v=>SubOn σ o∧Snd2 getItem σ o i v:=match o,i with
 | .tup vs,.int k=>gdC (0≤k∧k<2 ^ 60) fun hb=>optC vs[k.toNat]? fun v h=>some ⟨v,onT,YLi hb h⟩
 | .str s,.int k=>gdC (fits k=true) fun hf=>optC (seqIndex? k s.length) fun j h1=>optC s[j]? fun c h2=>some ⟨.str [c],onS,YLM hf h1 h2⟩
 | o,.int k=>optC (items σ o) fun vs h1=>gdC (0≤k∧k<2 ^ 60) fun hb=>optC vs[k.toNat]? fun v h=>some ⟨v,onL h1,YKv h1 hb h⟩
 | _,_=>none
noncomputable def subA (σ:List AO) (o i:AV):Option AV:=(sbC σ o i).val
theorem YRe {o i v:AV} (e:subA σ o i=some v) {prog:Program} {w:World} {A:Around} {E:Value→Shared→Prop} {s:Shared} {rd:YE} {H₀:Heap} {μ:Own} {x y:Value} {Q:Value→Shared→Prop} (hA:Calm A) (H:HS rd H₀ μ σ s.heap) (ro:RV μ s.heap o x) (ri:RV μ s.heap i y) (h:Kp rd H₀ μ σ s v Q):
  SubscriptOn (model prog w) A x y Q E s:=
 have c:=Crt.ok (P:=fun v=>SubOn σ o∧Snd2 getItem σ o i v) e
 c.1 H ro (c.2 hA H ro ri h)
end
section
variable {prog:Program} {w:World} {A:Around} {E:Value→Shared→Prop} {s:Shared} {rd:YE} {H₀:Heap} {μ:Own} {σ:List AO} {env:Env}
theorem YEl (slice:PySem.Expr) (o i:Value):subscripted slice false o i=operate [i,o] (getItem o i)∨subscripted slice false o i=operate [o,i] (getItem o i):=by
 cases slice with
 | Slice a b st p=>cases st with
  | none=>exact .inl rfl
  | some _=>exact .inr rfl
 | _=>exact .inr rfl
theorem YCW {value slice:Expr} {pos:Pos} {Q:Value→Shared→Prop}
  (h:wpAny (model prog w) A (eval value env) (fun o s₁=>wpAny (model prog w) A (eval slice env) (fun i s₂=>SubscriptOn (model prog w) A o i Q E s₂) E s₁) E s):
  wpAny (model prog w) A (eval (.Subscript value slice pos) env) Q E s:=by
 rw [eval_Subscript]
 refine wpAny_bind (wpAny_mono h (fun o s₁ h₁=>wpAny_bind (wpAny_holding (wpAny_mono h₁ (fun i s₂ h₂=>wpAny_bind (wpAny_standAt ?_)) fun _ _ x=>x))) fun _ _ x=>x)
 obtain ⟨T,id,hl,hT,hg⟩:=h₂
 refine wpAny_bind ?_
 rw [getitemInPython_of_ne hT.not_modules]
 refine wpAny_bind (wpAny_specialOf hT hl ?_)
 have fin:∀ vs,wpAny (model prog w) A (operate vs (getItem o i)) (fun r s₃=>wpAny (model prog w) A (letTemporaryGo value o r >>= fun _=>pure r) Q E s₃) E s₂:=
  fun vs=>wpAny_operating (wpAny_mono hg (fun r s₃ h₃=>wpAny_bind (wpAny_letTemporaryGo (wpAny_pure h₃))) fun _ _ x=>x)
 refine wpAny_pure (wpAny_bind ?_)
 rcases YEl slice o i with q | q
 ·exact (show subscripted slice _ o i=_ from q)▸fin _
 ·exact (show subscripted slice _ o i=_ from q)▸fin _
noncomputable def optC':(v:AV)→Crt fun l:Option Int=>∀ {μ:Own} {h:Heap} {x:Value},RV μ h v x→∃ p:Option (Int×Tok),x=partValue p∧p.map (·.1)=l∧IsPart x l
 | .none=>some ⟨none,fun r=>r.none_ ⟨none,rfl,rfl,.none⟩⟩
 | .int i=>gdC (fits i=true) fun _=>some ⟨some i,fun r=>r.int_ fun t=>⟨some (i,t),rfl,rfl,.int _ _⟩⟩
 | _=>none
noncomputable def optI (v:AV):Option (Option Int):=(optC' v).val
theorem YAh {v:AV} {x:Value} {l:Option Int} (e:optI v=some l) (r:RV μ s.heap v x):∃ p:Option (Int×Tok),x=partValue p∧p.map (·.1)=l∧IsPart x l:=Crt.ok (P:=fun l=>∀ {μ:Own} {h:Heap} {x:Value},RV μ h v x→∃ p:Option (Int×Tok),x=partValue p∧p.map (·.1)=l∧IsPart x l) e r
theorem YDU (xs:List Value) (lo hi st:Option Int):slicePick xs.toArray lo hi st=(slA xs lo hi st).toArray:=by
 unfold slicePick slA
 simp only [List.size_toArray]
 congr 2
 funext i
 simp
theorem RVs.sl {vs:List AV} {xs:List Value} (q:RVs μ s.heap vs xs) (lo hi st:Option Int):RVs μ s.heap (slA vs lo hi st) (slA xs lo hi st):=by
 unfold slA
 rw [q.len]
 generalize sliceRange _ _ _=l
 induction l with
 | nil=>exact .nil
 | cons i l ih=>
  simp only [List.filterMap_cons]
  cases hv:vs[i]? with
  | none=>
   have:xs[i]?=none:=by
    rw [List.getElem?_eq_none_iff] at hv ⊢
    rw [←q.len]; exact hv
   rw [this]; exact ih
  | some v=>
   obtain ⟨x,h1,h2⟩:=q.get hv
   rw [h1]; exact .cons h2 ih
theorem strSl (x:List Nat) (l u:Option Int):Builtin.Str.strSliceIndices l u 1 x.length=sliceRange (sliceBounds l u none x.length).1 (sliceBounds l u none x.length).2.1 (sliceBounds l u none x.length).2.2:=by
 rfl
theorem YGC (x:List Nat) (l u:Option Int) (h:(Builtin.Str.strSliceIndices l u 1 x.length).length=x.length):slA x l u none=x:=by
 rw [YCM]
 obtain ⟨h1,h2,h3,h4,h5⟩:=YDb l u x.length
 rw [strSl,h1,YBW _ _ h2] at h
 simp only [List.length_map,List.length_range] at h
 by_cases hx:x.length=0
 ·have:x=[]:=List.length_eq_zero_iff.mp hx
  subst this; simp
 ·rw [h,show (sliceBounds l u none x.length).1.toNat=0 by exact Zi43 h h5 h3]
  simp
noncomputable def SndSl (σ:List AO) (o lo hi st v:AV):Prop:=∀ {prog:Program} {w:World} {A:Around} {E:Value→Shared→Prop} {s:Shared} {rd:YE} {H₀:Heap} {μ:Own} {x vl vu vs:Value} {Q:Value→Shared→Prop},
 HS rd H₀ μ σ s.heap→RV μ s.heap o x→RV μ s.heap lo vl→RV μ s.heap hi vu→RV μ s.heap st vs→Kp rd H₀ μ σ s v Q→
  SubscriptOn (model prog w) A x (.ref s.heap.objs.size) Q E { s with heap:=s.heap.push { cls:=.type "slice",data:=.fields #[vl,vu,vs] } }
theorem YOK {y:List Nat} {lo hi st:AV} {l u:Option Int} (h1:optI lo=some l) (h2:optI hi=some u) (h3:optI st=some none) (hb:y.length≤lim):SndSl σ (.str y) lo hi st (.str (slA y l u none)):=fun {prog w A E s rd H₀ μ x vl vu vs Q} H ro rl ru rs h=>by
 obtain ⟨pl,rfl,rfl,il⟩:=YAh h1 rl
 obtain ⟨pu,rfl,rfl,iu⟩:=YAh h2 ru
 obtain ⟨ps,rfl,hps,is⟩:=YAh h3 rs
 refine ro.str_ fun t=>⟨"str",_,F.slot_str_getitem.lookup,typeIs_str _ _ _,?_⟩
 refine wpAny_getItem_str_slice (l:=pl) (u:=pu) (st:=ps) ⟨_,Heap.get?_push_size _ rfl,rfl,rfl⟩ (by rw [hps]; rfl) ?_
 have k:∀ a o,s.heap.get? a=some o→(s.heap.push { cls:=.type "slice",data:=.fields #[partValue pl,partValue pu,partValue ps] }).get? a=some o:=fun _ _ e=>Heap.get?_push_of_some _ e
 generalize s.heap.push { cls:=.type "slice",data:=.fields #[partValue pl,partValue pu,partValue ps] }=h' at k
 unfold sliceMade slicePicked
 rw [hps]
 split
 ·rename_i hw
  simp only [Option.getD_none,beq_self_eq_true,Bool.true_and,beq_iff_eq,YAD] at hw
  rw [YGC y _ _ hw] at h
  exact YQ (s:=s) (tk:=s.toks) H k (.str _ _) h
 ·have e1:((Builtin.Str.strSliceIndices (pl.map (·.1)) (pu.map (·.1)) ((none:Option Int).getD 1) (⟨y.toArray⟩:Str).length).filterMap ((⟨y.toArray⟩:Str).cps[·]?))=slA y (pl.map (·.1)) (pu.map (·.1)) none:=by
   rw [YAD]
   show (Builtin.Str.strSliceIndices (pl.map (·.1)) (pu.map (·.1)) 1 y.length).filterMap _=_
   rw [strSl]
   exact congrArg (List.filterMap · _) (funext fun i=>List.getElem?_toArray ..)
  rw [e1]
  refine ⟨?_,YQ (s:=s) (tk:=s.toks+1) H k (.str _ _) h⟩
  rw [YAD,YCM]
  refine YAF ?_
  rw [List.length_take,List.length_drop]
  exact Zi44 hb
theorem YQM {o lo hi st:AV} {l u t:Option Int} {ws:List AV} (h1:optI lo=some l) (h2:optI hi=some u) (h3:optI st=some t) (h0:¬t=some 0) (h4:items σ o=some ws) (hb:ws.length≤lim):SndSl σ o lo hi st (.lst (slA ws l u t)):=fun {prog w A E s rd H₀ μ x vl vu vs Q} H ro rl ru rs h=>by
 obtain ⟨pl,rfl,rfl,il⟩:=YAh h1 rl
 obtain ⟨pu,rfl,rfl,iu⟩:=YAh h2 ru
 obtain ⟨ps,rfl,rfl,is⟩:=YAh h3 rs
 obtain ⟨a,xs,rfl,p,q⟩:=YJ H h4 ro
 have pl':=(p.isList.push (o:={ cls:=.type "slice",data:=.fields #[partValue pl,partValue pu,partValue ps] }))
 refine ⟨"list",_,list_getitem_lookup,pl'.typeIs,?_⟩
 refine wpAny_getItem_list_slice pl' (Heap.IsSliceOf.new ..) il iu is h0 ?_ (by rw [List.size_toArray,←q.len]; exact YAF hb)
 rw [YDU]
 have k:∀ a o,s.heap.get? a=some o→(s.heap.push { cls:=.type "slice",data:=.fields #[partValue pl,partValue pu,partValue ps] }).get? a=some o:=fun _ _ e=>Heap.get?_push_of_some _ e
 have kz:s.heap.get? (s.heap.push { cls:=.type "slice",data:=.fields #[partValue pl,partValue pu,partValue ps] }).objs.size=none:=Heap.get?_none_of_le (by rw [Heap.size_push]; exact Nat.le_succ _)
 generalize s.heap.push { cls:=.type "slice",data:=.fields #[partValue pl,partValue pu,partValue ps] }=h' at k kz
 have k2:∀ a o,s.heap.get? a=some o→(h'.push { cls:=.type "list",data:=.seq (slA xs (pl.map (·.1)) (pu.map (·.1)) (ps.map (·.1))).toArray }).get? a=some o:=fun _ _ e=>Heap.get?_push_of_some _ (k _ _ e)
 exact YQ (s:=s) (tk:=s.toks) H k2 (.lst ⟨_,Heap.get?_push_size _ rfl⟩ (H.fresh kz) ((Ev.keeps (tk:=s.toks) k2).rvs0 (q.sl _ _ _))) h
noncomputable def sliC (σ:List AO) (o lo hi st:AV):Crt (SndSl σ o lo hi st):=
 optC (optI lo) fun l h1=>optC (optI hi) fun u h2=>optC (optI st) fun t h3=>match o with
  | .str x=>gdC (x.length≤lim∧t=none) fun hb=>some ⟨.str (slA x l u none),YOK h1 h2 (hb.2▸h3) hb.1⟩
  | o=>gdC (¬t=some 0) fun h0=>optC (items σ o) fun ws h4=>gdC (ws.length≤lim) fun hb=>some ⟨.lst (slA ws l u t),YQM h1 h2 h3 h0 h4 hb⟩
noncomputable def sliA (σ:List AO) (o lo hi st:AV):Option AV:=(sliC σ o lo hi st).val
theorem YLo {o lo hi st v:AV} (e:sliA σ o lo hi st=some v):SndSl σ o lo hi st v:=Crt.ok e
end
noncomputable def meT:Me→String
 | .join | .count | .lower => "str"
 | _ => "list"
noncomputable def meName:Me→Str
 | .append => "append" | .pop | .pop0 => "pop" | .extend => "extend" | .index => "index" | .join => "join" | .count => "count" | .lower => "lower"
noncomputable def meId:Me→String
 | .append => "list.append" | .pop | .pop0 => "list.pop" | .extend => "list.extend" | .index => "list.index" | .join => "str.join" | .count => "str.count" | .lower => "str.lower"
section
variable {prog:Program} {w:World} {A:Around} {E:Value→Shared→Prop} {s:Shared} {rd:YE} {H₀:Heap} {μ:Own} {σ:List AO} {env:Env}
theorem YDn:∀ ys:List (Int×Tok),IntsAre (ys.map fun p=>Value.int p.1 p.2) (ys.map (·.1))
 | []=>.nil
 | p::r=>.cons p.1 p.2 (YDn r)
theorem YLp (ss:List (List Nat)):Txt.join (⟨#[]⟩:Str) (ss.map fun l=>(⟨l.toArray⟩:Str))=⟨ss.flatten.toArray⟩:=by
 unfold Txt.join
 rw [StrLaws.glued_eq_join]
 induction ss with
 | nil=>rfl
 | cons a r ih=>
  cases r with
  | nil=>simp [Str.join]
  | cons b r=>
   simp only [List.map_cons] at ih ⊢
   show (⟨a.toArray⟩:Str)++⟨#[]⟩++Str.join ⟨#[]⟩ (⟨b.toArray⟩::r.map fun l=>(⟨l.toArray⟩:Str))=_
   rw [ih]
   show PySem.Str.append (PySem.Str.append _ _) _=_
   simp [PySem.Str.append]
theorem YCm (c:Nat):∀ l:List Nat,countIn (.str (⟨#[c]⟩:Str)) (l.map fun n=>PyData.str ⟨#[n]⟩)=l.count c
 | []=>rfl
 | a::l=>by
  rw [List.map_cons,countIn,YCm c l,List.count_cons]
  have:same (.str (⟨#[a]⟩:Str)) (.str ⟨#[c]⟩)=(a==c):=by
   by_cases h:a=c
   ·subst h; simp [same]
   ·rw [show (a==c)=false from beq_eq_false_iff_ne.mpr h]
    show ((⟨#[a]⟩:Str)==⟨#[c]⟩)=false
    rw [beq_eq_false_iff_ne]
    intro e
    have:=congrArg (fun s:Str=>s.cps.toList) e
    simp at this
    exact h this
  rw [this]
  by_cases h:(a==c)=true
  ·simp [h]; exact Zi45
  ·simp [h]
noncomputable def SndM (m:Me) (σ:List AO) (o:AV) (as:List AV) (r:AV×List AO):Prop:=∀ {prog:Program} {w:World} {A:Around} {E:Value→Shared→Prop} {s:Shared} {rd:YE} {H₀:Heap} {μ:Own} {x:Value} {xs:List Value} {Q:Value→Shared→Prop},
 HS rd H₀ μ σ s.heap→RV μ s.heap o x→RVs μ s.heap as xs→(∀ s' rv,Ev [] μ s μ s'→HS rd H₀ μ r.2 s'.heap→RV μ s'.heap r.1 rv→Q rv s')→wpAny (model prog w) A (call (.builtin (meId m)) (x::xs)) Q E s
theorem YNZ {n:Nat} {v:AV} {vs:List AV} (hσ:σ[n]?=some (.list vs)) (hl:vs.length≤lim):SndM .append σ (.loc n) [v] (.none,σ.set n (.list (vs++[v]))):=fun {prog w A E s rd H₀ μ x xs Q} H ro ra h=>ra.one_ fun y ry=>by
 obtain ⟨a,k,zs,rfl,hμ,hp,q⟩:=YBo H hσ ro
 refine call_meets F.slot_list_append ⟨_,hp,rfl⟩ F.entry_list_append (F.args_list_append_2 _ _) (list_append a zs.toArray k y (by rw [List.size_toArray,←q.len]; exact YAF hl)) ⟨hp,?_⟩
 obtain ⟨ev,H'⟩:=YBt (vs:=vs++[v]) (ys:=zs++[y]) H hσ hμ hp (fun z=>z.push y) (by simp) ((RVs.cons ry .nil).append q) s.toks
 exact h _ _ ev H' .none
theorem YQT {n:Nat} {r:AV} {vs:List AV} (hσ:σ[n]?=some (.list vs)) (h1:vs.getLast?=some r) (hl:vs.length≤lim):SndM .pop σ (.loc n) [] (r,σ.set n (.list vs.dropLast)):=fun {prog w A E s rd H₀ μ x xs Q} H ro ra h=>ra.nil_<|by
 obtain ⟨a,k,zs,rfl,hμ,hp,q⟩:=YBo H hσ ro
 have hlast:vs[vs.length-1]?=some r:=by rw [←List.getLast?_eq_getElem?]; exact h1
 obtain ⟨y,h3,h4⟩:=q.get hlast
 have hsz:zs.toArray.size=vs.length:=by rw [List.size_toArray,q.len]
 refine call_meets F.slot_list_pop ⟨_,hp,rfl⟩ F.entry_list_pop (F.args_list_pop_1 _) (MeetsSeq.list_pop_last a zs.toArray k y (by rw [hsz]; exact (List.getElem?_toArray ..).trans h3) (by rw [hsz]; exact YAF hl)) ⟨hp,?_⟩
 obtain ⟨ev,H'⟩:=YBt (vs:=vs.dropLast) (ys:=zs.dropLast) H hσ hμ hp (fun z=>z.eraseIdxIfInBounds (zs.toArray.size-1)) (by
  simp only [List.eraseIdxIfInBounds_toArray,List.size_toArray]
  rw [List.eraseIdx_length_sub_one]) (by
  rw [List.dropLast_eq_take,List.dropLast_eq_take,q.len]; exact q.take _) s.toks
 exact h _ _ ev H' (ev.rv0 h4)
theorem YMU {n:Nat} {v:AV} {r:List AV} (hσ:σ[n]?=some (.list (v::r))) (hl:r.length≤lim):SndM .pop0 σ (.loc n) [.int 0] (v,σ.set n (.list r)):=fun {prog w A E s rd H₀ μ x xs Q} H ro ra h=>ra.one_ fun y ry=>ry.int_ fun t=>by
 obtain ⟨a,k,zs,rfl,hμ,hp,q⟩:=YBo H hσ ro
 revert hp
 refine q.cons_ fun z zr q1 q2 hp=>?_
 refine call_meets F.slot_list_pop ⟨_,hp,rfl⟩ F.entry_list_pop (F.args_list_pop_2 _ _) (MeetsSeq.list_pop_at a (z::zr).toArray k 0 _ 0 z (by decide) (YBh (k:=0) (by exact Zi15) (Nat.succ_pos _)) rfl (by rw [List.size_toArray,List.length_cons,←q2.len]; have:=hl; unfold lim at this; rw [sizeLine_eq]; exact Ze6 this)) ⟨hp,?_⟩
 obtain ⟨ev,H'⟩:=YBt (vs:=r) (ys:=zr) H hσ hμ hp (fun z=>z.eraseIdxIfInBounds 0) (by simp) q2 s.toks
 exact h _ _ ev H' (ev.rv0 q1)
theorem YNb {n:Nat} {vs ws:List AV} (hσ:σ[n]?=some (.list vs)) (hl:vs.length+ws.length≤lim):SndM .extend σ (.loc n) [.lst ws] (.none,σ.set n (.list (vs++ws))):=fun {prog w A E s rd H₀ μ x xs Q} H ro ra h=>ra.one_ fun y ry=>ry.lst_ fun b ys k2 p2 _ q2=>by
 obtain ⟨a,k,zs,rfl,hμ,hp,q⟩:=YBo H hσ ro
 unfold lim at hl
 have l1:=q.len
 have l2:=q2.len
 refine call_meets F.slot_list_extend ⟨_,hp,rfl⟩ F.entry_list_extend (F.args_list_extend_2 _ _) (AutoSeq1.list_extend_list_list_0 a zs.toArray k b ys.toArray k2 (by simp only [List.size_toArray,Builtin.List.listTooLong,Bool.and_eq_true,decide_eq_true_eq,sizeLine_eq]; lia) (by rw [List.size_toArray,sizeLine_eq]; exact Ze7 hl l1) (by simp only [List.size_toArray,sizeLine_eq]; exact Ze8 hl l1 l2)) ⟨hp,p2,?_⟩
 obtain ⟨ev,H'⟩:=YBt (vs:=vs++ws) (ys:=zs++ys) H hσ hμ hp (fun z=>z++ys.toArray) (by simp) (q2.append q) s.toks
 exact h _ _ ev H' .none
theorem YJZ {o:AV} {vs:List AV} {ns:List Int} {k:Int} (h1:items σ o=some vs) (h2:intsOf vs=some ns) (hc:ns.contains k=true∧(PyData.list (ns.map .int)).layable0=true):SndM .index σ o [.int k] (.int (ns.idxOf k:Nat),σ):=fun {prog w A E s rd H₀ μ x xs Q} H ro ra h=>ra.one_ fun y ry=>ry.int_ fun t=>by
 obtain ⟨a',zs,rfl,p,q⟩:=YJ H h1 ro
 obtain ⟨ys,rfl,rfl⟩:=YCh h2 q
 exact index_list_ints p.isList (YDn ys) hc.2 (by simpa using hc.1) (YH H (.int _ _) h)
theorem YLN {v:AV} {vs:List AV} {ss:List (List Nat)} (h1:items σ v=some vs) (h2:strsOf vs=some ss) (hc:(ss.map List.length).sum≤lim):SndM .join σ (.str []) [v] (.str ss.flatten,σ):=fun {prog w A E s rd H₀ μ x xs Q} H ro ra h=>ra.one_ fun y ry=>ro.str_ fun t=>by
 obtain ⟨a',zs,rfl,p,q⟩:=YJ H h1 ry
 refine join_list (items:=zs.toArray) p.isList (ys:=ss.map fun l=>(⟨l.toArray⟩:Str)) (YHM h2 q) ?_ fun t' k=>?_
 ·rw [List.map_map,show ((fun x:Str=>x.length)∘fun l:List Nat=>(⟨l.toArray⟩:Str))=List.length from funext fun l=>YAD l,show (⟨([]:List Nat).toArray⟩:Str).length=0 from rfl]
  unfold lim at hc
  exact Ze9 hc
 ·rw [show (⟨([]:List Nat).toArray⟩:Str)=⟨#[]⟩ from rfl,YLp ss]
  exact YH H (.str _ _) h
theorem YIm {s:List Nat} {c:Nat}:SndM .count σ (.str s) [.str [c]] (.int (s.count c),σ):=fun {prog w A E s rd H₀ μ x xs Q} H ro ra h=>ra.one_ fun y ry=>ry.str_ fun _=>ro.str_ fun _=>by
 refine SC.count ?_
 rw [show (⟨[c].toArray⟩:Str)=⟨#[c]⟩ from rfl,count_is,YCm]
 exact YH H (.int _ _) h
theorem YIe {c:Nat} (hc:c<128):SndM .lower σ (.str [c]) [] (.str [lowerC c],σ):=fun {prog w A E s rd H₀ μ x xs Q} H ro ra h=>ra.nil_<|ro.str_ fun _=>by
 have e1:Txt.lower (⟨[c].toArray⟩:Str)=⟨[lowerC c].toArray⟩:=by
  rw [lower_ascii (by simpa using hc)]
  simp [lowerC,lo1]
 refine SC.lower (by rw [e1]; rfl) ?_
 rw [e1]
 exact YH H (.str _ _) h
noncomputable def meC (σ:List AO) (m:Me) (o:AV) (as:List AV):Crt (SndM m σ o as):=match m,o,as with
 | .append,.loc n,[v]=>locC σ n fun vs h=>gdC (vs.length≤lim) fun hl=>some ⟨_,YNZ h hl⟩
 | .pop,.loc n,[]=>locC σ n fun vs h=>optC vs.getLast? fun v h1=>gdC (vs.length≤lim) fun hl=>some ⟨_,YQT h h1 hl⟩
 | .pop0,.loc n,[.int 0]=>locC σ n fun vs h=>match vs,h with
  | v::r,h=>gdC (r.length≤lim) fun hl=>some ⟨_,YMU h hl⟩
  | [],_=>none
 | .extend,.loc n,[.lst ws]=>locC σ n fun vs h=>gdC (vs.length+ws.length≤lim) fun hl=>some ⟨_,YNb h hl⟩
 | .index,v,[.int k]=>optC (items σ v) fun vs h1=>optC (intsOf vs) fun ns h2=>gdC (ns.contains k=true∧(PyData.list (ns.map .int)).layable0=true) fun hc=>some ⟨_,YJZ h1 h2 hc⟩
 | .join,.str [],[v]=>optC (items σ v) fun vs h1=>optC (strsOf vs) fun ss h2=>gdC ((ss.map List.length).sum≤lim) fun hc=>some ⟨_,YLN h1 h2 hc⟩
 | .count,.str s,[.str [c]]=>some ⟨_,YIm⟩
 | .lower,.str [c],[]=>gdC (c<128) fun hc=>some ⟨_,YIe hc⟩
 | _,_,_=>none
noncomputable def meA (σ:List AO) (m:Me) (o:AV) (as:List AV):Option (AV×List AO):=(meC σ m o as).val
theorem YUK {m:Me} {o:AV} {as:List AV} {r:AV×List AO} (e:meA σ m o as=some r):SndM m σ o as r:=Crt.ok e
noncomputable def IsMe (m:Me) (σ:List AO) (o:AV):Prop:=∀ {s:Shared} {rd:YE} {H₀:Heap} {μ:Own} {x:Value},HS rd H₀ μ σ s.heap→RV μ s.heap o x→s.TypeIs x (meT m)∧∀ a,x=.ref a→∃ ob,s.heap.get? a=some ob∧ob.dict=none
theorem YJI {o:AV} {vs:List AV} (h:items σ o=some vs) {m:Me} (hm:meT m = "list"):IsMe m σ o:=fun H r=>by
 obtain ⟨a,xs,rfl,⟨n,p⟩,q⟩:=YJ H h r
 rw [hm]
 exact ⟨⟨_,p,rfl⟩,fun b e=>by cases e; exact ⟨_,p,rfl⟩⟩
theorem YKy {l:List Nat} {m:Me} (hm:meT m = "str"):IsMe m σ (.str l):=fun H r=>r.str_ fun _=>by
 rw [hm]
 exact ⟨typeIs_str _ _ _,fun a e=>nomatch e⟩
noncomputable def isS:AV→Bool
 | .str _=>true
 | _=>false
noncomputable def meOk (σ:List AO) (m:Me) (o:AV):Bool:=match m with
 | .append | .pop | .pop0 | .extend | .index=>(items σ o).isSome
 | .join | .count | .lower=>isS o
theorem YNk {m:Me} {o:AV} (e:meOk σ m o=true):IsMe m σ o:=by
 have lst:(items σ o).isSome=true→∀ m,meT m = "list"→IsMe m σ o:=fun h _ hm=>by
  obtain ⟨vs,hv⟩:=Option.isSome_iff_exists.mp h
  exact YJI hv hm
 have str:isS o=true→∀ m,meT m = "str"→IsMe m σ o:=fun h _ hm=>by
  cases o with
  | str=>exact YKy hm
  | _=>cases h
 cases m with
 | append=>exact @lst e .append rfl
 | pop=>exact @lst e .pop rfl
 | pop0=>exact @lst e .pop0 rfl
 | extend=>exact @lst e .extend rfl
 | index=>exact @lst e .index rfl
 | join=>exact @str e .join rfl
 | count=>exact @str e .count rfl
 | lower=>exact @str e .lower rfl
noncomputable def augC (op:Operator) (x y:AV):Crt fun v=>∀ {σ:List AO},Snd2 (inplaceOp op) σ x y v:=match op,x,y with
 | .Add,.int a,.int b=>some ⟨.int (a+b),fun _ H ra rb h=>ra.int_ fun _=>rb.int_ fun _=>P.iadd_int (YH H (.int _ _) h)⟩
 | .Sub,.int a,.int b=>some ⟨.int (a-b),fun _ H ra rb h=>ra.int_ fun _=>rb.int_ fun _=>P.isub_int (YH H (.int _ _) h)⟩
 | .Add,.str a,.str b=>gdC (a.length+b.length≤lim) fun hl=>some ⟨.str (a++b),fun _ H ra rb h=>ra.str_ fun _=>rb.str_ fun _=>PyProof.Rows.iadd_str (fun _ _=>YJW a b▸YH H (.str _ _) h) (by rw [YAD,YAD]; exact YAF hl)⟩
 | _,_,_=>none
noncomputable def augA (op:Operator) (x y:AV):Option AV:=(augC op x y).val
theorem YSC {op:Operator} {x y v:AV} (e:augA op x y=some v):Snd2 (inplaceOp op) σ x y v:=Crt.ok (P:=fun v=>∀ {σ:List AO},Snd2 (inplaceOp op) σ x y v) e
end
noncomputable def newL (m:Bool) (σ:List AO) (vs:List AV):Option (AV×List AO):=
 if vs.length≤lim then (if m then some (.loc σ.length,σ++[.list vs]) else some (.lst vs,σ)) else none
set_option genCtorIdx false
set_option genInjectivity false
mutual
inductive E where
 | none | bool (b:Bool) | int (i:Int) | str (s:List Nat)
 | var (i:Nat)
 | gint (x:String) (i:Int)
 | bin (op:Operator) (a b:E) | neg (a:E) | orv (a b:E)
 | ife (t:T) (a b:E)
 | cmp (op:CmpOp) (a b:E)
 | call (f:Nat) (as:Es)
 | bi (b:Bi) (as:Es)
 | mrange (as:Es)
 | me (m:Me) (o:E) (as:Es)
 | lm (f:Nat) (o:E) (as:Es)
 | sub (o i:E)
 | sli (o lo hi st:E)
 | lst (m:Bool) (es:Es) | tup (es:Es)
 | comp (m:Bool) (elt it:E) (cs:Ts)
 | comp2 (m:Bool) (elt it1 it2:E)
 | pushb (o:E) | lineno (o:E) | white (o:E)
 | readch (o:E) | iterread (o:E)
inductive Es where
 | nil | cons (e:E) (r:Es)
inductive T where
 | val (e:E) | cmp (op:CmpOp) (a b:E) | not (t:T) | and (ts:Ts) | or (ts:Ts) | cmp2 (op1 op2:CmpOp) (a b c:E)
inductive Ts where
 | nil | cons (t:T) (r:Ts)
end
mutual
inductive S where
 | expr (e:E) | asg (i:Nat) (e:E) | asg2 (i j:Nat) (e:E) | unp (i j:Nat) (e:E) | swap (i j:Nat) (e:E)
 | sset (o i e:E) | aug (i:Nat) (op:Operator) (e:E) | augline (o e:E)
 | ite (t:T) (a b:Ss) | whl (n:Nat) (t:T) (b:Ss)
 | for_ (i:Nat) (it:E) (b:Ss) | forr (i:Nat) (n:E) (b:Ss) | forc (i:Nat) (it:E) (b:Ss)
 | ret (e:E) | brk | cont
inductive Ss where
 | nil | cons (s:S) (r:Ss)
end
set_option genCtorIdx true
set_option genInjectivity true
inductive Fl where
 | next | brk | cont | ret (v:AV)
abbrev YF:=List (Option AV)
abbrev Tab:=Nat→List AV→List AO→Option (AV×List AO)
section
variable {β:Type} {r:β} {G:Prop}
theorem nS (h:(none:Option β)=some r):G:=nomatch h
noncomputable def onInt (v:AV) (f:Int→Option β):Option β:=match v with
 | .int i=>f i
 | _=>none
theorem YFY {v:AV} {f:Int→Option β} (h:onInt v f=some r) (k:∀ i,v=.int i→f i=some r→G):G:=by
 cases v with
 | int i=>exact k i rfl h
 | _=>exact nS h
noncomputable def onPair (v:AV) (f:AV→AV→Option β):Option β:=match v with
 | .tup [a,b]=>f a b
 | _=>none
theorem YDm {v:AV} {f:AV→AV→Option β} (h:onPair v f=some r) (k:∀ a b,v=.tup [a,b]→f a b=some r→G):G:=by
 cases v with
 | tup vs=>cases vs with
  | nil=>exact nS h
  | cons a t=>cases t with
   | nil=>exact nS h
   | cons b t=>cases t with
    | nil=>exact k a b rfl h
    | cons=>exact nS h
 | _=>exact nS h
noncomputable def onLoc (v:AV) (f:Nat→Option β):Option β:=match v with
 | .loc n=>f n
 | _=>none
theorem YAg {v:AV} {f:Nat→Option β} (h:onLoc v f=some r) (k:∀ n,v=.loc n→f n=some r→G):G:=by
 cases v with
 | loc n=>exact k n rfl h
 | _=>exact nS h
noncomputable def onLex (o:Option AO) (f:List Nat→Nat→Int→Nat→Option β):Option β:=match o with
 | some (.lexer a b c d)=>f a b c d
 | _=>none
theorem YBK {o:Option AO} {f:List Nat→Nat→Int→Nat→Option β} (h:onLex o f=some r) (k:∀ a b c d,o=some (.lexer a b c d)→f a b c d=some r→G):G:=by
 cases o with
 | none=>exact nS h
 | some o=>cases o with
  | lexer a b c d=>exact k a b c d rfl h
  | _=>exact nS h
noncomputable def onCit (o:Option AO) (f:Nat→Option β):Option β:=match o with
 | some (.citer n true)=>f n
 | _=>none
theorem YDF {o:Option AO} {f:Nat→Option β} (h:onCit o f=some r) (k:∀ n,o=some (.citer n true)→f n=some r→G):G:=by
 cases o with
 | none=>exact nS h
 | some o=>cases o with
  | citer n b=>cases b with
   | true=>exact k n rfl h
   | false=>exact nS h
  | _=>exact nS h
noncomputable def onStr (v:AV) (f:List Nat→Option β):Option β:=match v with
 | .str i=>f i
 | _=>none
theorem YJR {v:AV} {f:List Nat→Option β} (h:onStr v f=some r) (k:∀ i,v=.str i→f i=some r→G):G:=by
 cases v with
 | str i=>exact k i rfl h
 | _=>exact nS h
noncomputable def onVal (o:Option (Option AV)) (f:AV→Option β):Option β:=match o with
 | some (some v)=>f v
 | _=>none
theorem YFR {o:Option (Option AV)} {f:AV→Option β} (h:onVal o f=some r) (k:∀ v,o=some (some v)→f v=some r→G):G:=by
 cases o with
 | none=>exact nS h
 | some o=>cases o with
  | none=>exact nS h
  | some v=>exact k v rfl h
theorem YBD {p:Prop} [Decidable p] {o:Option β} (h:(if p then o else none)=some r) (k:p→o=some r→G):G:=by
 by_cases q:p
 ·rw [if_pos q] at h; exact k q h
 ·rw [if_neg q] at h; cases h
end
noncomputable def mapGo (f:AV→List AO→Option (List AV×List AO)) (it:AV):Nat→Nat→List AO→Option (List AV×List AO)
 | 0,_,_=>none
 | k+1,i,σ=>match nthA σ it i with
  | some none=>some ([],σ)
  | some (some v)=>(f v σ).bind fun p=>(mapGo f it k (i+1) p.2).map fun q=>(p.1++q.1,q.2)
  | none=>none
noncomputable def turns (σ:List AO) (it:AV):Nat:=match it with
 | .rng a b c=>rlen a b c+1
 | .str s=>s.length+1
 | v=>match items σ v with
  | some vs=>vs.length+1
  | none=>0
noncomputable def readA (σ:List AO) (x:AV):Option (AV×List AO):=onLoc x fun n=>onLex σ[n]? fun text pos line p=>
 if pos≤text.length∧text.length≤lim then some (.str ((text.drop pos).take 1),σ.set n (.lexer text (pos+((text.drop pos).take 1).length) line p)) else none
section
variable (Φ:Tab)
mutual
noncomputable def evE:E→YF→List AO→Option (AV×List AO)
 | .none,_,σ=>some (.none,σ)
 | .bool b,_,σ=>some (.bool b,σ)
 | .int i,_,σ=>some (.int i,σ)
 | .str s,_,σ=>some (.str s,σ)
 | .var i,ρ,σ=>onVal ρ[i]? fun v=>some (v,σ)
 | .gint _ i,_,σ=>some (.int i,σ)
 | .bin op a b,ρ,σ=>(evE a ρ σ).bind fun x=>(evE b ρ x.2).bind fun y=>(binA y.2 op x.1 y.1).map fun v=>(v,y.2)
 | .neg a,ρ,σ=>(evE a ρ σ).bind fun x=>onInt x.1 fun i=>some (.int (-i),x.2)
 | .orv a b,ρ,σ=>(evE a ρ σ).bind fun x=>(truthA x.2 x.1).bind fun t=>if t then some x else evE b ρ x.2
 | .ife t a b,ρ,σ=>(evT t ρ σ).bind fun x=>if x.1 then evE a ρ x.2 else evE b ρ x.2
 | .cmp op a b,ρ,σ=>(evE a ρ σ).bind fun x=>(evE b ρ x.2).bind fun y=>(cmpA y.2 op x.1 y.1).map fun v=>(.bool v,y.2)
 | .call f as,ρ,σ=>(evEs as ρ σ).bind fun x=>Φ f x.1 x.2
 | .bi b as,ρ,σ=>(evEs as ρ σ).bind fun x=>(biA x.2 b x.1).map fun v=>(v,x.2)
 | .mrange as,ρ,σ=>(evEs as ρ σ).bind fun x=>(mrA x.1).bind fun vs=>newL true x.2 vs
 | .me m o as,ρ,σ=>(evE o ρ σ).bind fun x=>if meOk x.2 m x.1 then (evEs as ρ x.2).bind fun y=>meA y.2 m x.1 y.1 else none
 | .lm f o as,ρ,σ=>(evE o ρ σ).bind fun x=>onLoc x.1 fun n=>onLex x.2[n]? fun _ _ _ _=>(evEs as ρ x.2).bind fun y=>Φ f (.loc n::y.1) y.2
 | .sub o i,ρ,σ=>(evE o ρ σ).bind fun x=>(evE i ρ x.2).bind fun y=>(subA y.2 x.1 y.1).map fun v=>(v,y.2)
 | .sli o lo hi st,ρ,σ=>(evE o ρ σ).bind fun x=>(evE lo ρ x.2).bind fun l=>(evE hi ρ l.2).bind fun h=>(evE st ρ h.2).bind fun s=>(sliA s.2 x.1 l.1 h.1 s.1).map fun v=>(v,s.2)
 | .lst m es,ρ,σ=>(evEs es ρ σ).bind fun x=>newL m x.2 x.1
 | .tup es,ρ,σ=>(evEs es ρ σ).bind fun x=>if x.1.length≤lim then some (.tup x.1,x.2) else none
 | .comp m elt it cs,ρ,σ=>(evE it ρ σ).bind fun x=>
   (mapGo (fun v σ=>(evTs cs (ρ++[some v]) σ).bind fun t=>if t.1 then (evE elt (ρ++[some v]) t.2).map fun y=>([y.1],y.2) else some ([],t.2)) x.1 (turns x.2 x.1) 0 x.2).bind fun y=>newL m y.2 y.1
 | .comp2 m elt it1 it2,ρ,σ=>(evE it1 ρ σ).bind fun x=>
   (mapGo (fun v σ=>(evE it2 (ρ++[some v,none]) σ).bind fun y=>mapGo (fun u σ=>(evE elt (ρ++[some v,some u]) σ).map fun z=>([z.1],z.2)) y.1 (turns y.2 y.1) 0 y.2) x.1 (turns x.2 x.1) 0 x.2).bind fun y=>newL m y.2 y.1
 | .pushb o,ρ,σ=>(evE o ρ σ).bind fun x=>onLoc x.1 fun n=>onLex x.2[n]? fun _ _ _ p=>some (.loc p,x.2)
 | .lineno o,ρ,σ=>(evE o ρ σ).bind fun x=>onLoc x.1 fun n=>onLex x.2[n]? fun _ _ l _=>some (.int l,x.2)
 | .white o,ρ,σ=>(evE o ρ σ).bind fun x=>onLoc x.1 fun n=>onLex x.2[n]? fun _ _ _ _=>some (.str [10,9,13,32],x.2)
 | .readch o,ρ,σ=>(evE o ρ σ).bind fun x=>readA x.2 x.1
 | .iterread o,ρ,σ=>(evE o ρ σ).bind fun x=>onLoc x.1 fun n=>onLex x.2[n]? fun _ _ _ _=>some (.loc x.2.length,x.2++[.citer n true])
noncomputable def evEs:Es→YF→List AO→Option (List AV×List AO)
 | .nil,_,σ=>some ([],σ)
 | .cons e r,ρ,σ=>(evE e ρ σ).bind fun x=>(evEs r ρ x.2).map fun y=>(x.1::y.1,y.2)
noncomputable def evT:T→YF→List AO→Option (Bool×List AO)
 | .val e,ρ,σ=>(evE e ρ σ).bind fun x=>(truthA x.2 x.1).map fun t=>(t,x.2)
 | .cmp op a b,ρ,σ=>(evE a ρ σ).bind fun x=>(evE b ρ x.2).bind fun y=>(cmpA y.2 op x.1 y.1).map fun t=>(t,y.2)
 | .not t,ρ,σ=>(evT t ρ σ).map fun x=>(!x.1,x.2)
 | .and ts,ρ,σ=>evTs ts ρ σ
 | .or ts,ρ,σ=>evTo ts ρ σ
 | .cmp2 op1 op2 a b c,ρ,σ=>(evE a ρ σ).bind fun x=>(evE b ρ x.2).bind fun y=>(cmpA y.2 op1 x.1 y.1).bind fun t=>if t then (evE c ρ y.2).bind fun z=>(cmpA z.2 op2 y.1 z.1).map fun u=>(u,z.2) else some (false,y.2)
noncomputable def evTs:Ts→YF→List AO→Option (Bool×List AO)
 | .nil,_,σ=>some (true,σ)
 | .cons t r,ρ,σ=>(evT t ρ σ).bind fun x=>if x.1 then evTs r ρ x.2 else some (false,x.2)
noncomputable def evTo:Ts→YF→List AO→Option (Bool×List AO)
 | .nil,_,σ=>some (false,σ)
 | .cons t r,ρ,σ=>(evT t ρ σ).bind fun x=>if x.1 then some (true,x.2) else evTo r ρ x.2
end
noncomputable def forGo (f:AV→YF→List AO→Option (Fl×YF×List AO)) (it:AV):Nat→Nat→YF→List AO→Option (Fl×YF×List AO)
 | 0,_,_,_=>none
 | k+1,i,ρ,σ=>match nthA σ it i with
  | some none=>some (.next,ρ,σ)
  | some (some v)=>(f v ρ σ).bind fun p=>match p.1 with
   | .next | .cont=>forGo f it k (i+1) p.2.1 p.2.2
   | .brk=>some (.next,p.2)
   | .ret v=>some (.ret v,p.2)
  | none=>none
noncomputable def whlGo (t:YF→List AO→Option (Bool×List AO)) (f:YF→List AO→Option (Fl×YF×List AO)):Nat→YF→List AO→Option (Fl×YF×List AO)
 | 0,_,_=>none
 | k+1,ρ,σ=>(t ρ σ).bind fun b=>if b.1 then (f ρ b.2).bind fun p=>match p.1 with
   | .next | .cont=>whlGo t f k p.2.1 p.2.2
   | .brk=>some (.next,p.2)
   | .ret v=>some (.ret v,p.2)
  else some (.next,ρ,b.2)
noncomputable def forcGo (f:AV→YF→List AO→Option (Fl×YF×List AO)) (n lx:Nat):Nat→YF→List AO→Option (Fl×YF×List AO)
 | 0,_,_=>none
 | k+1,ρ,σ=>onCit σ[n]? fun lx'=>if lx'=lx then (Φ 70 [.loc lx] σ).bind fun p=>onCit p.2[n]? fun _=>onStr p.1 fun c=>if c=[] then some (.next,ρ,p.2.set n (.citer lx false)) else
   (f (.str c) ρ p.2).bind fun p=>match p.1 with
    | .next | .cont=>forcGo f n lx k p.2.1 p.2.2
    | .brk=>some (.next,p.2)
    | .ret v=>some (.ret v,p.2)
   else none
noncomputable def room (σ:List AO) (lx:Nat):Nat:=match σ[lx]? with
 | some (.lexer text pos _ _)=>text.length-pos+2
 | _=>0
mutual
noncomputable def exS:S→YF→List AO→Option (Fl×YF×List AO)
 | .expr e,ρ,σ=>(evE Φ e ρ σ).map fun x=>(.next,ρ,x.2)
 | .asg i e,ρ,σ=>(evE Φ e ρ σ).map fun x=>(.next,ρ.set i (some x.1),x.2)
 | .asg2 i j e,ρ,σ=>(evE Φ e ρ σ).map fun x=>(.next,(ρ.set i (some x.1)).set j (some x.1),x.2)
 | .unp i j e,ρ,σ=>(evE Φ e ρ σ).bind fun x=>onPair x.1 fun a b=>some (.next,(ρ.set i (some a)).set j (some b),x.2)
 | .swap i j e,ρ,σ=>(evE Φ e ρ σ).bind fun x=>onPair x.1 fun a b=>some (.next,(ρ.set j (some b)).set i (some a),x.2)
 | .sset o i e,ρ,σ=>(evE Φ e ρ σ).bind fun x=>(evE Φ o ρ x.2).bind fun y=>(evE Φ i ρ y.2).bind fun z=>(ssetA z.2 y.1 z.1 x.1).map fun σ'=>(.next,ρ,σ')
 | .aug i op e,ρ,σ=>onVal ρ[i]? fun v=>(evE Φ e ρ σ).bind fun x=>(augA op v x.1).map fun y=>(.next,ρ.set i (some y),x.2)
 | .augline o e,ρ,σ=>match e with
  | .int k=>(evE Φ o ρ σ).bind fun x=>onLoc x.1 fun n=>onLex x.2[n]? fun text pos l p=>some (.next,ρ,x.2.set n (.lexer text pos (l+k) p))
  | _=>none
 | .ite t a b,ρ,σ=>(evT Φ t ρ σ).bind fun x=>if x.1 then exSs a ρ x.2 else exSs b ρ x.2
 | .whl n t b,ρ,σ=>whlGo (evT Φ t) (exSs b) n ρ σ
 | .for_ i it b,ρ,σ=>(evE Φ it ρ σ).bind fun x=>forGo (fun v ρ σ=>exSs b (ρ.set i (some v)) σ) x.1 (turns x.2 x.1) 0 ρ x.2
 | .forr i n b,ρ,σ=>(evE Φ n ρ σ).bind fun x=>onInt x.1 fun k=>if fits k=true∧0≤k then forGo (fun v ρ σ=>exSs b (ρ.set i (some v)) σ) (.rng (k-1) (-1) (-1)) (k.toNat+1) 0 ρ x.2 else none
 | .forc i it b,ρ,σ=>(evE Φ it ρ σ).bind fun x=>onLoc x.1 fun n=>onCit x.2[n]? fun lx=>forcGo Φ (fun v ρ σ=>exSs b (ρ.set i (some v)) σ) n lx (room x.2 lx) ρ x.2
 | .ret e,ρ,σ=>(evE Φ e ρ σ).map fun x=>(.ret x.1,ρ,x.2)
 | .brk,ρ,σ=>some (.brk,ρ,σ)
 | .cont,ρ,σ=>some (.cont,ρ,σ)
noncomputable def exSs:Ss→YF→List AO→Option (Fl×YF×List AO)
 | .nil,ρ,σ=>some (.next,ρ,σ)
 | .cons s r,ρ,σ=>(exS s ρ σ).bind fun p=>match p.1 with
  | .next=>exSs r p.2.1 p.2.2
  | f=>some (f,p.2)
end
end
mutual
noncomputable def noLoc (n:Nat):AV→Bool
 | .loc k=>decide (k<n)
 | .tup vs=>noLocs n vs
 | .lst vs=>noLocs n vs
 | _=>true
noncomputable def noLocs (n:Nat):List AV→Bool
 | []=>true
 | v::r=>noLoc n v&&noLocs n r
end
noncomputable def allO (f:AV→Option AV):List AV→Option (List AV)
 | []=>some []
 | v::r=>(f v).bind fun a=>(allO f r).map (a::·)
noncomputable def onList {β:Type} (o:Option AO) (f:List AV→Option β):Option β:=match o with
 | some (.list vs)=>f vs
 | _=>none
theorem YIK {β:Type} {r:β} {G:Prop} {o:Option AO} {f:List AV→Option β} (h:onList o f=some r) (k:∀ vs,o=some (.list vs)→f vs=some r→G):G:=by
 cases o with
 | none=>exact nS h
 | some o=>cases o with
  | list vs=>exact k vs rfl h
  | _=>exact nS h
theorem YIr {β:Type} {o:Option AO} {f:List AV→Option β} {vs:List AV} (h:o=some (.list vs)):onList o f=f vs:=by rw [h]; rfl
noncomputable def fzStep (σ:List AO) (f:AV→Option AV):AV→Option AV
 | .loc m=>onList σ[m]? fun vs=>(allO f vs).map .lst
 | .tup vs=>(allO f vs).map .tup
 | .lst vs=>(allO f vs).map .lst
 | _=>none
noncomputable def fz (σ:List AO) (n:Nat):Nat→AV→Option AV
 | 0,v=>if noLoc n v then some v else none
 | k+1,v=>if noLoc n v then some v else fzStep σ (fz σ n k) v
noncomputable def fzs (σ:List AO) (n k:Nat) (vs:List AV):Option (List AV):=allO (fz σ n k) vs
noncomputable def aoOk (n:Nat):AO→Bool
 | .list vs=>noLocs n vs
 | .lexer _ _ _ p=>decide (p<n)
 | .citer l live=>!live||decide (l<n)
 | .codes _=>true
noncomputable def popA (n:Nat) (v:AV) (σ:List AO):Option (AV×List AO):=
 if (σ.take n).all (aoOk n)&&decide (n≤σ.length) then (fz σ n 6 v).map fun v'=>(v',σ.take n) else none
noncomputable def runF (Φ:Tab) (np k:Nat) (body:Ss) (as:List AV) (σ:List AO):Option (AV×List AO):=
 if as.length=np then
  (exSs Φ body (as.map some++List.replicate (k-np) none) σ).bind fun p=>match p.1 with
   | .next=>popA σ.length .none p.2.2
   | .ret v=>popA σ.length v p.2.2
   | _=>none
 else none
set_option genInjectivity false in
structure Cx where
 nm:List Str
 names:List (Str×NameKind)
noncomputable def visK:Option NameKind→Bool
 | some .local | some .cell | some .free=>true
 | _=>false
noncomputable def Cx.rd (c:Cx) (x:Str) (i:Nat):Bool:=slot c.nm x==some i&&visK (c.names.lookup x)&&!(x==("__debug__":Str))&&!(x==("__classdict__":Str))
noncomputable def Cx.gl (c:Cx) (x:Str):Bool:=c.names.lookup x==some .globalImplicit&&!(x==("__debug__":Str))
noncomputable def Cx.wr (c:Cx) (x:Str) (i:Nat):Bool:=slot c.nm x==some i&&(c.names.lookup x==some .local||c.names.lookup x==some .cell)
noncomputable def Cx.into (c:Cx) (scope:Scope) (ts:List Str):Cx:=⟨c.nm++ts,scope.names⟩
noncomputable def compOk (c:Cx) (scope:Scope) (ts:List Str):Bool:=
 scope.kind==.function&&decide (scope.names.map (·.1)).Nodup&&ts.all (fun x=>scope.names.lookup x==some .local||scope.names.lookup x==some .cell) &&
  scope.names.all fun p=>match p.2 with
   | .local=>ts.contains p.1||slot c.nm p.1==none
   | .cell=>ts.contains p.1
   | .free=>c.names.lookup p.1==some .cell||c.names.lookup p.1==some .free
   | .globalImplicit=>true
   | .globalExplicit=>false
set_option genInjectivity false in
structure EnvOk (env:Env) (c:Cx):Prop where
 kind:∀ x,env.kindOf x=c.names.lookup x∨(c.names.lookup x=some .free∧env.kindOf x=some .cell)
 cells:∀ x,c.names.lookup x=some .cell∨c.names.lookup x=some .free→(env.cells.lookup x).isSome=true
theorem EnvOk.vis {env:Env} {c:Cx} (e:EnvOk env c) {x:Str} (h:visK (c.names.lookup x)=true):Vis env x:=by
 rcases e.kind x with k | ⟨_,k⟩
 ·unfold Vis
  rw [k]
  cases q:c.names.lookup x with
  | none=>rw [q] at h; cases h
  | some k=>
   rw [q] at h
   cases k with
   | «local»=>exact .inl rfl
   | cell=>exact .inr (.inl rfl)
   | free=>exact .inr (.inr rfl)
   | _=>cases h
 ·exact .inr (.inl k)
theorem EnvOk.gl {env:Env} {c:Cx} (e:EnvOk env c) {x:Str} (h:c.gl x=true):env.kindOf x=some .globalImplicit:=by
 unfold Cx.gl at h
 simp only [Bool.and_eq_true,beq_iff_eq] at h
 rcases e.kind x with k | ⟨k,_⟩
 ·rw [k,h.1]
 ·rw [h.1] at k; cases k
theorem EnvOk.wr {env:Env} {c:Cx} (e:EnvOk env c) {x:Str} {i:Nat} (h:c.wr x i=true):slot c.nm x=some i∧(env.kindOf x=some .local∨(env.kindOf x=some .cell∧(env.cells.lookup x).isSome=true)):=by
 unfold Cx.wr at h
 simp only [Bool.and_eq_true,beq_iff_eq,Bool.or_eq_true] at h
 refine ⟨h.1,?_⟩
 rcases e.kind x with k | ⟨k,_⟩
 ·rw [k]
  rcases h.2 with q | q
  ·exact .inl q
  ·exact .inr ⟨q,e.cells x (.inl q)⟩
 ·rcases h.2 with q | q <;> (rw [q] at k; cases k)
noncomputable def closOf (cells:List (Str×Addr)):List (Str×NameKind)→List (Str×Addr)→List (Str×Addr)
 | [],acc=>acc
 | (x,.free)::r,acc=>closOf cells r ((x,(cells.lookup x).getD 0)::acc)
 | _::r,acc=>closOf cells r acc
theorem closLoop {env:Env} (f:Str×NameKind→List (Str×Addr)→Sem (ForInStep (List (Str×Addr))))
  (hf:∀ name kind cs,f (name,kind) cs=if kind==NameKind.free then (do let a←cellOf env name; pure (ForInStep.yield ((name,a)::cs))) else pure (ForInStep.yield cs)):
  ∀ (l:List (Str×NameKind)) (acc:List (Str×Addr)),(∀ p∈l,p.2=.free→(env.cells.lookup p.1).isSome=true)→(forIn l acc f:Sem (List (Str×Addr)))=pure (closOf env.cells l acc)
 | [],_,_=>rfl
 | (x,k)::r,acc,hp=>by
  have hp':∀ p∈r,p.2=.free→(env.cells.lookup p.1).isSome=true:=fun p q=>hp p (List.mem_cons_of_mem _ q)
  rw [List.forIn_cons,hf]
  by_cases hk:k=.free
  ·subst hk
   obtain ⟨a,ha⟩:=Option.isSome_iff_exists.mp (hp (x,.free) (List.mem_cons_self ..) rfl)
   have e:cellOf env x=pure a:=by unfold cellOf; rw [ha]
   rw [if_pos (by simp),e]
   show (forIn r ((x,a)::acc) f:Sem _)=_
   rw [closLoop f hf r _ hp']
   show pure _=pure (closOf env.cells r ((x,(env.cells.lookup x).getD 0)::acc))
   rw [ha]; rfl
  ·rw [if_neg (by simpa using hk)]
   show (forIn r acc f:Sem _)=_
   rw [closLoop f hf r _ hp']
   cases k <;> first | rfl | exact absurd rfl hk
theorem YEY {scope:Scope} {env:Env} (h:∀ p∈scope.names,p.2=.free→(env.cells.lookup p.1).isSome=true):closureFor scope env=pure (closOf env.cells scope.names []):=by
 unfold closureFor
 dsimp only
 rw [closLoop (env:=env) _ (fun name kind cs=>by rfl) scope.names [] h]
 rfl
theorem YCG (cells:List (Str×Addr)):∀ (l:List (Str×NameKind)) (acc:List (Str×Addr)) (x:Str) (a:Addr),(x,a)∈closOf cells l acc→(x,a)∈acc∨((x,NameKind.free)∈l∧a=(cells.lookup x).getD 0)
 | [],_,_,_,h=>.inl h
 | (y,k)::r,acc,x,a,h=>by
  cases k with
  | free=>
   rcases YCG cells r _ x a h with q | q
   ·rcases List.mem_cons.mp q with e | q
    ·cases e; exact .inr ⟨List.mem_cons_self ..,rfl⟩
    ·exact .inl q
   ·exact .inr ⟨List.mem_cons_of_mem _ q.1,q.2⟩
  | _=>
   rcases YCG cells r _ x a h with q | q
   ·exact .inl q
   ·exact .inr ⟨List.mem_cons_of_mem _ q.1,q.2⟩
theorem YBx (cells:List (Str×Addr)) (x:Str):∀ (l:List (Str×NameKind)) (acc:List (Str×Addr)),(x,NameKind.free)∈l→(closOf cells l acc).lookup x=some ((cells.lookup x).getD 0)∨False
 | [],_,h=>by cases h
 | (y,k)::r,acc,h=>by
  have later:∀ acc,(x,NameKind.free)∉r→acc.lookup x=some ((cells.lookup x).getD 0)→(closOf cells r acc).lookup x=some ((cells.lookup x).getD 0):=by
   intro acc hn ha
   clear h
   induction r generalizing acc with
   | nil=>exact ha
   | cons p r ih=>
    obtain ⟨z,kz⟩:=p
    have hn':(x,NameKind.free)∉r:=fun q=>hn (List.mem_cons_of_mem _ q)
    cases kz with
    | free=>
     refine ih _ hn' ?_
     rw [List.lookup_cons]
     have:(x==z)=false:=beq_eq_false_iff_ne.mpr fun e=>hn (by rw [e]; exact List.mem_cons_self ..)
     rw [this]; exact ha
    | _=>exact ih _ hn' ha
  by_cases hr:(x,NameKind.free)∈r
  ·cases k <;> exact YBx cells x r _ hr
  ·rcases List.mem_cons.mp h with e | e
   ·cases e
    exact .inl (later _ hr (by rw [List.lookup_cons,beq_self_eq_true]))
   ·exact absurd e hr
theorem YBB {cells:List (Str×Addr)} (hp:cells.Pairwise fun x y=>x.2≠y.2):∀ (l:List (Str×NameKind)) (acc:List (Str×Addr)),(l.map (·.1)).Nodup→(∀ p∈l,p.2=.free→(cells.lookup p.1).isSome=true)→
  (∀ p∈acc,p.1∉l.map (·.1)∧cells.lookup p.1=some p.2)→acc.Pairwise (fun x y=>x.2≠y.2)→(closOf cells l acc).Pairwise fun x y=>x.2≠y.2
 | [],_,_,_,_,h=>h
 | (y,k)::r,acc,hn,hs,ha,h=>by
  rw [List.map_cons,List.nodup_cons] at hn
  have hs':∀ p∈r,p.2=.free→(cells.lookup p.1).isSome=true:=fun p q=>hs p (List.mem_cons_of_mem _ q)
  have ha':∀ p∈acc,p.1∉r.map (·.1)∧cells.lookup p.1=some p.2:=fun p q=>⟨fun z=>(ha p q).1 (by rw [List.map_cons]; exact List.mem_cons_of_mem _ z),(ha p q).2⟩
  cases k with
  | free=>
   obtain ⟨a,e⟩:=Option.isSome_iff_exists.mp (hs (y,.free) (List.mem_cons_self ..) rfl)
   refine YBB hp r _ hn.2 hs' ?_ ?_
   ·intro p q
    rcases List.mem_cons.mp q with rfl | q
    ·exact ⟨hn.1,by simp only [e]; rfl⟩
    ·exact ha' p q
   ·refine List.pairwise_cons.mpr ⟨fun p q=>?_,h⟩
    simp only [e,Option.getD_some]
    rintro rfl
    have e2:=(ha p q).2
    have e3:y=p.1:=name_of_addr hp (mem_of_lookup e) (mem_of_lookup e2)
    exact (ha p q).1 (by rw [←e3]; simp)
  | _=>exact YBB hp r _ hn.2 hs' ha' h
theorem YAp:∀ (l:List (Str×NameKind)) (n:Nat) (acc:List (Str×Addr)) (x:Str) (a:Addr),(x,a)∈cellsFrom n l acc→(x,a)∈acc∨((x,NameKind.cell)∈l∧n≤a)
 | [],_,_,_,_,h=>.inl h
 | (y,k)::r,n,acc,x,a,h=>by
  unfold cellsFrom at h
  split at h
  ·rename_i hk
   have hk:k=.cell:=by simpa using hk
   subst hk
   rcases YAp r (n+1) _ x a h with q | q
   ·rcases List.mem_cons.mp q with e | q
    ·cases e; exact .inr ⟨List.mem_cons_self ..,Nat.le_refl _⟩
    ·exact .inl q
   ·exact .inr ⟨List.mem_cons_of_mem _ q.1,by exact Ze10 q.2⟩
  ·rcases YAp r n _ x a h with q | q
   ·exact .inl q
   ·exact .inr ⟨List.mem_cons_of_mem _ q.1,q.2⟩
theorem YAZ {x:Str}:∀ (l:List (Str×NameKind)) (n:Nat) (acc:List (Str×Addr)),(x,NameKind.cell)∉l→(cellsFrom n l acc).lookup x=acc.lookup x
 | [],_,_,_=>rfl
 | (y,k)::r,n,acc,h=>by
  have h':(x,NameKind.cell)∉r:=fun q=>h (List.mem_cons_of_mem _ q)
  unfold cellsFrom
  split
  ·rename_i hk
   have hk:k=.cell:=by simpa using hk
   subst hk
   rw [YAZ r _ _ h',List.lookup_cons]
   have:(x==y)=false:=beq_eq_false_iff_ne.mpr fun e=>h (by rw [e]; exact List.mem_cons_self ..)
   rw [this]
  ·exact YAZ r _ _ h'
theorem YAx:∀ (l:List (Str×NameKind)) (h:Heap) (acc:List (Str×Addr)) (x:Str) (a:Addr),(x,a)∈cellsFrom h.objs.size l acc→(x,a)∈acc∨((pushCells h l).IsCell a none∧h.objs.size≤a)
 | [],_,_,_,_,e=>.inl e
 | (y,k)::r,h,acc,x,a,e=>by
  unfold cellsFrom at e
  unfold pushCells
  split at e
  ·rename_i hk
   rw [if_pos hk]
   rw [show h.objs.size+1=(h.push { cls:=.type "cell",data:=.cell none }).objs.size from (Heap.size_push ..).symm] at e
   rcases YAx r _ _ x a e with q | q
   ·rcases List.mem_cons.mp q with e | q
    ·cases e
     exact .inr ⟨Yx (h:=h.push { cls:=.type "cell",data:=.cell none }) ⟨_,Heap.get?_push_size _ rfl,rfl⟩ (fun o e=>pushCells_keeps _ _ _ o e),Nat.le_refl _⟩
    ·exact .inl q
   ·exact .inr ⟨q.1,by have:=q.2; rw [Heap.size_push] at this; exact Ze10 this⟩
  ·rename_i hk
   rw [if_neg hk]
   exact YAx r _ _ x a e
theorem YAR:∀ (l:List (Str×NameKind)) (n:Nat) (acc:List (Str×Addr)),(∀ p∈acc,p.2<n)→acc.Pairwise (fun x y=>x.2≠y.2)→(cellsFrom n l acc).Pairwise fun x y=>x.2≠y.2
 | [],_,_,_,h=>h
 | (y,k)::r,n,acc,hl,h=>by
  unfold cellsFrom
  split
  ·refine YAR r (n+1) _ (fun p q=>?_) (List.pairwise_cons.mpr ⟨fun p q e=>?_,h⟩)
   ·rcases List.mem_cons.mp q with rfl | q
    ·exact Nat.lt_succ_self _
    ·exact Nat.lt_succ_of_lt (hl p q)
   ·have e:n=p.2:=e
    exact Nat.lt_irrefl _ (e▸hl p q)
  ·exact YAR r n _ hl h
theorem YDY (scope:Scope) (env:Env) (x:Str):((relabel scope env).names.lookup x=scope.names.lookup x)∨(scope.names.lookup x=some .free∧(relabel scope env).names.lookup x=some .cell):=by
 unfold relabel
 dsimp only
 generalize scope.names=l
 induction l with
 | nil=>exact .inl rfl
 | cons p r ih=>
  obtain ⟨n,k⟩:=p
  rw [List.map_cons]
  dsimp only
  by_cases hx:(x==n)=true
  ·have e:x=n:=by simpa using hx
   subst e
   by_cases hc:(k==NameKind.free&&env.scope.kind==ScopeKind.function&&env.kindOf x==some NameKind.cell)=true
   ·rw [if_pos hc]
    simp only [Bool.and_eq_true,beq_iff_eq] at hc
    exact .inr ⟨by rw [hc.1.1,List.lookup_cons,beq_self_eq_true],by rw [List.lookup_cons,beq_self_eq_true]⟩
   ·rw [if_neg hc]
    exact .inl (by rw [List.lookup_cons,List.lookup_cons,beq_self_eq_true])
  ·have hx':(x==n)=false:=by simpa using hx
   have e1:List.lookup x ((n,k)::r)=List.lookup x r:=by rw [List.lookup_cons,hx']
   have e2:∀ p:Str×NameKind,p.1=n→∀ r',List.lookup x (p::r')=List.lookup x r':=fun p hp r'=>by
    obtain ⟨a,b⟩:=p
    have hp:a=n:=hp
    subst hp
    rw [List.lookup_cons,hx']
   rw [e1,e2 _ (by split <;> rfl)]
   exact ih
theorem YAn:∀ (nm ts:List Str) (x:Str),slot (nm++ts) x=match slot ts x with
  | some i=>some (nm.length+i)
  | none=>slot nm x
 | [],ts,x=>by cases h:slot ts x <;> simp [slot,h]
 | y::r,ts,x=>by
  show (match slot (r++ts) x with | some i=>some (i+1) | none=>if y=x then some 0 else none)=_
  rw [YAn r ts x]
  cases h:slot ts x with
  | some i=>simp only [List.length_cons,Option.some.injEq]; exact Ze11
  | none=>rfl
theorem YFL:∀ {ts:List Str} {x:Str},slot ts x=none↔x∉ts
 | [],x=>by simp [slot]
 | y::r,x=>by
  unfold slot
  have ih:=@YFL r x
  cases h:slot r x with
  | some i=>
   rw [h] at ih
   have:x∈r:=Classical.byContradiction fun q=>by have:=ih.mpr q; cases this
   simp [this]
  | none=>
   have hr:=ih.mp h
   by_cases e:y=x
   ·simp [e]
   ·simp [e,Ne.symm e,hr]
theorem Ye {x:Str} {k:NameKind} {l:List (Str×NameKind)} (h:l.lookup x=some k):(x,k)∈l:=by
 induction l with
 | nil=>cases h
 | cons p r ih=>
  obtain ⟨y,k'⟩:=p
  rw [List.lookup_cons] at h
  by_cases e:(x==y)=true
  ·rw [e] at h; cases h; have:x=y:=by simpa using e
   subst this; exact List.mem_cons_self ..
  ·have e':(x==y)=false:=by simpa using e
   rw [e'] at h; exact List.mem_cons_of_mem _ (ih h)
theorem YV {x:Str} {k:NameKind} {l:List (Str×NameKind)} (hn:(l.map (·.1)).Nodup) (h:(x,k)∈l):l.lookup x=some k:=by
 induction l with
 | nil=>cases h
 | cons p r ih=>
  obtain ⟨y,k'⟩:=p
  rw [List.map_cons,List.nodup_cons] at hn
  rw [List.lookup_cons]
  rcases List.mem_cons.mp h with e | e
  ·cases e; rw [beq_self_eq_true]
  ·have:(x==y)=false:=beq_eq_false_iff_ne.mpr fun q=>hn.1 (by rw [←q]; exact List.mem_map_of_mem (f:=(·.1)) e)
   rw [this]; exact ih hn.2 e
section
variable {M:Model} {A:Around} {E:Value→Shared→Prop} {s:Shared} {rd:YE} {H₀:Heap} {μ:Own} {σ:List AO} {env:Env} {c:Cx} {ρ:List (Option AV)}
theorem compFrame {scope:Scope} {ts:List Str} {Q:Env→Shared→Prop} (F:FR H₀ env c.nm ρ μ s.heap) (H:HS rd H₀ μ σ s.heap) (O:EnvOk env c) (hc:compOk c scope ts=true)
  (h:∀ cenv s',Ev [] μ s μ s'→HS rd H₀ μ σ s'.heap→FR H₀ { cenv with scope:=relabel scope env } (c.into scope ts).nm (ρ++ts.map fun _=>none) μ s'.heap→EnvOk { cenv with scope:=relabel scope env } (c.into scope ts)→
   (∀ x∈ts,s.heap.get? (tgt { cenv with scope:=relabel scope env } x)=none)→s.heap.get? cenv.locals=none→(∀ a∈YA { cenv with scope:=relabel scope env },a∈YA env∨s.heap.get? a=none)→Q cenv s'):
  wpAny M A (newFunctionEnv scope env.globals (closOf env.cells scope.names []) [] env.qual none .none (some env)) Q E s:=by
 unfold compOk at hc
 simp only [Bool.and_eq_true,beq_iff_eq,decide_eq_true_eq,List.all_eq_true,Bool.or_eq_true] at hc
 obtain ⟨⟨⟨hk,hnd⟩,hts⟩,hall⟩:=hc
 have hfree:∀ p∈scope.names,p.2=.free→c.names.lookup p.1=some .cell∨c.names.lookup p.1=some .free:=fun p hp e=>by
  have:=hall p hp
  rw [e] at this
  simpa using this
 have hfc:∀ p∈scope.names,p.2=.free→(env.cells.lookup p.1).isSome=true:=fun p hp e=>O.cells _ (hfree p hp e)
 simp only [newFunctionEnv,Option.isSome_some,if_true]
 refine wpAny_bind (wpAny_alloc ?_)
 refine wpAny_bind (wpAny_layCells _ (fun name kind cells=>by cases hkc:kind==NameKind.cell <;> simp [hkc]) _ _ _ _ ?_)
 rw [List.forIn_nil]
 refine wpAny_bind (wpAny_pure (wpAny_pure ?_))
 generalize hh1:s.heap.push { cls:=.type "dict",data:=.dict #[] }=h1
 have hsz:h1.objs.size=s.heap.objs.size+1:=by rw [←hh1,Heap.size_push]
 rw [show ({ s with heap:=h1 }:Shared).heap.objs.size=h1.objs.size from rfl]
 generalize hcl:closOf env.cells scope.names []=cl
 have k1:∀ a o,s.heap.get? a=some o→h1.get? a=some o:=fun a o e=>by rw [←hh1]; exact Heap.get?_push_of_some _ e
 have k2:∀ a o,h1.get? a=some o→(pushCells h1 scope.names).get? a=some o:=fun a o e=>pushCells_keeps _ _ a o e
 have kk:∀ a o,s.heap.get? a=some o→(pushCells h1 scope.names).get? a=some o:=fun a o e=>k2 a o (k1 a o e)
 have hcle:∀ x a,(x,a)∈cl→(x,a)∈env.cells∧(x,NameKind.free)∈scope.names:=fun x a hx=>by
  rw [←hcl] at hx
  rcases YCG _ _ _ _ _ hx with q | ⟨q,e⟩
  ·cases q
  ·obtain ⟨b,hb⟩:=Option.isSome_iff_exists.mp (hfc _ q rfl)
   rw [hb] at e
   simp only [Option.getD_some] at e
   subst e
   exact ⟨mem_of_lookup hb,q⟩
 have hlt:∀ x a,(x,a)∈env.cells→a<s.heap.objs.size:=fun x a hx=>by
  obtain ⟨v,o,ho,_⟩:=F.cells x a hx
  exact Heap.lt_size ho
 have ev:Ev [] μ s μ { s with heap:=pushCells h1 scope.names }:=Ev.keeps (tk:=s.toks) kk
 have H':HS rd H₀ μ σ (pushCells h1 scope.names):=H.keep0 kk
 have hloc:(pushCells h1 scope.names).Ns s.heap.objs.size (fun _=>none):=YET (h:=h1) (by rw [←hh1]; exact Heap.Ns.new s.heap (.type "dict")) (fun o e=>k2 _ o e)
 have hnone:s.heap.get? s.heap.objs.size=none:=YN _
 have hfresh:∀ a,s.heap.objs.size≤a→s.heap.get? a=none:=fun a ha=>Heap.get?_none_of_le ha
 have hkinds:∀ x,(relabel scope env).names.lookup x=scope.names.lookup x∨(scope.names.lookup x=some .free∧(relabel scope env).names.lookup x=some .cell):=YDY scope env
 have hcells:∀ x a,(x,a)∈cellsFrom h1.objs.size scope.names cl→(x,a)∈cl∨((pushCells h1 scope.names).IsCell a none∧h1.objs.size≤a):=fun x a=>YAx _ _ _ _ _
 have hcell:∀ x,(x,NameKind.cell)∈scope.names→∃ a,(cellsFrom h1.objs.size scope.names cl).lookup x=some a∧h1.objs.size≤a:=fun x hx=>by
  have q:=PySem.W.cellsFrom_some scope.names h1.objs.size cl (.inl (YV hnd hx))
  obtain ⟨a,ha⟩:=Option.isSome_iff_exists.mp q
  refine ⟨a,ha,?_⟩
  rcases YAp _ _ _ _ _ (mem_of_lookup ha) with e | e
  ·have:=(hcle x a e).2
   have e2:=YV hnd this
   rw [YV hnd hx] at e2
   cases e2
  ·exact e.2
 have hfreel:∀ x,(x,NameKind.free)∈scope.names→(cellsFrom h1.objs.size scope.names cl).lookup x=env.cells.lookup x:=fun x hx=>by
  rw [YAZ _ _ _ (fun q=>by
   have e2:=YV hnd hx
   rw [YV hnd q] at e2
   cases e2),←hcl]
  obtain ⟨a,ha⟩:=Option.isSome_iff_exists.mp (hfc _ hx rfl)
  rcases YBx env.cells x _ [] hx with q | q
  ·rw [q,ha]; rfl
  ·exact q.elim
 refine h _ _ ev H' ⟨hk,F.glob,F.blt,⟨_,hloc⟩,?_,?_,?_,?_,?_⟩ ⟨?_,?_⟩ ?_ hnone ?_
 ·intro x a hx
  rcases hcells x a hx with q | q
  ·obtain ⟨v,hv⟩:=F.cells x a (hcle x a q).1
   exact ⟨v,Yx hv (fun o e=>kk _ o e)⟩
  ·exact ⟨none,q.1⟩
 ·intro a ha
  have new:s.heap.objs.size≤a→a∉μ.all∧H₀.get? a=none:=fun hle=>⟨H.fresh (hfresh a hle),by
   cases q:H₀.get? a with
   | none=>rfl
   | some o=>have:=H.base a o q; rw [hfresh a hle] at this; cases this⟩
  rcases List.mem_cons.mp ha with rfl | ha
  ·exact new (Nat.le_refl _)
  ·obtain ⟨⟨x,b⟩,hp,rfl⟩:=List.mem_map.mp ha
   rcases hcells x b hp with q | q
   ·exact F.own _ (List.mem_cons_of_mem _ (List.mem_map.mpr ⟨_,(hcle x b q).1,rfl⟩))
   ·exact new (by have:=q.2; rw [hsz] at this; exact Nat.le_of_succ_le this)
 ·refine YAR _ _ _ (fun p hp=>?_) ?_
  ·have:=hlt p.1 p.2 (hcle p.1 p.2 hp).1
   rw [hsz]; exact Nat.lt_succ_of_lt this
  ·rw [←hcl]
   exact YBB F.apart _ _ hnd hfc (fun _ q=>(nomatch q)) .nil
 ·show (c.nm++ts).length=_
  rw [List.length_append,List.length_append,List.length_map,F.len]
 ·intro x i v h1' h2 h3
  have h1':slot (c.nm++ts) x=some i:=h1'
  rw [YAn] at h1'
  cases hts':slot ts x with
  | some j=>
   rw [hts'] at h1'
   cases h1'
   rw [F.len,List.getElem?_append_right (by exact Ze12)] at h2
   simp only [List.getElem?_map,Option.map_eq_some_iff] at h2
   obtain ⟨_,_,e⟩:=h2
   cases e
  | none=>
   rw [hts'] at h1'
   have hnx:x∉ts:=YFL.mp hts'
   have hi:=YGM h1'
   rw [List.getElem?_append_left (by rw [←F.len]; exact hi)] at h2
   have hxf:(x,NameKind.free)∈scope.names:=by
    have h3':visK (scope.names.lookup x)=true:=by
     have h3:(relabel scope env).names.lookup x=some .local∨(relabel scope env).names.lookup x=some .cell∨(relabel scope env).names.lookup x=some .free:=h3
     rcases hkinds x with e | ⟨e,e'⟩
     ·rw [e] at h3; rcases h3 with q | q | q <;> rw [q] <;> rfl
     ·rw [e]; rfl
    cases hl:scope.names.lookup x with
    | none=>rw [hl] at h3'; cases h3'
    | some k=>
     have hm:=Ye hl
     have ha:=hall _ hm
     cases k with
     | «local»=>
      simp only [List.contains_iff_mem,Bool.or_eq_true,beq_iff_eq] at ha
      rcases ha with q | q
      ·exact absurd q hnx
      ·rw [q] at h1'; cases h1'
     | cell=>simp only [List.contains_iff_mem] at ha; exact absurd ha hnx
     | free=>exact hm
     | globalExplicit=>cases ha
     | globalImplicit=>rw [hl] at h3'; cases h3'
   have hvis:Vis env x:=by
    refine O.vis ?_
    rcases hfree _ hxf rfl with q | q <;> rw [q] <;> rfl
   obtain ⟨rv,hr,hv⟩:=F.vars x i v h1' h2 hvis
   refine ⟨rv,?_,ev.rv0 hv⟩
   have hkx:(relabel scope env).names.lookup x=some .cell∨(relabel scope env).names.lookup x=some .free:=by
    rcases hkinds x with e | ⟨_,e⟩
    ·exact .inr (e.trans (YV hnd hxf))
    ·exact .inl e
   rcases hr with ⟨kl,_⟩ | ⟨_,a,ha,hcl'⟩
   ·exfalso
    rcases O.kind x with q | ⟨_,q⟩
    ·rcases hfree _ hxf rfl with z | z <;> (rw [q,z] at kl; cases kl)
    ·rw [q] at kl; cases kl
   ·exact .inr ⟨hkx,a,(hfreel x hxf).trans ha,Yx hcl' (fun o e=>kk _ o e)⟩
 ·intro x
  rcases hkinds x with e | ⟨e,e'⟩
  ·exact .inl e
  ·exact .inr ⟨e,e'⟩
 ·intro x hx
  rcases hx with q | q
  ·obtain ⟨a,ha,_⟩:=hcell x (Ye q)
   show ((cellsFrom h1.objs.size scope.names cl).lookup x).isSome=true
   rw [ha]; rfl
  ·have hm:=Ye q
   show ((cellsFrom h1.objs.size scope.names cl).lookup x).isSome=true
   rw [hfreel x hm]; exact hfc _ hm rfl
 ·intro x hx
  have hx':=hts x hx
  unfold tgt
  split
  ·exact hnone
  ·rename_i hnl
   have hcl':scope.names.lookup x=some .cell:=by
    rcases hx' with q | q
    ·exfalso
     apply hnl
     rcases hkinds x with e | ⟨e,_⟩
     ·exact e.trans q
     ·rw [q] at e; cases e
    ·exact q
   obtain ⟨a,ha,hle⟩:=hcell x (Ye hcl')
   show s.heap.get? (((cellsFrom h1.objs.size scope.names cl).lookup x).getD 0)=none
   rw [ha]
   exact hfresh a (by rw [hsz] at hle; exact Nat.le_of_succ_le hle)
 ·intro a ha
  rcases List.mem_cons.mp ha with rfl | ha
  ·exact .inr hnone
  ·obtain ⟨⟨x,b⟩,hp,rfl⟩:=List.mem_map.mp ha
   rcases hcells x b hp with q | q
   ·exact .inl (List.mem_cons_of_mem _ (List.mem_map.mpr ⟨_,(hcle x b q).1,rfl⟩))
   ·exact .inr (hfresh b (by have:=q.2; rw [hsz] at this; exact Nat.le_of_succ_le this))
end
noncomputable def ItR (μ:Own) (h:Heap) (v:AV) (i:Nat) (I:Addr):Prop:=match v with
 | .rng a b c=>IsRangeIter h I (a+c*i) ((rlen a b c:Int)-i) c
 | .str s=>∃ t,h.IsStrIter I "str_ascii_iterator" ⟨s.toArray⟩ t i
 | v=>∃ l,RV μ h v (.ref l)∧h.IsListIter I l i
set_option genInjectivity false in
structure ItAt (H₀:Heap) (μ:Own) (h:Heap) (v:AV) (i:Nat) (I:Addr):Prop where
 itr:ItR μ h v i I
 own:I∉μ.all
 base:H₀.get? I=none
theorem ItR.frObj {μ:Own} {h:Heap} {v:AV} {i:Nat} {I:Addr} (r:ItR μ h v i I):FrObj h I:=by
 have li:∀ l,h.IsListIter I l i→FrObj h I:=fun l ⟨o,ho,hc,hd⟩=>⟨o,ho,.inr (.inr ⟨by rw [hc]; decide,_,_,_,hd,rfl⟩)⟩
 cases v with
 | rng a b c=>exact ⟨_,r,.inr (.inr ⟨by simp,_,_,_,rfl,rfl⟩)⟩
 | str s=>obtain ⟨t,o,ho,hc,hd⟩:=r; exact ⟨o,ho,.inr (.inr ⟨by rw [hc]; decide,_,_,_,hd,rfl⟩)⟩
 | _=>obtain ⟨l,_,q⟩:=r; exact li l q
theorem ItAt.some {H₀:Heap} {μ:Own} {h:Heap} {v:AV} {i:Nat} {I:Addr} (r:ItAt H₀ μ h v i I):∃ o,h.get? I=some o:=
 let ⟨o,ho,_⟩:=r.itr.frObj; ⟨o,ho⟩
theorem ItAt.ev {H₀:Heap} {X:List Addr} {μ μ':Own} {s s':Shared} {v:AV} {i:Nat} {I:Addr} (r:ItAt H₀ μ s.heap v i I) (e:Ev X μ s μ' s') (hX:∀ a∈X,FrObj s.heap a) (hI:I∉X):ItAt H₀ μ' s'.heap v i I:=by
 obtain ⟨o,ho⟩:=r.some
 have k:=e.keep I o ho (fun q=>r.own (Own.os_all q)) hI
 refine ⟨?_,YCN e.ext ho r.own,r.base⟩
 have li:∀ l,s.heap.IsListIter I l i→s'.heap.IsListIter I l i:=fun l ⟨o',ho',hc,hd⟩=>⟨o',by rw [ho] at ho'; cases ho'; exact k,hc,hd⟩
 have q:=r.itr
 cases v with
 | rng a b c=>have q:s.heap.get? I=_:=q; rw [ho] at q; cases q; exact k
 | str x=>obtain ⟨t,o',ho',hc,hd⟩:=q; exact ⟨t,o',by rw [ho] at ho'; cases ho'; exact k,hc,hd⟩
 | _=>obtain ⟨l,rv,q⟩:=q; exact ⟨l,e.rv hX rv,li l q⟩
theorem rsize0 {a b c:Int}:0≤Builtin.Range.rangeSize a b c:=by
 by_cases h:c=0
 ·subst h
  unfold Builtin.Range.rangeSize
  simp
  split <;> decide
 ·exact (rsize h).1
theorem YCI (σ:List AO) (v:AV):(∃ a b c,v=.rng a b c)∨(∃ x,v=.str x)∨((∀ i,nthA σ v i=(items σ v).map fun vs=>vs[i]?)∧∀ μ h i I,ItR μ h v i I=∃ l,RV μ h v (.ref l)∧h.IsListIter I l i):=by
 cases v with
 | rng a b c=>exact .inl ⟨a,b,c,rfl⟩
 | str x=>exact .inr (.inl ⟨x,rfl⟩)
 | _=>exact .inr (.inr ⟨fun _=>rfl,fun _ _ _ _=>rfl⟩)
section
variable {A:Around} {E:Value→Shared→Prop} {s:Shared} {rd:YE} {H₀:Heap} {μ:Own} {σ:List AO} {prog:Program} {w:World}
theorem HS.push {o:Obj} {tk:Nat} (H:HS rd H₀ μ σ s.heap):Ev [] μ s μ { s with heap:=s.heap.push o,toks:=tk }∧HS rd H₀ μ σ (s.heap.push o)∧s.heap.get? s.heap.objs.size=none∧s.heap.objs.size∉μ.all∧H₀.get? s.heap.objs.size=none:=by
 have kk:∀ a p,s.heap.get? a=some p→(s.heap.push o).get? a=some p:=fun a p e=>Heap.get?_push_of_some _ e
 have hf:s.heap.get? s.heap.objs.size=none:=YN _
 refine ⟨Ev.keeps kk,H.keep0 kk,hf,H.fresh hf,?_⟩
 cases q:H₀.get? s.heap.objs.size with
 | none=>rfl
 | some o=>have:=H.base _ o q; rw [hf] at this; cases this
theorem YJq {v:AV} {rv:Value} {a:Option AV} {Q:Value→Shared→Prop} (r:RV μ s.heap v rv) (hn:nthA σ v 0=some a) (H:HS rd H₀ μ σ s.heap)
  (h:∀ I s',s.heap.get? I=none→Ev [] μ s μ s'→HS rd H₀ μ σ s'.heap→ItAt H₀ μ s'.heap v 0 I→Q (.ref I) s'):wpAny (model prog w) A (pyIter rv) Q E s:=by
 rcases YCI σ v with ⟨a',b,c,rfl⟩ | ⟨x,rfl⟩ | ⟨e1,e2⟩
 ·cases r with
  | rng p n sm=>
   refine wpAny_pyIter_range p sm ?_
   obtain ⟨ev,H',hf,ho,hb⟩:=H.push (s:=s) (tk:=s.toks) (o:={ cls:=.type "range_iterator",data:=.fields #[rawInt a',rawInt (Builtin.Range.rangeSize a' b c),rawInt c] })
   refine h _ _ hf ev H' ⟨?_,ho,hb⟩
   show (s.heap.push _).get? _=_
   rw [Heap.get?_push_size _ rfl]
   have:=@rsize0 a' b c
   unfold rlen
   simp [Int.toNat_of_nonneg this]
 ·cases r with
  | str _ t=>
   have ha:asciiL x=true:=by
    simp only [nthA] at hn
    by_cases q:asciiL x=true
    ·exact q
    ·rw [if_neg q] at hn; cases hn
   refine wpAny_pyIter_ascii (by simpa [asciiL] using ha) ?_
   obtain ⟨ev,H',hf,ho,hb⟩:=H.push (s:=s) (tk:=s.toks) (o:={ cls:=.type "str_ascii_iterator",data:=.fields #[.str ⟨x.toArray⟩ t,.int 0 0] })
   exact h _ _ hf ev H' ⟨⟨t,_,Heap.get?_push_size _ rfl,rfl,rfl⟩,ho,hb⟩
 ·rw [e1] at hn
  cases hv:items σ v with
  | none=>rw [hv] at hn; cases hn
  | some vs=>
   obtain ⟨l,xs,rfl,p,q⟩:=YJ H hv r
   refine wpAny_pyIter_list p.isList ?_
   obtain ⟨ev,H',hf,ho,hb⟩:=H.push (s:=s) (tk:=s.toks) (o:={ cls:=.type "list_iterator",data:=.fields #[.ref l,.int 0 0] })
   refine h _ _ hf ev H' ⟨?_,ho,hb⟩
   rw [e2]
   exact ⟨l,ev.rv0 r,⟨_,Heap.get?_push_size _ rfl,rfl,rfl⟩⟩
theorem HS.but {I:Addr} {h h':Heap} (H:HS rd H₀ μ σ h) (hf:FrObj h I) (ho:I∉μ.all) (hb:H₀.get? I=none) (hk:∀ b o,b≠I→h.get? b=some o→h'.get? b=some o):HS rd H₀ μ σ h':=
 H.keep (X:=[I]) (fun a o e _ n=>hk a o (fun q=>n (by simp [q])) e) (fun a ha=>by rw [List.mem_singleton.mp ha]; exact hf) (fun a ha=>by rw [List.mem_singleton.mp ha]; exact ⟨ho,hb⟩)
theorem YIf {v x:AV} {i:Nat} {I:Addr} {Q:Option Value→Shared→Prop} (it:ItAt H₀ μ s.heap v i I) (hn:nthA σ v i=some (some x)) (H:HS rd H₀ μ σ s.heap)
  (h:∀ rx s',Ev [I] μ s μ s'→HS rd H₀ μ σ s'.heap→ItAt H₀ μ s'.heap v (i+1) I→RV μ s'.heap x rx→Q (some rx) s'):wpAny (model prog w) A (pyNext (.ref I)) Q E s:=by
 have fo:=it.itr.frObj
 have ev:∀ h' tk,Heap.SameBut I s.heap h'→(∃ o,h'.get? I=some o)→Ev [I] μ s μ { s with heap:=h',toks:=tk }∧HS rd H₀ μ σ h':=fun h' tk hs ⟨o',ho'⟩=>by
  have kk:=fun b o (q:b≠I) (e:s.heap.get? b=some o)=>(hs.2 b q).trans e
  refine ⟨⟨⟨_,_,rfl⟩,⟨[],(Own.add_nil _).symm,fun _ q=>(nomatch q)⟩,fun b o e _ q=>kk b o (fun z=>q (by simp [z])) e,fun b e=>?_⟩,H.but fo it.own it.base kk⟩
  by_cases q:b=I
  ·subst q; rw [show h'.get? b=_ from ho'] at e; cases e
  ·rw [←hs.2 b q]; exact e
 rcases YCI σ v with ⟨a,b,c,rfl⟩ | ⟨y,rfl⟩ | ⟨e1,e2⟩
 ·simp only [nthA] at hn
  have hi:i<rlen a b c:=by
   by_cases q:i<rlen a b c
   ·exact q
   ·rw [if_neg q] at hn; cases hn
  rw [if_pos hi] at hn
  cases hn
  refine wpAny_pyNext_range_item it.itr (by exact Zi46 hi) fun h' hit' hs'=>?_
  obtain ⟨e,H'⟩:=ev h' (s.toks+1) hs' ⟨_,hit'⟩
  refine h _ _ e H' ⟨?_,it.own,it.base⟩ (.int _ _)
  show IsRangeIter h' I (a+c*(i+1:Nat)) ((rlen a b c:Int)-(i+1:Nat)) c
  rw [show a+c*((i+1:Nat):Int)=a+c*i+c by rw [Int.natCast_add,Int.mul_add]; lia,show ((rlen a b c:Int)-(i+1:Nat))=(rlen a b c:Int)-i-1 by exact Zi47]
  exact hit'
 ·simp only [nthA] at hn
  have ha:asciiL y=true:=by
   by_cases q:asciiL y=true
   ·exact q
   ·rw [if_neg q] at hn; cases hn
  rw [if_pos ha] at hn
  obtain ⟨t,hit⟩:=it.itr
  cases hy:y[i]? with
  | none=>rw [hy] at hn; cases hn
  | some c=>
   rw [hy] at hn
   cases hn
   refine wpAny_pyNext_ascii_item hit (c:=c) (by simpa using hy) fun h' hit' hs'=>?_
   obtain ⟨e,H'⟩:=ev h' (s.toks+1) hs' (let ⟨o,q,_⟩:=hit'; ⟨o,q⟩)
   exact h _ _ e H' ⟨⟨t,hit'⟩,it.own,it.base⟩ (.str [c] _)
 ·rw [e1] at hn
  cases hv:items σ v with
  | none=>rw [hv] at hn; cases hn
  | some vs=>
   rw [hv] at hn
   have hn:vs[i]?=some x:=by simpa using hn
   have q:=it.itr
   rw [e2] at q
   obtain ⟨l,rv,hit⟩:=q
   obtain ⟨l',xs,q,p,rs⟩:=YJ H hv rv
   cases q
   obtain ⟨rx,hx,rx'⟩:=rs.get hn
   refine wpAny_pyNext_list_item hit p.isList (x:=rx) (by simpa using hx) fun h' hit' hs'=>?_
   obtain ⟨e,H'⟩:=ev h' s.toks hs' (let ⟨o,q,_⟩:=hit'; ⟨o,q⟩)
   refine h _ _ e H' ⟨?_,it.own,it.base⟩ (e.rv (fun a ha=>by rw [List.mem_singleton.mp ha]; exact fo) rx')
   rw [e2]
   exact ⟨l,e.rv (fun a ha=>by rw [List.mem_singleton.mp ha]; exact fo) rv,hit'⟩
theorem YNC {v:AV} {i:Nat} {I:Addr} {Q:Option Value→Shared→Prop} (hh:A.handled=none) (it:ItAt H₀ μ s.heap v i I) (hn:nthA σ v i=some none) (H:HS rd H₀ μ σ s.heap)
  (h:∀ s',(∃ h tk,s'={ s with heap:=h,toks:=tk })→Kept [I] [] s.heap s'.heap→HS rd H₀ μ σ s'.heap→(∀ {μ₀ s₀ X},s₀.heap.get? I=none→Ev (I::X) μ₀ s₀ μ s→Ev X μ₀ s₀ μ s')→Q none s'):wpAny (model prog w) A (pyNext (.ref I)) Q E s:=by
 have fo:=it.itr.frObj
 have ev:∀ h',Heap.ExtBut I s.heap h'→Q none { s with heap:=h' }:=fun h' hs=>by
  refine h _ ⟨h',s.toks,rfl⟩ (fun a o e _ n=>hs a o (fun q=>n (by simp [q])) e) (H.but fo it.own it.base hs) ?_
  intro μ₀ s₀ X hI e
  obtain ⟨h₁,tk,hs₁⟩:=e.same
  refine ⟨⟨h',tk,by rw [hs₁]⟩,e.ext,fun a o ha ho hx=>?_,fun a ha=>?_⟩
  ·have:a≠I:=fun q=>by rw [q,hI] at ha; cases ha
   exact hs a o this (e.keep a o ha ho (fun q=>(List.mem_cons.mp q).elim this hx))
  ·by_cases q:a=I
   ·rw [q]; exact hI
   ·refine e.alive a ?_
    cases z:s.heap.get? a with
    | none=>rfl
    | some o=>have:=hs a o q z; rw [show h'.get? a=none from ha] at this; cases this
 rcases YCI σ v with ⟨a,b,c,rfl⟩ | ⟨y,rfl⟩ | ⟨e1,e2⟩
 ·simp only [nthA] at hn
  have hi:¬i<rlen a b c:=fun q=>by rw [if_pos q] at hn; cases hn
  exact wpAny_pyNext_range_end hh it.itr (by exact Zi48 hi) ev
 ·simp only [nthA] at hn
  have ha:asciiL y=true:=by
   by_cases q:asciiL y=true
   ·exact q
   ·rw [if_neg q] at hn; cases hn
  rw [if_pos ha] at hn
  obtain ⟨t,hit⟩:=it.itr
  cases hy:y[i]? with
  | some c=>rw [hy] at hn; cases hn
  | none=>exact wpAny_pyNext_ascii_end hh hit (by simpa using hy) ev
 ·rw [e1] at hn
  cases hv:items σ v with
  | none=>rw [hv] at hn; cases hn
  | some vs=>
   rw [hv] at hn
   have hn:vs[i]?=none:=by simpa using hn
   have q:=it.itr
   rw [e2] at q
   obtain ⟨l,rv,hit⟩:=q
   obtain ⟨l',xs,q,p,rs⟩:=YJ H hv rv
   cases q
   exact wpAny_pyNext_list_end hh hit p.isList (by have:=rs.len; rw [List.getElem?_eq_none_iff] at hn; simp; exact Ze13 this hn) ev
end
noncomputable def fnNames:List (Str×Nat):=[("heappop",21),("heapreplace",28),("heapify",35),("_siftdown",42),("_siftup",49),("_substitution_cost",98),("_levenshtein_distance",105),("_law_lexer",112),("_law_word",117),("_law_dressed",122),
 ("_law_posts",127),("_law_parts",132),("_law_sub",139),("_law_table",144),("_law_farthest",149),("_law_best",154)]
noncomputable def intNames:List (Str×Int):=[("_MAX_STRING_SIZE",40),("_MOVE_COST",2),("_CASE_COST",1)]
noncomputable def lmName:Nat→Str:=fun f=>if f=70 then "_read_char" else if f=77 then "get_token" else "push_token"
noncomputable def YT:PySem.Expr→Bool
 | .Call ..=>false
 | _=>true
noncomputable def plainTest:PySem.Expr→Bool
 | .UnaryOp .Not _ _ | .BoolOp .. | .IfExp .. | .Compare ..=>false
 | _=>true
noncomputable def noPack:PySem.Expr→Bool
 | .Starred .. | .Set .. | .SetComp .. | .DictComp ..=>false
 | _=>true
theorem YCo {pe:PySem.Expr} (h:noPack pe=true) (rest:List PySem.Expr) (env:Env):starEach (pe::rest) env=(false,eval pe env)::starEach rest env:=by
 cases pe <;> first | rfl | exact nomatch h
theorem YBu {pe:PySem.Expr} (h:noPack pe=true) (env:Env) (x:Value):foldedSetIterable pe env x=pure x:=by
 cases pe <;> first | rfl | exact nomatch h
theorem YHw {pe:PySem.Expr} (h:plainTest pe=true) (env:Env) (whole:Sem Value):isTrue pe env whole=(do let v←whole; standAt pe.pos; holding [v] (truthy v)):=by
 cases pe <;> first | rfl | cases h | skip
 rename_i op _ _
 cases op <;> first | rfl | cases h
set_option genInjectivity false in
structure Base (H₀:Heap):Prop where
 nolim:H₀.NoLimit
 glob:∃ mg,H₀.Ns mainGlobals mg∧(∀ x f,fnNames.lookup x=some f→mg x=some (.ref f))∧(∀ x i,intNames.lookup x=some i→∃ t,mg x=some (.int i t))∧(∀ b,mg (biName b)=none)∧mg "reversed"=none∧mg "iter"=none
 blt:∃ mb,H₀.Ns builtinsNs mb∧(∀ b,mb (biName b)=some (biVal b))∧mb "reversed"=some (.type "reversed")∧mb "iter"=some (.builtin "iter")
set_option genInjectivity false in
structure St (rd:YE) (H₀:Heap) (c:Cx) (env:Env) (ρ:List (Option AV)) (μ:Own) (σ:List AO) (s:Shared):Prop where
 fr:FR H₀ env c.nm ρ μ s.heap
 hs:HS rd H₀ μ σ s.heap
 en:EnvOk env c
theorem St.ev {rd:YE} {H₀:Heap} {c:Cx} {env:Env} {ρ:List (Option AV)} {μ μ':Own} {σ σ':List AO} {s s':Shared} (st:St rd H₀ c env ρ μ σ s) (e:Ev [] μ s μ' s') (H:HS rd H₀ μ' σ' s'.heap):St rd H₀ c env ρ μ' σ' s':=
 ⟨st.fr.ev e,H,st.en⟩
noncomputable def CallsIn (prog:Program) (w:World) (rd:YE) (H₀:Heap) (A:Around) (Φ:Tab):Prop:=
 ∀ f as σ v σ',Φ f as σ=some (v,σ')→(∃ o fd,H₀.get? f=some o∧o.data=.func fd) ∧
  ∀ s μ xs (Q:Value→Shared→Prop) (E:Value→Shared→Prop),HS rd H₀ μ σ s.heap→RVs μ s.heap as xs→
   (∀ μ' s' rv,Ev [] μ s μ' s'→HS rd H₀ μ' σ' s'.heap→RV μ' s'.heap v rv→Q rv s')→
    codeAny (model prog w) A (.call (.ref f) ⟨xs,[]⟩) (fun r s'=>match r with | .ok (.ret v)=>Q v s' | .ok _=>False | .error e=>E e s') s
set_option genInjectivity false in
structure Ctx (prog:Program) (w:World) (rd:YE) (H₀:Heap) (A:Around) (Φ:Tab):Prop where
 base:Base H₀
 calm:Calm A
 calls:CallsIn prog w rd H₀ A Φ
noncomputable def Then (rd:YE) (H₀:Heap) (μ:Own) (s:Shared) (Q:Value→Shared→Prop) (r:AV×List AO):Prop:=∀ μ' s' rv,Ev [] μ s μ' s'→HS rd H₀ μ' r.2 s'.heap→RV μ' s'.heap r.1 rv→Q rv s'
section
variable (prog:Program) (w:World) (rd:YE) (H₀:Heap) (A:Around) (Φ:Tab)
set_option genInjectivity false in
structure OkE (e:E) (c:Cx) (pe:PySem.Expr):Prop where
 np:noPack pe=true
 run:∀ {env:Env} {ρ:List (Option AV)} {μ:Own} {σ:List AO} {s:Shared} {r:AV×List AO} {Q:Value→Shared→Prop} {E:Value→Shared→Prop},
  St rd H₀ c env ρ μ σ s→evE Φ e ρ σ=some r→Then rd H₀ μ s Q r→wpAny (model prog w) A (eval pe env) Q E s
set_option genInjectivity false in
structure OkEs (e:Es) (c:Cx) (pe:List PySem.Expr):Prop where
 np:pe.all noPack=true
 nil:pe=[]→e=.nil
 run:∀ {pos:Pos} {env:Env} {ρ:List (Option AV)} {μ:Own} {σ:List AO} {s:Shared} {r:List AV×List AO} {Q:List Value→Shared→Prop} {E:Value→Shared→Prop},
  St rd H₀ c env ρ μ σ s→evEs Φ e ρ σ=some r→(∀ μ' s' rv,Ev [] μ s μ' s'→HS rd H₀ μ' r.2 s'.heap→RVs μ' s'.heap r.1 rv→Q rv s')→wpAny (model prog w) A (spliced (backTo pos (starEach pe env))) Q E s
noncomputable def OkT (e:T) (c:Cx) (pe:PySem.Expr):Prop:=∀ {env:Env} {ρ:List (Option AV)} {μ:Own} {σ:List AO} {s:Shared} {r:Bool×List AO} {Q:Bool→Shared→Prop} {E:Value→Shared→Prop},
 St rd H₀ c env ρ μ σ s→evT Φ e ρ σ=some r→(∀ μ' s',Ev [] μ s μ' s'→HS rd H₀ μ' r.2 s'.heap→Q r.1 s')→wpAny (model prog w) A (isTrue pe env (eval pe env)) Q E s
set_option genInjectivity false in
structure OkTs (e:Ts) (c:Cx) (pe:List PySem.Expr):Prop where
 and:∀ {env:Env} {ρ:List (Option AV)} {μ:Own} {σ:List AO} {s:Shared} {r:Bool×List AO} {Q:Bool→Shared→Prop} {E:Value→Shared→Prop},
  St rd H₀ c env ρ μ σ s→evTs Φ e ρ σ=some r→(∀ μ' s',Ev [] μ s μ' s'→HS rd H₀ μ' r.2 s'.heap→Q r.1 s')→wpAny (model prog w) A (allTrue .And pe env) Q E s
 or:∀ {env:Env} {ρ:List (Option AV)} {μ:Own} {σ:List AO} {s:Shared} {r:Bool×List AO} {Q:Bool→Shared→Prop} {E:Value→Shared→Prop},
  St rd H₀ c env ρ μ σ s→evTo Φ e ρ σ=some r→(∀ μ' s',Ev [] μ s μ' s'→HS rd H₀ μ' r.2 s'.heap→Q r.1 s')→wpAny (model prog w) A (allTrue .Or pe env) Q E s
 all:∀ {env:Env} {ρ:List (Option AV)} {μ:Own} {σ:List AO} {s:Shared} {r:Bool×List AO} {Q:Bool→Shared→Prop} {E:Value→Shared→Prop},
  St rd H₀ c env ρ μ σ s→evTs Φ e ρ σ=some r→(∀ μ' s',Ev [] μ s μ' s'→HS rd H₀ μ' r.2 s'.heap→Q r.1 s')→wpAny (model prog w) A (forIn pe true fun c r=>if r=true then do let ok←isTrue c env (eval c env); pure (ForInStep.yield ok) else pure (ForInStep.yield r)) Q E s
end
@[elab_as_elim] theorem Ys {α:Type} {a r:α} {G:α→Prop} (h:some a=some r) (k:G a):G r:=Option.some.inj h▸k
section
variable {prog:Program} {w:World} {rd:YE} {H₀:Heap} {A:Around} {Φ:Tab} {E:Value→Shared→Prop} {s:Shared} {μ:Own} {σ:List AO} {c:Cx}
theorem YFG {e:Mine.E} {pe:PySem.Expr} (hp:noPack pe=true) {f:List (Option AV)→List AO→AV} (he:∀ ρ σ,evE Φ e ρ σ=some (f ρ σ,σ)) (h:∀ {env:Env} {ρ:List (Option AV)} {μ:Own} {σ:List AO} {s:Shared} {Q:Value→Shared→Prop} {E:Value→Shared→Prop},St rd H₀ c env ρ μ σ s→Kp rd H₀ μ σ s (f ρ σ) Q→wpAny (model prog w) A (eval pe env) Q E s):OkE prog w rd H₀ A Φ e c pe:=
 ⟨hp,fun {env ρ μ σ s r Q E} st e' k=>h st fun s' rv=>have e2:r=(f ρ σ,σ):=(Option.some.inj ((he ρ σ).symm.trans e')).symm; (e2▸k:Then rd H₀ μ s Q (f ρ σ,σ)) _ s' rv⟩
theorem YQP {k p}:OkE prog w rd H₀ A Φ .none c (.Constant .none k p):=YFG (f:=fun _ _=>.none) rfl (fun _ _=>rfl) fun st h=>wpAny_Constant_none (YW st.hs .none h)
theorem YPJ {b:Bool} {k p}:OkE prog w rd H₀ A Φ (.bool b) c (.Constant (.bool b) k p):=YFG (f:=fun _ _=>.bool b) rfl (fun _ _=>rfl) fun st h=>wpAny_Constant_bool (YW st.hs (.bool _) h)
theorem YJJ {b:Int} {k p}:OkE prog w rd H₀ A Φ (.int b) c (.Constant (.int b) k p):=YFG (f:=fun _ _=>.int b) rfl (fun _ _=>rfl) fun st h=>wpAny_Constant_int (YH st.hs (.int _ _) h)
theorem YSV {b:List Nat} {k p}:OkE prog w rd H₀ A Φ (.str b) c (.Constant (.str ⟨b.toArray⟩) k p):=YFG (f:=fun _ _=>.str b) rfl (fun _ _=>rfl) fun st h=>wpAny_Constant_str (YH st.hs (.str _ _) h)
theorem YGv {x:Str} {i:Nat} (h:c.rd x i=true):slot c.nm x=some i∧visK (c.names.lookup x)=true∧(x==("__debug__":Str))=false∧(x==("__classdict__":Str))=false:=by
 unfold Cx.rd at h
 simp only [Bool.and_eq_true,beq_iff_eq,Bool.not_eq_true'] at h
 exact ⟨h.1.1.1,h.1.1.2,h.1.2,h.2⟩
theorem YRx {i:Nat} {x:Str} {p:Pos} (hc:c.rd x i=true):OkE prog w rd H₀ A Φ (.var i) c (.Name x p):=⟨rfl,fun {env ρ μ σ s r Q E} st he h=>YFR he fun v hρ he=>by
 obtain ⟨h1,h2,h3,h4⟩:=YGv hc
 cases he
 exact wpAny_Name (st.fr.load (pos:=⟨0,0,0,0⟩) h1 hρ (st.en.vis h2) h3 h4 fun rv r=>YW st.hs r fun s' rv=>h _ s' rv) h3⟩
theorem YBI (H:HS rd H₀ μ σ s.heap) {a:Addr} {m:Str→Option Value} (h:H₀.Ns a m):s.heap.Ns a m:=YET h fun o e=>H.base _ o e
theorem YFa {c:Cx} {x:Str} (h:c.gl x=true):(x==("__debug__":Str))=false:=by
 unfold Cx.gl at h; simp only [Bool.and_eq_true,Bool.not_eq_true'] at h; exact h.2
theorem YGH {c:Cx} {env:Env} {ρ:List (Option AV)} {x:Str} {pos:Pos} {b:Bi} {Q:Value→Shared→Prop} (B:Base H₀) (st:St rd H₀ c env ρ μ σ s) (hg:c.gl x=true) (hx:x=biName b) (h:Q (biVal b) s):wpAny (model prog w) A (eval (.Name x pos) env) Q E s:=by
 obtain ⟨mg,h1,_,_,h2,_⟩:=B.glob
 obtain ⟨mb,h3,h4,_⟩:=B.blt
 subst hx
 exact Calls.Name_function_global st.fr.kind (st.en.gl hg) (Calls.loadGlobal_builtin (by rw [st.fr.glob]; exact YBI st.hs h1) (h2 b) (by rw [st.fr.blt]; exact YBI st.hs h3) (h4 b) h) (YFa hg)
theorem YQF {c:Cx} {env:Env} {ρ:List (Option AV)} {x:Str} {pos:Pos} {f:Nat} {Q:Value→Shared→Prop} (B:Base H₀) (st:St rd H₀ c env ρ μ σ s) (hg:c.gl x=true) (hx:fnNames.lookup x=some f) (h:Q (.ref f) s):wpAny (model prog w) A (eval (.Name x pos) env) Q E s:=by
 obtain ⟨mg,h1,h2,_⟩:=B.glob
 exact Calls.Name_function_global st.fr.kind (st.en.gl hg) (Calls.loadGlobal_global (by rw [st.fr.glob]; exact YBI st.hs h1) (h2 x f hx) h) (YFa hg)
theorem YPH {x:String} {i:Int} {y:Str} {p:Pos} (C:Ctx prog w rd H₀ A Φ) (hg:c.gl y=true) (hi:intNames.lookup y=some i):OkE prog w rd H₀ A Φ (.gint x i) c (.Name y p):=YFG (f:=fun _ _=>.int i) rfl (fun _ _=>rfl) fun st h=>by
 obtain ⟨mg,h1,_,h2,_⟩:=C.base.glob
 obtain ⟨t,ht⟩:=h2 _ _ hi
 exact Calls.Name_function_global st.fr.kind (st.en.gl hg) (Calls.loadGlobal_global (by rw [st.fr.glob]; exact YBI st.hs h1) ht (YW st.hs (.int _ _) h)) (YFa hg)
theorem YSa {op:Operator} {a b:Mine.E} {l r:PySem.Expr} {p:Pos} (C:Ctx prog w rd H₀ A Φ) (ha:OkE prog w rd H₀ A Φ a c l) (hb:OkE prog w rd H₀ A Φ b c r):OkE prog w rd H₀ A Φ (.bin op a b) c (.BinOp l op r p):=⟨rfl,fun {env ρ μ σ s r Q E} st he h=>YI he fun x e1 he=>YI he fun y e2 he=>by
 revert h; refine YBY he fun z e3 h=>?_
 exact wpAny_BinOp (ha.run st e1 fun μ1 s1 r1 v1 H1 R1=>hb.run (st.ev v1 H1) e2 fun μ2 s2 r2 v2 H2 R2=>YST e3 C.calm H2 (v2.rv0 R1) R2 fun s3 r3 v3 H3 R3=>h _ _ _ (v1.trans (v2.trans v3)) H3 R3)⟩
theorem YSH {a:Mine.E} {x:PySem.Expr} {p:Pos} (ha:OkE prog w rd H₀ A Φ a c x):OkE prog w rd H₀ A Φ (.neg a) c (.UnaryOp .USub x p):=⟨rfl,fun {env ρ μ σ s r Q E} st he h=>YI he fun x e1 he=>YFY he fun i ei he=>by
 revert h; refine Ys he fun h=>?_
 exact wpAny_UnaryOp (ha.run st e1 fun μ1 s1 r1 v1 H1 R1=>YSY H1 (ei▸R1) fun s2 r2 v2 H2 R2=>h _ _ _ (v1.trans v2) H2 R2)⟩
theorem YQe {a b:Mine.E} {x y:PySem.Expr} {p:Pos} (ha:OkE prog w rd H₀ A Φ a c x) (hb:OkE prog w rd H₀ A Φ b c y):OkE prog w rd H₀ A Φ (.orv a b) c (.BoolOp .Or [x,y] p):=⟨rfl,fun {env ρ μ σ s r Q E} st he h=>YI he fun x e1 he=>YI he fun t e2 he=>wpAny_Or2 (ha.run st e1 fun μ1 s1 r1 v1 H1 R1=>YHS e2 H1 R1 fun s2 v2 H2=>by
 cases t with
 | true=>revert h; exact Ys he fun h=>h _ _ _ (v1.trans v2) H2 (v2.rv0 R1)
 | false=>exact hb.run (st.ev (v1.trans v2) H2) he fun μ3 s3 r3 v3 H3 R3=>h _ _ _ ((v1.trans v2).trans v3) H3 R3)⟩
theorem YSu {t:T} {a b:Mine.E} {x y z:PySem.Expr} {p:Pos} (ht:OkT prog w rd H₀ A Φ t c x) (ha:OkE prog w rd H₀ A Φ a c y) (hb:OkE prog w rd H₀ A Φ b c z):OkE prog w rd H₀ A Φ (.ife t a b) c (.IfExp x y z p):=⟨rfl,fun {env ρ μ σ s r Q E} st he h=>YI he fun x e1 he=>wpAny_IfExp (ht st e1 fun μ1 s1 v1 H1=>by
 obtain ⟨t,σ1⟩:=x
 cases t with
 | true=>exact ha.run (st.ev v1 H1) he fun μ3 s3 r3 v3 H3 R3=>h _ _ _ (v1.trans v3) H3 R3
 | false=>exact hb.run (st.ev v1 H1) he fun μ3 s3 r3 v3 H3 R3=>h _ _ _ (v1.trans v3) H3 R3)⟩
theorem YRz {op:CmpOp} {a b:Mine.E} {l r:PySem.Expr} {p:Pos} (C:Ctx prog w rd H₀ A Φ) (h0:behindInMarks op r=false) (ha:OkE prog w rd H₀ A Φ a c l) (hb:OkE prog w rd H₀ A Φ b c r):OkE prog w rd H₀ A Φ (.cmp op a b) c (.Compare l [op] [r] p):=⟨rfl,fun {env ρ μ σ s r Q E} st he h=>YI he fun x e1 he=>YI he fun y e2 he=>by
 revert h; refine YBY he fun z e3 h=>?_
 exact wpAny_Compare1 (ha.run st e1 fun μ1 s1 r1 v1 H1 R1=>hb.run (st.ev v1 H1) e2 fun μ2 s2 r2 v2 H2 R2=>YHP e3 C.calm H2 (v2.rv0 R1) R2 fun s3 r3 v3 H3 R3=>h _ _ _ (v1.trans (v2.trans v3)) H3 R3) h0⟩
theorem YOH {as:Es} {args:List PySem.Expr} (ha:OkEs prog w rd H₀ A Φ as c args) {env:Env} {ρ:List (Option AV)} {pos:Pos} {f:Value} {r:List AV×List AO} {Q:Args→Shared→Prop}
  (st:St rd H₀ c env ρ μ σ s) (he:evEs Φ as ρ σ=some r) (h:∀ μ' s' xs,Ev [] μ s μ' s'→HS rd H₀ μ' r.2 s'.heap→RVs μ' s'.heap r.1 xs→Q ⟨xs,[]⟩ s'):
  wpAny (model prog w) A (evalArgs f true (backTo pos (starEach args env)) []) Q E s:=by
 cases args with
 | nil=>
  have e:=ha.nil rfl
  subst e
  revert h
  exact Ys he fun h=>evalArgs_nil3 (h _ _ _ (Ev.refl ..) st.hs .nil)
 | cons p q=>
  have hp:noPack p=true:=(Bool.and_eq_true_iff.mp ha.np).1
  have:=ha.run (pos:=pos) st he (E:=E) fun μ' s' xs v H R=>h μ' s' xs v H R
  rw [YCo hp] at this ⊢
  exact PySem.Calls.evalArgs_plain this
theorem noStar {env:Env} {pos:Pos}:∀ {args:List PySem.Expr},args.all noPack=true→(backTo pos (starEach args env)).any (·.1)=false:=by
 intro args
 induction args with
 | nil=>intro _; rfl
 | cons p r ih=>
  intro hc
  have hc:=Bool.and_eq_true_iff.mp hc
  rw [YCo hc.1]
  exact ih hc.2
theorem YEm {P:Heap→Prop} {f:Nat} (hf:∀ h,P h→∃ o fd,h.get? f=some o∧o.data=.func fd) (h:Heap) (p:P h):∃ k,(k=Keeper.frame∨k=Keeper.machine∨k=Keeper.boundFrame)∧W.Looks (model prog w) h (keeperOf (.ref f)) k:=by
 obtain ⟨o,fd,h1,h2⟩:=hf h p
 refine ⟨.frame,.inl rfl,(W.Looks.ld (part:=none) h1).andThen ?_⟩
 obtain ⟨c,d,dt,sl⟩:=o
 cases h2
 exact .now
theorem YEP {P:Heap→Prop} {b:String} (h:Heap) (_:P h):∃ k,(k=Keeper.frame∨k=Keeper.machine∨k=Keeper.boundFrame)∧W.Looks (model prog w) h (keeperOf (.builtin b)) k:=
 ⟨.machine,.inr (.inl rfl),.now⟩
theorem YGp {P:Heap→Prop} {b:String} (h:Heap) (_:P h):∃ k,(k=Keeper.frame∨k=Keeper.machine∨k=Keeper.boundFrame)∧W.Looks (model prog w) h (keeperOf (.type b)) k:=
 ⟨.machine,.inr (.inl rfl),.now⟩
theorem YBg {P:Heap→Prop} {b:Bi} (h:Heap) (p:P h):∃ k,(k=Keeper.frame∨k=Keeper.machine∨k=Keeper.boundFrame)∧W.Looks (model prog w) h (keeperOf (biVal b)) k:=by
 cases b <;> first | exact YEP h p | exact YGp h p
theorem YAT {as:Es} {args:List PySem.Expr} (ha:OkEs prog w rd H₀ A Φ as c args) {env:Env} {ρ:List (Option AV)} {pos:Pos} {f:Value} {first:List Value} {r:List AV×List AO} {Q:Value→Shared→Prop} {P:Heap→Prop}
  (st:St rd H₀ c env ρ μ σ s) (he:evEs Φ as ρ σ=some r) (hk:∀ h,P h→∃ k,(k=Keeper.frame∨k=Keeper.machine∨k=Keeper.boundFrame)∧W.Looks (model prog w) h (keeperOf f) k)
  (h:∀ μ' s' xs,Ev [] μ s μ' s'→HS rd H₀ μ' r.2 s'.heap→RVs μ' s'.heap r.1 xs→P s'.heap∧wpAny (model prog w) A (call f (first++xs)) Q E s'):wpAny (model prog w) A (callWith pos f first (backTo pos (starEach args env)) []) Q E s:=
 W.callWith_of (P:=P) (by rw [noStar ha.np]; rfl) hk (YOH ha st he fun μ' s' xs v H R=>h μ' s' xs v H R)
theorem YNM {f:Nat} {as:Es} {x:Str} {xp p:Pos} {args:List PySem.Expr} (C:Ctx prog w rd H₀ A Φ) (hg:c.gl x=true) (hn:fnNames.lookup x=some f) (ha:OkEs prog w rd H₀ A Φ as c args):OkE prog w rd H₀ A Φ (.call f as) c (.Call (.Name x xp) args [] p):=⟨rfl,fun {env ρ μ σ s r Q E} st he h=>YI he fun x e1 he=>by
 obtain ⟨⟨o,fd,h1,h2⟩,h3⟩:=C.calls _ _ _ _ _ he
 exact wpAny_Call_NameR (YQF C.base st hg hn (YAT (P:=fun hp=>∃ o fd,hp.get? f=some o∧o.data=.func fd) ha st e1 (YEm fun _ z=>z) fun μ1 s1 xs v1 H1 R1=>
  ⟨⟨o,fd,H1.base _ _ h1,h2⟩,wpAny_call (h3 _ _ _ _ _ H1 R1 fun μ2 s2 rv v2 H2 R2=>h _ _ _ (v1.trans v2) H2 R2)⟩))⟩
theorem YTR {b:Bi} {as:Es} {x:Str} {xp p:Pos} {args:List PySem.Expr} (C:Ctx prog w rd H₀ A Φ) (hg:c.gl x=true) (hn:x=biName b) (ha:OkEs prog w rd H₀ A Φ as c args):OkE prog w rd H₀ A Φ (.bi b as) c (.Call (.Name x xp) args [] p):=⟨rfl,fun {env ρ μ σ s r Q E} st he h=>YI he fun x e1 he=>by
 revert h; refine YBY he fun y e2 h=>?_
 exact wpAny_Call_NameR (YGH C.base st hg hn (YAT (P:=fun _=>True) ha st e1 YBg fun μ1 s1 xs v1 H1 R1=>⟨trivial,YSJ e2 C.calm H1 R1 fun s2 rv v2 H2 R2=>h _ _ _ (v1.trans v2) H2 R2⟩))⟩
theorem YDc {Q:Value→Shared→Prop} {vs:List AV} {xs:List Value} {h':Heap} {tk n:Nat} (H:HS rd H₀ μ σ s.heap) (k:∀ a o,s.heap.get? a=some o→h'.get? a=some o) (hl:h'.get? s.heap.objs.size=some (seqObj "list" xs.toArray n)) (r:∀ μ',RVs μ' h' vs xs∨RVs μ s.heap vs xs)
  (h:∀ μ' s' rv,Ev [] μ s μ' s'→HS rd H₀ μ' (σ++[.list vs]) s'.heap→RV μ' s'.heap (.loc σ.length) rv→Q rv s'):Q (.ref s.heap.objs.size) { s with heap:=h',toks:=tk }:=by
 have hf:∀ a∈[s.heap.objs.size],s.heap.get? a=none:=fun a q=>by rw [List.mem_singleton.mp q]; exact YN _
 have ev:Ev [] μ s (μ.add [[s.heap.objs.size]]) { s with heap:=h',toks:=tk }:=Ev.more hf k
 have rr:RVs (μ.add [[s.heap.objs.size]]) h' vs xs:=(r _).elim (fun q=>q) fun q=>ev.rvs0 q
 refine h _ _ _ ev (H.more (List.nodup_cons.mpr ⟨by simp,List.nodup_nil⟩) hf k (fun a q=>by rw [List.mem_singleton.mp q]; exact ⟨_,hl⟩) ⟨_,xs,rfl,⟨n,hl⟩,rr⟩) (.loc (l:=[]) ?_)
 show (μ.os++[[s.heap.objs.size]])[σ.length]?=_
 rw [H.len]
 simp
theorem YKL {as:Es} {x:Str} {xp p:Pos} {args:List PySem.Expr} (C:Ctx prog w rd H₀ A Φ) (hg:c.gl x=true) (hn:x = "list") (ha:OkEs prog w rd H₀ A Φ as c args):OkE prog w rd H₀ A Φ (.mrange as) c (.Call (.Name x xp) args [] p):=⟨rfl,fun {env ρ μ σ s r Q E} st he h=>YI he fun x e1 he=>YI he fun vs e2 he=>by
 refine wpAny_Call_NameR (YGH (b:=.list) C.base st hg hn (YAT (P:=fun _=>True) ha st e1 (YBg (b:=.list)) fun μ1 s1 xs v1 H1 R1=>⟨trivial,?_⟩))
 obtain ⟨a,b,c',ea,hl,rfl⟩:=YTt e2
 rw [ea] at R1
 unfold newL at he
 rw [List.length_map,List.length_range,if_pos hl] at he
 revert h
 refine Ys he fun h=>?_
 obtain ⟨z,rfl,R0⟩:=R1.one
 exact YFr C.calm R0 hl fun h' tk n ys k hn r=>YDc (s:=s1) H1 k hn (fun μ'=>.inl (r _ _)) fun μ2 s2 rv v2 H2 R2=>h _ _ _ (v1.trans v2) H2 R2⟩
end
section
variable {prog:Program} {w:World} {rd:YE} {H₀:Heap} {A:Around} {Φ:Tab} {E:Value→Shared→Prop} {s:Shared} {μ:Own} {σ:List AO} {c:Cx}
theorem YCH {pe:PySem.Expr} (h:YT pe=true) (name:Str) (env:Env) (whole:Sem Value):attributeBase pe name env whole=whole:=by
 cases pe <;> first | rfl | cases h
theorem YNI {env:Env} {pos:Pos} {args:List PySem.Expr} (hc:args.all noPack=true) (hn:args.length<30):((backTo pos (starEach args env)).all (fun x=>!x.1)&&(backToKw pos (keywordEach [] env)).all (fun x=>x.1.isSome)
   && decide (args.length+([]:List Keyword).length+(if ([]:List Keyword).isEmpty then 0 else 1)<30))=true:=by
 have h:=noStar (env:=env) (pos:=pos) hc
 have h1:(backTo pos (starEach args env)).all (fun x=>!x.1)=true:=by
  rw [List.all_eq_true]
  intro x hx
  rw [List.any_eq_false] at h
  exact congrArg Bool.not (Bool.eq_false_iff.mpr (h x hx))
 rw [h1]
 exact Bool.and_eq_true_iff.mpr ⟨rfl,decide_eq_true hn⟩
theorem YGl (m:Me):PlainAttrs (meT m)∧Slot (meT m) (meName m) (meId m)∧typeOf (.builtin (meId m))=pure (.type "method_descriptor"):=by
 cases m
 ·exact ⟨F.plainAttrs_list,F.slot_list_append,F.type_list_append⟩
 ·exact ⟨F.plainAttrs_list,F.slot_list_pop,F.type_list_pop⟩
 ·exact ⟨F.plainAttrs_list,F.slot_list_pop,F.type_list_pop⟩
 ·exact ⟨F.plainAttrs_list,F.slot_list_extend,F.type_list_extend⟩
 ·exact ⟨F.plainAttrs_list,F.slot_list_index,F.type_list_index⟩
 ·exact ⟨F.plainAttrs_str,F.slot_str_join,F.type_str_join⟩
 ·exact ⟨F.plainAttrs_str,F.slot_str_count,F.type_str_count⟩
 ·exact ⟨F.plainAttrs_str,F.slot_str_lower,F.type_str_lower⟩
theorem YTq {m:Me} {o:Mine.E} {as:Es} {po:PySem.Expr} {apos p:Pos} {args:List PySem.Expr} (C:Ctx prog w rd H₀ A Φ) (hb:YT po=true) (hl:(apos.endLine==p.line)=true) (hn:args.length<30) (ho:OkE prog w rd H₀ A Φ o c po) (ha:OkEs prog w rd H₀ A Φ as c args):OkE prog w rd H₀ A Φ (.me m o as) c (.Call (.Attribute po (meName m) apos) args [] p):=⟨rfl,fun {env ρ μ σ s r Q E} st he h=>YI he fun x e1 he=>YBD he fun hm he=>YI he fun y e2 he=>
 wpAny_Call_method_late (YCH hb _ _ _) (YNI ha.np hn) (by rw [hl]) rfl (ho.run st e1 fun μ1 s1 r1 v1 H1 R1=>
  have t:=YNk hm H1 R1
  ⟨meT m,meId m,(YGl m).1,(YGl m).2.1,(YGl m).2.2,t.1,t.2,YAT (P:=fun _=>True) ha (st.ev v1 H1) e2 YEP fun μ2 s2 xs v2 H2 R2=>⟨trivial,YUK he H2 (v2.rv0 R1) R2 fun s3 r3 v3 H3 R3=>h _ _ _ (v1.trans (v2.trans v3)) H3 R3⟩⟩)⟩
theorem YSO {o i:Mine.E} {po pi:PySem.Expr} {p:Pos} (C:Ctx prog w rd H₀ A Φ) (ho:OkE prog w rd H₀ A Φ o c po) (hi:OkE prog w rd H₀ A Φ i c pi):OkE prog w rd H₀ A Φ (.sub o i) c (.Subscript po pi p):=⟨rfl,fun {env ρ μ σ s r Q E} st he h=>YI he fun x e1 he=>YI he fun y e2 he=>by
 revert h; refine YBY he fun z e3 h=>?_
 exact YCW (ho.run st e1 fun μ1 s1 r1 v1 H1 R1=>hi.run (st.ev v1 H1) e2 fun μ2 s2 r2 v2 H2 R2=>YRe e3 C.calm H2 (v2.rv0 R1) R2 fun s3 r3 v3 H3 R3=>h _ _ _ (v1.trans (v2.trans v3)) H3 R3)⟩
set_option genInjectivity false in
structure OkP (prog:Program) (w:World) (rd:YE) (H₀:Heap) (A:Around) (Φ:Tab) (e:Mine.E) (c:Cx) (pe:Option PySem.Expr):Prop where
 run:∀ {env:Env} {ρ:List (Option AV)} {μ:Own} {σ:List AO} {s:Shared} {r:AV×List AO} {Q:Value→Shared→Prop} {E:Value→Shared→Prop},
  St rd H₀ c env ρ μ σ s→evE Φ e ρ σ=some r→Then rd H₀ μ s Q r→wpAny (model prog w) A (evalPart pe env) Q E s
theorem YOT {e:Mine.E} {pe:PySem.Expr} (h:OkE prog w rd H₀ A Φ e c pe):OkP prog w rd H₀ A Φ e c (some pe):=⟨fun st he k=>wpAny_evalPart_some (h.run st he k)⟩
theorem YNo:OkP prog w rd H₀ A Φ .none c none:=⟨fun {env ρ μ σ s r Q E} st he h=>by
 revert h
 exact Ys he fun h=>by
  rw [evalPart_none]
  exact wpAny_pure (h _ _ _ (Ev.refl ..) st.hs .none)⟩
theorem YRZ {o lo hi sp:Mine.E} {po:PySem.Expr} {pl ph ps:Option PySem.Expr} {p q:Pos} (ho:OkE prog w rd H₀ A Φ o c po) (hl:OkP prog w rd H₀ A Φ lo c pl) (hh:OkP prog w rd H₀ A Φ hi c ph) (hs:OkP prog w rd H₀ A Φ sp c ps):OkE prog w rd H₀ A Φ (.sli o lo hi sp) c (.Subscript po (.Slice pl ph ps q) p):=⟨rfl,fun {env ρ μ σ s r Q E} st he h=>YI he fun x e1 he=>YI he fun y e2 he=>YI he fun z e3 he=>YI he fun t e4 he=>by
 revert h; refine YBY he fun u e5 h=>?_
 exact YCW (ho.run st e1 fun μ1 s1 r1 v1 H1 R1=>wpAny_Slice (hl.run (st.ev v1 H1) e2 fun μ2 s2 r2 v2 H2 R2=>
  hh.run (st.ev (v1.trans v2) H2) e3 fun μ3 s3 r3 v3 H3 R3=>hs.run (st.ev (v1.trans (v2.trans v3)) H3) e4 fun μ4 s4 r4 v4 H4 R4=>
   YLo e5 H4 (v4.rv0 (v3.rv0 (v2.rv0 R1))) (v4.rv0 (v3.rv0 R2)) (v4.rv0 R3) R4 fun s5 r5 v5 H5 R5=>h _ _ _ (v1.trans (v2.trans (v3.trans (v4.trans v5)))) H5 R5))⟩
theorem YGe:OkEs prog w rd H₀ A Φ .nil c []:=⟨rfl,fun _=>rfl,fun {pos env ρ μ σ s r Q E} st he h=>by
 revert h
 exact Ys he fun h=>wpAny_items_nil (h _ _ _ (Ev.refl ..) st.hs .nil)⟩
theorem YEA {e:Mine.E} {es:Es} {p:PySem.Expr} {q:List PySem.Expr} (ha:OkE prog w rd H₀ A Φ e c p) (hr:OkEs prog w rd H₀ A Φ es c q):OkEs prog w rd H₀ A Φ (.cons e es) c (p::q):=⟨Bool.and_eq_true_iff.mpr ⟨ha.np,hr.np⟩,(fun e=>nomatch e),fun {pos env ρ μ σ s r Q E} st he h=>YI he fun x e1 he=>by
 revert h; refine YBY he fun y e2 h=>?_
 exact wpAny_items_cons (ha.run st e1 fun μ1 s1 r1 v1 H1 R1=>hr.run (st.ev v1 H1) e2 fun μ2 s2 r2 v2 H2 R2=>h _ _ _ (v1.trans v2) H2 (.cons (v2.rv0 R1) R2)) (YCo ha.np _ _)⟩
theorem YQd {m:Bool} {es:Es} {args:List PySem.Expr} {p:Pos} (ha:OkEs prog w rd H₀ A Φ es c args):OkE prog w rd H₀ A Φ (.lst m es) c (.List args p):=⟨rfl,fun {env ρ μ σ s r Q E} st he h=>YI he fun x e1 he=>YBD he fun hl he=>wpAny_List (ha.run st e1 fun μ1 s1 r1 v1 H1 R1=>⟨by rw [←R1.len]; exact YAF hl,by
 cases m with
 | true=>
  revert h
  exact Ys he fun h=>YDc (s:=s1) (tk:=s1.toks) H1 (fun _ _ e=>Heap.get?_push_of_some _ e) (Heap.get?_push_size _ rfl) (fun _=>.inr R1) fun μ2 s2 rv v2 H2 R2=>h _ _ _ (v1.trans v2) H2 R2
 | false=>
  revert h
  exact Ys he fun h=>YCa (s:=s1) (tk:=s1.toks) H1 R1 fun s2 rv v2 H2 R2=>h _ _ _ (v1.trans v2) H2 R2⟩)⟩
theorem YRW {es:Es} {args:List PySem.Expr} {k:Nat} {p:Pos} (ha:OkEs prog w rd H₀ A Φ es c args):OkE prog w rd H₀ A Φ (.tup es) c (.Tuple args k p):=⟨rfl,fun {env ρ μ σ s r Q E} st he h=>YI he fun x e1 he=>YBD he fun hl he=>by
 revert h
 exact Ys he fun h=>wpAny_Tuple (ha.run st e1 fun μ1 s1 r1 v1 H1 R1=>⟨by rw [←R1.len]; exact YAF hl,YGi (s:=s1) (tk:=s1.toks) H1 R1 fun s2 rv v2 H2 R2=>h _ _ _ (v1.trans v2) H2 R2⟩)⟩
theorem YQk {e:Mine.E} {pe:PySem.Expr} (hp:plainTest pe=true) (hs:OkE prog w rd H₀ A Φ e c pe):OkT prog w rd H₀ A Φ (.val e) c pe:=fun {env ρ μ σ s r Q E} st he h=>YI he fun x e1 he=>by
 revert h; refine YBY he fun t e2 h=>?_
 exact wpAny_isTrue_value (hs.run st e1 fun μ1 s1 r1 v1 H1 R1=>YHS e2 H1 R1 fun s2 v2 H2=>h _ _ (v1.trans v2) H2) (YHw hp _ _)
theorem YRa {op:CmpOp} {a b:Mine.E} {l r:PySem.Expr} {p:Pos} (C:Ctx prog w rd H₀ A Φ) (h0:behindInMarks op r=false) (ha:OkE prog w rd H₀ A Φ a c l) (hb:OkE prog w rd H₀ A Φ b c r):OkT prog w rd H₀ A Φ (.cmp op a b) c (.Compare l [op] [r] p):=fun {env ρ μ σ s r Q E} st he h=>YI he fun x e1 he=>YI he fun y e2 he=>by
 revert h; refine YBY he fun z e3 h=>?_
 exact wpAny_isTrue_Compare1 (ha.run st e1 fun μ1 s1 r1 v1 H1 R1=>hb.run (st.ev v1 H1) e2 fun μ2 s2 r2 v2 H2 R2=>YHP e3 C.calm H2 (v2.rv0 R1) R2 fun s3 r3 v3 H3 R3=>R3.bool_ (wpAny_truthy_bool (h _ _ (v1.trans (v2.trans v3)) H3))) h0
theorem YSc {t:T} {x:PySem.Expr} {p:Pos} (hs:OkT prog w rd H₀ A Φ t c x):OkT prog w rd H₀ A Φ (.not t) c (.UnaryOp .Not x p):=fun {env ρ μ σ s r Q E} st he h=>by
 revert h; refine YBY he fun x e1 h=>?_
 exact wpAny_isTrue_Not (hs st e1 fun μ1 s1 v1 H1=>h _ _ v1 H1)
theorem YRT {ts:Ts} {l:List PySem.Expr} {p:Pos} (hs:OkTs prog w rd H₀ A Φ ts c l):OkT prog w rd H₀ A Φ (.and ts) c (.BoolOp .And l p):=fun {env ρ μ σ s r Q E} st he h=>wpAny_isTrue_BoolOp (hs.and st he h)
theorem YUQ {ts:Ts} {l:List PySem.Expr} {p:Pos} (hs:OkTs prog w rd H₀ A Φ ts c l):OkT prog w rd H₀ A Φ (.or ts) c (.BoolOp .Or l p):=fun {env ρ μ σ s r Q E} st he h=>wpAny_isTrue_BoolOp (hs.or st he h)
theorem YRi {pos:Pos} {left:Value} {op:CmpOp} {r:Sem Value}:testChain pos left [op] [r]=(do
  let rv←holding [left] r
  standAt pos
  let c←operate [left,rv] (compareOp op left rv)
  holding [c] (truthy c)):=rfl
theorem YQu {pos:Pos} {left:Value} {op o2:CmpOp} {r r2:Sem Value}:testChain pos left [op,o2] [r,r2]=(do
  let rv←holding [left] r
  standAt pos
  let c←holding [left,rv] (compareOp op left rv)
  release [left,rv] [c]
  if←holding [c,rv] (truthy c) then testChain pos rv [o2] [r2] else pure false):=rfl
theorem YOl {o1 o2:CmpOp} {a b d:Mine.E} {l r1 r2:PySem.Expr} {p:Pos} (C:Ctx prog w rd H₀ A Φ) (h0:lastMarks [o1,o2] [r1,r2]=false) (ha:OkE prog w rd H₀ A Φ a c l) (hb:OkE prog w rd H₀ A Φ b c r1) (hd:OkE prog w rd H₀ A Φ d c r2):OkT prog w rd H₀ A Φ (.cmp2 o1 o2 a b d) c (.Compare l [o1,o2] [r1,r2] p):=fun {env ρ μ σ s r Q E} st he h=>YI he fun x e1 he=>YI he fun y e2 he=>YI he fun z e3 he=>by
 refine isTrue_chain (ha.run st e1 fun μ1 s1 r1 v1 H1 R1=>?_) h0
 show wpAny _ _ (testChain _ _ [_,_] [_,_]) _ _ _
 rw [YQu]
 refine wpAny_bind (wpAny_holding (hb.run (st.ev v1 H1) e2 fun μ2 s2 r2 v2 H2 R2=>?_))
 refine wpAny_bind (wpAny_standAt (wpAny_bind (wpAny_holding (YHP e3 C.calm H2 (v2.rv0 R1) R2 fun s3 r3 v3 H3 R3=>R3.bool_ ?_))))
 refine wpAny_bind (wpAny_release (wpAny_bind (wpAny_holding (wpAny_truthy_bool ?_))))
 cases z with
 | false=>
  revert h
  exact Ys he fun h=>wpAny_pure (h _ _ (v1.trans (v2.trans v3)) H3)
 | true=>
  refine YI (show (evE Φ d ρ y.2).bind _=some r from he) fun t e4 he=>?_
  revert h; refine YBY he fun u e5 h=>?_
  show wpAny _ _ (testChain _ _ [_] [_]) _ _ _
  rw [YRi]
  refine wpAny_bind (wpAny_holding (hd.run (st.ev (v1.trans (v2.trans v3)) H3) e4 fun μ4 s4 r4 v4 H4 R4=>?_))
  refine wpAny_bind (wpAny_standAt (wpAny_bind (wpAny_operating (YHP e5 C.calm H4 (v4.rv0 (v3.rv0 R2)) R4 fun s5 r5 v5 H5 R5=>R5.bool_ ?_))))
  exact wpAny_holding (wpAny_truthy_bool (h _ _ (v1.trans (v2.trans (v3.trans (v4.trans v5)))) H5))
theorem YIp:OkTs prog w rd H₀ A Φ .nil c []:=
 ⟨fun {env ρ μ σ s r Q E} st he h=>by revert h; exact Ys he fun h=>wpAny_allTrue_And_nil (h _ _ (Ev.refl ..) st.hs),fun {env ρ μ σ s r Q E} st he h=>by revert h; exact Ys he fun h=>wpAny_allTrue_Or_nil (h _ _ (Ev.refl ..) st.hs),
  fun {env ρ μ σ s r Q E} st he h=>by revert h; exact Ys he fun h=>wpAny_tests_nil (h _ _ (Ev.refl ..) st.hs)⟩
theorem YFx {env:Env} {Q:Bool→Shared→Prop} (h:Q false s):∀ l:List PySem.Expr,wpAny (model prog w) A (forIn l false fun c r=>if r=true then do let ok←isTrue c env (eval c env); pure (ForInStep.yield ok) else pure (ForInStep.yield r)) Q E s
 | []=>wpAny_pure h
 | e::r=>by
  rw [List.forIn_cons]
  exact wpAny_bind (wpAny_pure (YFx h r))
theorem YMA {t:T} {ts:Ts} {p:PySem.Expr} {q:List PySem.Expr} (ht:OkT prog w rd H₀ A Φ t c p) (hr:OkTs prog w rd H₀ A Φ ts c q):OkTs prog w rd H₀ A Φ (.cons t ts) c (p::q):=
 ⟨fun {env ρ μ σ s r Q E} st he h=>YI he fun x e1 he=>wpAny_allTrue_And_cons (ht st e1 fun μ1 s1 v1 H1=>by
  obtain ⟨b,σ1⟩:=x
  cases b with
  | true=>exact hr.and (st.ev v1 H1) he fun μ2 s2 v2 H2=>h _ _ (v1.trans v2) H2
  | false=>revert h; exact Ys he fun h=>h _ _ v1 H1),
 fun {env ρ μ σ s r Q E} st he h=>YI he fun x e1 he=>wpAny_allTrue_Or_cons (ht st e1 fun μ1 s1 v1 H1=>by
  obtain ⟨b,σ1⟩:=x
  cases b with
  | false=>exact hr.or (st.ev v1 H1) he fun μ2 s2 v2 H2=>h _ _ (v1.trans v2) H2
  | true=>revert h; exact Ys he fun h=>h _ _ v1 H1),
 fun {env ρ μ σ s r Q E} st he h=>YI he fun x e1 he=>by
  rw [List.forIn_cons]
  refine wpAny_bind (wpAny_bind (ht st e1 fun μ1 s1 v1 H1=>wpAny_pure ?_))
  obtain ⟨b,σ1⟩:=x
  cases b with
  | true=>exact hr.all (st.ev v1 H1) he fun μ2 s2 v2 H2=>h _ _ (v1.trans v2) H2
  | false=>revert h; exact Ys he fun h=>YFx (h _ _ v1 H1) _⟩
end
noncomputable def Own.hide (μ:Own) (D:Addr):Own:=⟨D::μ.pv,μ.os⟩
theorem Own.hide_all (μ:Own) (D a:Addr):a∈(μ.hide D).all↔a=D∨a∈μ.all:=by simp [Own.hide,Own.all,or_assoc]
theorem RV.own {μ₁ μ₂:Own} {h:Heap} (ho:∀ (n:Nat) (l:List Addr),μ₁.os[n]?=some l→μ₂.os[n]?=some l) (ha:∀ a ob,h.get? a=some ob→a∉μ₁.all→a∉μ₂.all) {v:AV} {x:Value} (r:RV μ₁ h v x):RV μ₂ h v x:=
 r.map (fun a o e _ _ _ hn=>⟨e,ha a o e hn⟩) ho
theorem RVs.own {μ₁ μ₂:Own} {h:Heap} (ho:∀ (n:Nat) (l:List Addr),μ₁.os[n]?=some l→μ₂.os[n]?=some l) (ha:∀ a ob,h.get? a=some ob→a∉μ₁.all→a∉μ₂.all) {vs:List AV} {xs:List Value} (r:RVs μ₁ h vs xs):RVs μ₂ h vs xs:=r.imp fun _ _=>RV.own ho ha
theorem AOR.own {rd:YE} {μ₁ μ₂:Own} {h:Heap} (ho:∀ (n:Nat) (l:List Addr),μ₁.os[n]?=some l→μ₂.os[n]?=some l) (ha:∀ a ob,h.get? a=some ob→a∉μ₁.all→a∉μ₂.all) {o:AO} {l:List Addr} (r:AOR rd μ₁ h o l):AOR rd μ₂ h o l:=
 r.map (fun _ _=>RV.own ho ha) ho (fun _ hn q=>⟨(YCZ q).elim fun _ e=>ha _ _ e hn,q⟩) fun _ _ _ e=>e
section
variable {rd:YE} {H₀:Heap} {μ:Own} {σ:List AO} {env:Env} {nm:List Str} {ρ:List (Option AV)} {D:Addr} {s:Shared}
theorem YEC {h:Heap} (hD:h.get? D=none):∀ a ob,h.get? a=some ob→a∉μ.all→a∉(μ.hide D).all:=fun a ob e hn q=>by
 rw [Own.hide_all] at q
 rcases q with rfl | q
 ·rw [hD] at e; cases e
 ·exact hn q
theorem YGs {h:Heap}:∀ a ob,h.get? a=some ob→a∉(μ.hide D).all→a∉μ.all:=fun a _ _ hn q=>hn (by rw [Own.hide_all]; exact .inr q)
theorem RV.hide {h:Heap} {v:AV} {x:Value} (r:RV μ h v x) (hD:h.get? D=Option.none):RV (μ.hide D) h v x:=RV.own (μ₁:=μ) (μ₂:=μ.hide D) (fun _ _ q=>q) (YEC hD) r
theorem RVs.unhide {h:Heap} {v:List AV} {x:List Value} (r:RVs (μ.hide D) h v x):RVs μ h v x:=RVs.own (μ₁:=μ.hide D) (μ₂:=μ) (fun _ _ q=>q) YGs r
theorem HS.hide {h h':Heap} (H:HS rd H₀ μ σ h) (hD:h.get? D=none) (k:∀ a o,h.get? a=some o→h'.get? a=some o) (hD':∃ o,h'.get? D=some o):HS rd H₀ (μ.hide D) σ h' where
 base a o e:=k a o (H.base a o e)
 new a ha:=by
  rw [Own.hide_all] at ha
  rcases ha with rfl | ha
  ·cases q:H₀.get? a with
   | none=>rfl
   | some o=>have:=H.base a o q; rw [hD] at this; cases this
  ·exact H.new a ha
 live a ha:=by
  rw [Own.hide_all] at ha
  rcases ha with rfl | ha
  ·exact hD'
  ·obtain ⟨o,e⟩:=H.live a ha; exact ⟨o,k a o e⟩
 nodup:=by
  show (D::(μ.pv++μ.os.flatten)).Nodup
  refine List.nodup_cons.mpr ⟨fun q=>?_,H.nodup⟩
  obtain ⟨o,e⟩:=H.live D q
  rw [hD] at e; cases e
 len:=H.len
 objs n o l h1 h2:=(AOR.own (μ₁:=μ) (μ₂:=μ.hide D) (fun _ _ q=>q) (YEC hD) (H.objs n o l h1 h2)).keep (X:=[]) ⟨[],(Own.add_nil _).symm,by simp⟩ (fun a o e _ _=>k a o e) (fun _ q=>(nomatch q)) fun a _ ob e=>k a ob e
theorem HS.unhide {h:Heap} (H:HS rd H₀ (μ.hide D) σ h):HS rd H₀ μ σ h where
 base:=H.base
 new a ha:=H.new a ((Own.hide_all ..).mpr (.inr ha))
 live a ha:=H.live a ((Own.hide_all ..).mpr (.inr ha))
 nodup:=by
  have h:(D::(μ.pv++μ.os.flatten)).Nodup:=H.nodup
  exact (List.nodup_cons.mp h).2
 len:=H.len
 objs n o l h1 h2:=AOR.own (μ₁:=μ.hide D) (μ₂:=μ) (fun _ _ q=>q) YGs (H.objs n o l h1 h2)
theorem HS.hidden {h:Heap} (H:HS rd H₀ (μ.hide D) σ h):D∉μ.all∧H₀.get? D=none:=by
 have h:(D::(μ.pv++μ.os.flatten)).Nodup:=H.nodup
 exact ⟨(List.nodup_cons.mp h).1,H.new D ((Own.hide_all ..).mpr (.inl rfl))⟩
theorem HS.adopt {h:Heap} {vs:List AV} {xs:List Value} (H:HS rd H₀ (μ.hide D) σ h) (p:PS "list" h D xs) (r:RVs (μ.hide D) h vs xs):HS rd H₀ (μ.add [[D]]) (σ++[.list vs]) h:=by
 have hall:∀ a,a∈(μ.add [[D]]).all↔a∈(μ.hide D).all:=fun a=>by rw [Own.all_add,Own.hide_all]; simp [or_comm]
 have hin:∀ a ob,h.get? a=some ob→a∉(μ.hide D).all→a∉(μ.add [[D]]).all:=fun a _ _ hn q=>hn ((hall a).mp q)
 refine ⟨H.base,fun a ha=>H.new a ((hall a).mp ha),fun a ha=>H.live a ((hall a).mp ha),?_,by simp [Own.add,H.len,Own.hide],fun n o l h1 h2=>?_⟩
 ·show (μ.pv++(μ.os++[[D]]).flatten).Nodup
  have h:(D::(μ.pv++μ.os.flatten)).Nodup:=H.nodup
  rw [List.flatten_append,←List.append_assoc]
  have h':=List.nodup_cons.mp h
  refine List.nodup_append.mpr ⟨h'.2,by simp,fun a ha b hb=>?_⟩
  have hb:b=D:=by simpa using hb
  rintro rfl
  exact h'.1 (hb▸ha)
 ·-- an entry of the old ones keeps its addresses
  have hos:∀ (n:Nat) (l:List Addr),(μ.hide D).os[n]?=some l→(μ.add [[D]]).os[n]?=some l:=fun n l q=>by
   show (μ.os++[[D]])[n]?=_
   have q:μ.os[n]?=some l:=q
   rw [List.getElem?_append_left (List.getElem?_eq_some_iff.mp q).1]; exact q
  have hlen:σ.length=μ.os.length:=H.len
  have h2:(μ.os++[[D]])[n]?=some l:=h2
  by_cases q:n<μ.os.length
  ·rw [List.getElem?_append_left (by exact Ze14 q hlen)] at h1
   rw [List.getElem?_append_left q] at h2
   exact AOR.own (μ₁:=μ.hide D) hos hin (H.objs n o l h1 h2)
  ·rw [List.getElem?_append_right (by (first | exact Ze15 hlen q | exact Ze0 q))] at h1 h2
   have hn:n=μ.os.length:=by
    have:=(List.getElem?_eq_some_iff.mp h2).1
    simp at this; exact Ze1 this q
   subst hn
   rw [hlen] at h1
   simp at h1 h2
   subst h1 h2
   exact ⟨D,xs,rfl,p,r.own hos hin⟩
theorem FR.hide {h:Heap} (F:FR H₀ env nm ρ μ h) (hD:h.get? D=none):FR H₀ env nm ρ (μ.hide D) h:=by
 refine ⟨F.kind,F.glob,F.blt,F.ns,F.cells,fun a ha=>⟨?_,(F.own a ha).2⟩,F.apart,F.len,fun x i v h1 h2 h3=>?_⟩
 ·obtain ⟨o,ho,_⟩:=F.frObj a ha
  exact YEC hD a o ho (F.own a ha).1
 ·obtain ⟨rv,h4,h5⟩:=F.vars x i v h1 h2 h3
  exact ⟨rv,h4,h5.hide hD⟩
theorem FR.evX {s s':Shared} {X:List Addr} {μ':Own} (F:FR H₀ env nm ρ μ s.heap) (e:Ev X μ s μ' s') (hX:∀ a∈X,(FrObj s.heap a∨a∈μ.pv)∧a∉YA env):FR H₀ env nm ρ μ' s'.heap:=by
 have hk:∀ a∈YA env,∀ o,s.heap.get? a=some o→s'.heap.get? a=some o:=fun a ha o ho=>e.keep a o ho (fun q=>(F.own a ha).1 (Own.os_all q)) (fun q=>(hX a q).2 ha)
 refine ⟨F.kind,F.glob,F.blt,?_,fun x c hc=>?_,fun a ha=>⟨?_,(F.own a ha).2⟩,F.apart,F.len,fun x i v h1 h2 h3=>?_⟩
 ·obtain ⟨m,hm⟩:=F.ns
  exact ⟨m,YET hm (hk _ (List.mem_cons_self ..))⟩
 ·obtain ⟨v,hv⟩:=F.cells x c hc
  exact ⟨v,Yx hv (hk _ (List.mem_cons_of_mem _ (List.mem_map.mpr ⟨_,hc,rfl⟩)))⟩
 ·obtain ⟨o,ho,_⟩:=F.frObj a ha
  exact YCN e.ext ho (F.own a ha).1
 ·obtain ⟨rv,h4,h5⟩:=F.vars x i v h1 h2 h3
  exact ⟨rv,h4.keeps hk,h5.mono e.ext e.keep fun a q=>(hX a q).1⟩
theorem FR.less {h:Heap} {ρ':List (Option AV)} (F:FR H₀ env nm ρ μ h) (hl:ρ'.length=ρ.length) (hv:∀ (i:Nat) (v:AV),ρ'[i]?=some (some v)→ρ[i]?=some (some v)):FR H₀ env nm ρ' μ h:=
 ⟨F.kind,F.glob,F.blt,F.ns,F.cells,F.own,F.apart,F.len.trans hl.symm,fun x i v h1 h2 h3=>F.vars x i v h1 (hv i v h2) h3⟩
theorem ItAt.evX {X:List Addr} {μ':Own} {s s':Shared} {v:AV} {i:Nat} {I:Addr} (r:ItAt H₀ μ s.heap v i I) (e:Ev X μ s μ' s') (hX:∀ a∈X,FrObj s.heap a∨a∈μ.pv) (hI:I∉X):ItAt H₀ μ' s'.heap v i I:=by
 obtain ⟨o,ho⟩:=r.some
 have k:=e.keep I o ho (fun q=>r.own (Own.os_all q)) hI
 refine ⟨?_,YCN e.ext ho r.own,r.base⟩
 have li:∀ l,s.heap.IsListIter I l i→s'.heap.IsListIter I l i:=fun l ⟨o',ho',hc,hd⟩=>⟨o',by rw [ho] at ho'; cases ho'; exact k,hc,hd⟩
 have q:=r.itr
 cases v with
 | rng a b c=>have q:s.heap.get? I=_:=q; rw [ho] at q; cases q; exact k
 | str x=>obtain ⟨t,o',ho',hc,hd⟩:=q; exact ⟨t,o',by rw [ho] at ho'; cases ho'; exact k,hc,hd⟩
 | _=>obtain ⟨l,rv,q⟩:=q; exact ⟨l,rv.mono e.ext e.keep hX,li l q⟩
theorem ItAt.hide {h:Heap} {v:AV} {i:Nat} {I:Addr} (r:ItAt H₀ μ h v i I) (hD:h.get? D=none):ItAt H₀ (μ.hide D) h v i I:=by
 obtain ⟨o,ho⟩:=r.some
 refine ⟨?_,YEC hD _ _ ho r.own,r.base⟩
 have q:=r.itr
 cases v with
 | rng a b c=>exact q
 | str x=>exact q
 | _=>obtain ⟨l,rv,q⟩:=q; exact ⟨l,rv.hide hD,q⟩
theorem Ev.unhide {X:List Addr} {μ':Own} {s s':Shared} (e:Ev X (μ.hide D) s μ' s'):∃ ν,μ'=(μ.add ν).hide D∧Ev X μ s (μ.add ν) s':=by
 obtain ⟨same,⟨ν,rfl,hν⟩,keep,alive⟩:=e
 exact ⟨ν,rfl,same,⟨ν,rfl,hν⟩,keep,alive⟩
theorem Ev.hide {X:List Addr} {μ':Own} {s s':Shared} (e:Ev X μ s μ' s'):Ev X (μ.hide D) s (μ'.hide D) s':=by
 obtain ⟨same,⟨ν,rfl,hν⟩,keep,alive⟩:=e
 exact ⟨same,⟨ν,rfl,hν⟩,keep,alive⟩
theorem Ev.upon {X:List Addr} {μ' μ'':Own} {s s' s'':Shared} (e:Ev [] μ s μ' s') (e':Ev X μ' s' μ'' s'') (hX:∀ a∈X,s.heap.get? a=none):Ev [] μ s μ'' s'':=
 (e.wide0.trans e').shed fun a q=>.inr (hX a q)
theorem YMO {prog:Program} {w:World} {A:Around} {E:Value→Shared→Prop} {ys:List Value} {x:Value} {Q:Value→Shared→Prop} (H:HS rd H₀ μ σ s.heap) (hD:D∈μ.pv) (p:PS "list" s.heap D ys) (hl:ys.length≤lim)
  (h:∀ s',Ev [D] μ s μ s'→HS rd H₀ μ σ s'.heap→PS "list" s'.heap D (ys++[x])→Q .none s'):wpAny (model prog w) A (call (.builtin "list.append") [.ref D,x]) Q E s:=by
 obtain ⟨n,p⟩:=p
 refine call_meets F.slot_list_append ⟨_,p,rfl⟩ F.entry_list_append (F.args_list_append_2 _ _) (list_append D ys.toArray n x (by rw [List.size_toArray]; exact YAF hl)) ⟨p,?_⟩
 have hs:=Heap.SameBut.update s.heap D (Obj.mapSeq fun z=>z.push x)
 have hg:=IsL.update p fun z=>z.push x
 have hk:∀ b o,s.heap.get? b=some o→b∉[D]→(s.heap.update D (Obj.mapSeq fun z=>z.push x)).get? b=some o:=YFl hs (by simp)
 have ha:=YBL hs hg
 have e:ys.toArray.push x=(ys++[x]).toArray:=by simp
 rw [e] at hg
 refine h { s with heap:=s.heap.update D (Obj.mapSeq fun z=>z.push x) } ⟨⟨_,s.toks,rfl⟩,⟨[],(Own.add_nil _).symm,by simp⟩,fun b o q _ hx=>hk b o q hx,ha⟩ ?_ ⟨_,hg⟩
 have hnd:=H.nodup
 have nos:∀ {n:Nat} {l:List Addr},μ.os[n]?=some l→D∉l:=fun hl q=>(List.nodup_append.mp hnd).2.2 D hD D (YAC hl q) rfl
 refine ⟨fun a o q=>hk a o (H.base a o q) fun z=>?_,H.new,fun a q=>?_,H.nodup,H.len,fun m o l h1 h2=>?_⟩
 ·have:=H.new D (Own.pv_all hD)
  rw [←List.mem_singleton.mp z,q] at this; cases this
 ·obtain ⟨o,e⟩:=H.live a q
  exact Classical.byContradiction fun z=>by
   have z:(s.heap.update D (Obj.mapSeq fun z=>z.push x)).get? a=none:=by
    cases q:(s.heap.update D (Obj.mapSeq fun z=>z.push x)).get? a with
    | none=>rfl
    | some o'=>exact absurd ⟨o',q⟩ z
   rw [ha a z] at e; cases e
 ·exact (H.objs m o l h1 h2).keep (X:=[D]) ⟨[],(Own.add_nil _).symm,by simp⟩ (fun a o e _ hx=>hk a o e hx) (fun a q=>.inr (by rw [List.mem_singleton.mp q]; exact hD)) fun a ha' ob e=>hk a ob e fun q=>nos h2 (by rw [←List.mem_singleton.mp q]; exact ha')
end
theorem YBQ {μ μ':Own} {D:Addr} (he:μ.hide D=μ'.hide D):μ=μ':=by
 have h1:(μ.hide D).pv=(μ'.hide D).pv:=by rw [he]
 have h2:(μ.hide D).os=(μ'.hide D).os:=by rw [he]
 cases μ; cases μ'
 simp only [Own.hide] at h1 h2
 cases h1; cases h2; rfl
set_option genInjectivity false in
structure LS (rd:YE) (H₀:Heap) (env:Env) (nm:List Str) (D:Addr) (μ:Own) (s:Shared) (μk:Own) (σk:List AO) (ρk:List (Option AV)) (ws:List AV) (L:List (AV×Nat×Addr)) (s':Shared):Prop where
 ev:Ev [] μ s μk s'
 hs:HS rd H₀ (μk.hide D) σk s'.heap
 fr:FR H₀ env nm ρk (μk.hide D) s'.heap
 acc:∃ ys,PS "list" s'.heap D ys∧RVs (μk.hide D) s'.heap ws ys
 its:∀ p∈L,ItAt H₀ (μk.hide D) s'.heap p.1 p.2.1 p.2.2
 off:∀ p∈L,s.heap.get? p.2.2=none∧p.2.2∉YA env∧p.2.2≠D
 dis:(L.map (·.2.2)).Nodup
 dn:s.heap.get? D=none
 df:D∉YA env
section
variable {prog:Program} {w:World} {rd:YE} {H₀:Heap} {A:Around} {Φ:Tab} {E:Value→Shared→Prop} {env:Env} {nm:List Str} {D:Addr} {μ:Own} {s:Shared}
 {μk:Own} {σk:List AO} {ρk:List (Option AV)} {ws:List AV} {L:List (AV×Nat×Addr)} {s':Shared}
theorem LS.go {X:List Addr} {μ'':Own} {s'':Shared} (l:LS rd H₀ env nm D μ s μk σk ρk ws L s') (e:Ev X (μk.hide D) s' μ'' s'') (hX:∀ a∈X,(FrObj s'.heap a∨a∈(μk.hide D).pv)∧s.heap.get? a=none):
  ∃ μk',μ''=μk'.hide D∧Ev [] μ s μk' s''∧(∀ p∈L,p.2.2∉X→ItAt H₀ μ'' s''.heap p.1 p.2.1 p.2.2)∧(D∉X→∃ ys,PS "list" s''.heap D ys∧RVs μ'' s''.heap ws ys)∧((∀ a∈X,a∉YA env)→FR H₀ env nm ρk μ'' s''.heap):=by
 obtain ⟨ν,he,e'⟩:=e.unhide
 refine ⟨μk.add ν,he,l.ev.upon e' fun a q=>(hX a q).2,fun p hp hpX=>(l.its p hp).evX e (fun a q=>(hX a q).1) hpX,fun hD=>?_,fun hF=>l.fr.evX e fun a q=>⟨(hX a q).1,hF a q⟩⟩
 obtain ⟨ys,⟨n,p⟩,r⟩:=l.acc
 refine ⟨ys,⟨n,e.keep D _ p (fun q=>?_) hD⟩,r.mono e.ext e.keep fun a q=>(hX a q).1⟩
 exact l.hs.hidden.1 (Own.os_all q)
theorem LS.step {μ'':Own} {s'':Shared} {σ'':List AO} (l:LS rd H₀ env nm D μ s μk σk ρk ws L s') (e:Ev [] (μk.hide D) s' μ'' s'') (H:HS rd H₀ μ'' σ'' s''.heap):∃ μk',μ''=μk'.hide D∧LS rd H₀ env nm D μ s μk' σ'' ρk ws L s'':=by
 obtain ⟨μk',rfl,a,b,c,d⟩:=l.go e (fun _ q=>(nomatch q))
 exact ⟨μk',rfl,a,H,d (fun _ q=>(nomatch q)),c (fun q=>(nomatch q)),fun p hp=>b p hp (fun q=>(nomatch q)),l.off,l.dis,l.dn,l.df⟩
theorem LS.item {xv v:AV} {i:Nat} {I:Addr} {Q:Option Value→Shared→Prop} (l:LS rd H₀ env nm D μ s μk σk ρk ws ((xv,i,I)::L) s') (hn:nthA σk xv i=some (some v))
  (h:∀ μk' rx s'',LS rd H₀ env nm D μ s μk' σk ρk ws ((xv,i+1,I)::L) s''→RV (μk'.hide D) s''.heap v rx→Q (some rx) s''):wpAny (model prog w) A (pyNext (.ref I)) Q E s':=by
 have it:=l.its _ (List.mem_cons_self ..)
 refine YIf it hn l.hs fun rx s'' e H' it' R=>?_
 have off:=l.off _ (List.mem_cons_self ..)
 obtain ⟨μk',he,a,b,c,d⟩:=l.go e (fun a q=>by rw [List.mem_singleton.mp q]; exact ⟨.inl it.itr.frObj,off.1⟩)
 have:μk'=μk:=(YBQ he).symm
 subst this
 have dis:=l.dis
 simp only [List.map_cons,List.nodup_cons] at dis
 refine h _ rx s'' ⟨a,H',d fun a q=>by rw [List.mem_singleton.mp q]; exact off.2.1,c fun q=>off.2.2 (List.mem_singleton.mp q).symm,fun p hp=>?_,fun p hp=>?_,?_,l.dn,l.df⟩ R
 ·rcases List.mem_cons.mp hp with rfl | hp
  ·exact it'
  ·exact b p (List.mem_cons_of_mem _ hp) fun q=>dis.1 (by rw [←List.mem_singleton.mp q]; exact List.mem_map_of_mem (f:=fun p:AV×Nat×Addr=>p.2.2) hp)
 ·rcases List.mem_cons.mp hp with rfl | hp
  ·exact off
  ·exact l.off p (List.mem_cons_of_mem _ hp)
 ·simp only [List.map_cons,List.nodup_cons]; exact dis
theorem LS.fin {xv:AV} {i:Nat} {I:Addr} {Q:Option Value→Shared→Prop} (hh:A.handled=none) (l:LS rd H₀ env nm D μ s μk σk ρk ws ((xv,i,I)::L) s') (hn:nthA σk xv i=some none)
  (h:∀ s'',LS rd H₀ env nm D μ s μk σk ρk ws L s''→Q none s''):wpAny (model prog w) A (pyNext (.ref I)) Q E s':=by
 have it:=l.its _ (List.mem_cons_self ..)
 have off:=l.off _ (List.mem_cons_self ..)
 refine YNC hh it hn l.hs fun s'' hsame hk H' hev=>?_
 have e0:Ev [] μ s μk s'':=by
  obtain ⟨ν,he,e⟩:=(hev (X:=[]) off.1 (l.ev.hide (D:=D)).wide0).unhide
  rw [YBQ he]; exact e
 have dis:=l.dis
 simp only [List.map_cons,List.nodup_cons] at dis
 have kk:Kept [I] (μk.hide D).os.flatten s'.heap s''.heap:=fun a o e _ x=>hk a o e (fun q=>(nomatch q)) x
 have hX:∀ a∈[I],FrObj s'.heap a∨a∈(μk.hide D).pv:=fun a q=>by rw [List.mem_singleton.mp q]; exact .inl it.itr.frObj
 have k1:∀ a,a≠I→∀ o,s'.heap.get? a=some o→s''.heap.get? a=some o:=fun a ha o e=>hk a o e (fun q=>(nomatch q)) fun q=>ha (List.mem_singleton.mp q)
 have ext:∃ ν,μk.hide D=(μk.hide D).add ν∧∀ a∈ν.flatten,s'.heap.get? a=none:=⟨[],(Own.add_nil _).symm,by simp⟩
 refine h s'' ⟨e0,H',?_,?_,fun p hp=>?_,fun p hp=>l.off p (List.mem_cons_of_mem _ hp),dis.2,l.dn,l.df⟩
 ·have F:=l.fr
  have nI:∀ a∈YA env,a≠I:=fun a q r=>off.2.1 (r▸q)
  refine ⟨F.kind,F.glob,F.blt,?_,fun x c hc=>?_,F.own,F.apart,F.len,fun x i v h1 h2 h3=>?_⟩
  ·obtain ⟨m,hm⟩:=F.ns
   exact ⟨m,YET hm (k1 _ (nI _ (List.mem_cons_self ..)))⟩
  ·obtain ⟨v,hv⟩:=F.cells x c hc
   exact ⟨v,Yx hv (k1 _ (nI _ (List.mem_cons_of_mem _ (List.mem_map.mpr ⟨_,hc,rfl⟩))))⟩
  ·obtain ⟨rv,h4,h5⟩:=F.vars x i v h1 h2 h3
   exact ⟨rv,h4.keeps fun a ha=>k1 a (nI a ha),h5.mono ext kk hX⟩
 ·obtain ⟨ys,⟨n,p⟩,r⟩:=l.acc
  exact ⟨ys,⟨n,k1 D (fun q=>off.2.2 q.symm) _ p⟩,r.mono ext kk hX⟩
 ·have r:=l.its p (List.mem_cons_of_mem _ hp)
  have hne:p.2.2≠I:=fun q=>dis.1 (by rw [←q]; exact List.mem_map_of_mem (f:=fun p:AV×Nat×Addr=>p.2.2) hp)
  obtain ⟨o,ho⟩:=r.some
  have k:=k1 _ hne o ho
  refine ⟨?_,r.own,r.base⟩
  have li:∀ l,s'.heap.IsListIter p.2.2 l p.2.1→s''.heap.IsListIter p.2.2 l p.2.1:=fun l ⟨o',ho',hc,hd⟩=>⟨o',by rw [ho] at ho'; cases ho'; exact k,hc,hd⟩
  have q:=r.itr
  obtain ⟨pv,pi,pI⟩:=p
  cases pv with
  | rng a b c=>have q:s'.heap.get? pI=_:=q; rw [ho] at q; cases q; exact k
  | str x=>obtain ⟨t,o',ho',hc,hd⟩:=q; exact ⟨t,o',by rw [ho] at ho'; cases ho'; exact k,hc,hd⟩
  | _=>obtain ⟨l,rv,q⟩:=q; exact ⟨l,rv.mono ext kk hX,li l q⟩
theorem LS.store {x:Str} {px:Pos} {j:Nat} {v:AV} {rx:Value} {c:Cx} {Q:Unit→Shared→Prop} (l:LS rd H₀ env nm D μ s μk σk ρk ws L s') (O:EnvOk env c) (hnm:c.nm=nm) (hw:c.wr x j=true) (ht:s.heap.get? (tgt env x)=none) (R:RV (μk.hide D) s'.heap v rx)
  (h:∀ s'',LS rd H₀ env nm D μ s μk σk (ρk.set j (some v)) ws L s''→Q () s''):wpAny (model prog w) A (assign (.Name x px) env rx) Q E s':=by
 subst hnm
 obtain ⟨h1,h3⟩:=O.wr hw
 refine wpAny_assign_Name (l.fr.store l.hs R h1 h3 fun s'' e H' F'=>?_)
 have tm:=YGD h3
 obtain ⟨μk',he,a,b,cc,d⟩:=l.go e (fun a q=>by rw [List.mem_singleton.mp q]; exact ⟨.inl (l.fr.frObj _ tm),ht⟩)
 have:μk'=μk:=(YBQ he).symm
 subst this
 exact h s'' ⟨a,H',F',cc fun q=>l.df (by rw [List.mem_singleton.mp q]; exact tm),fun p hp=>b p hp fun q=>(l.off p hp).2.1 (by rw [List.mem_singleton.mp q]; exact tm),l.off,l.dis,l.dn,l.df⟩
theorem LS.app {v:AV} {rx:Value} {Q:Value→Shared→Prop} (l:LS rd H₀ env nm D μ s μk σk ρk ws L s') (hl:ws.length≤lim) (R:RV (μk.hide D) s'.heap v rx)
  (h:∀ s'',LS rd H₀ env nm D μ s μk σk ρk (ws++[v]) L s''→Q .none s''):wpAny (model prog w) A (call (.builtin "list.append") [.ref D,rx]) Q E s':=by
 obtain ⟨ys,p,r⟩:=l.acc
 have hD:D∈(μk.hide D).pv:=List.mem_cons_self ..
 refine YMO l.hs hD p (by rw [←r.len]; exact hl) fun s'' e H' p'=>?_
 have hX:∀ a∈[D],(FrObj s'.heap a∨a∈(μk.hide D).pv)∧s.heap.get? a=none:=fun a q=>by rw [List.mem_singleton.mp q]; exact ⟨.inr hD,l.dn⟩
 obtain ⟨μk',he,a,b,cc,d⟩:=l.go e hX
 have:μk'=μk:=(YBQ he).symm
 subst this
 exact h s'' ⟨a,H',d fun a q=>by rw [List.mem_singleton.mp q]; exact l.df,⟨_,p',RVs.append (.cons (R.mono e.ext e.keep fun a q=>(hX a q).1) .nil) (r.mono e.ext e.keep fun a q=>(hX a q).1)⟩,fun p hp=>b p hp fun q=>(l.off p hp).2.2 (List.mem_singleton.mp q),l.off,l.dis,l.dn,l.df⟩
theorem LS.st {c:Cx} (l:LS rd H₀ env c.nm D μ s μk σk ρk ws L s') (O:EnvOk env c):St rd H₀ c env ρk (μk.hide D) σk s':=⟨l.fr,l.hs,O⟩
theorem LS.made {m:Bool} {v:AV} {σ':List AO} (l:LS rd H₀ env nm D μ s μk σk ρk ws L s') (e:newL m σk ws=some (v,σ')):∃ μ',Ev [] μ s μ' s'∧HS rd H₀ μ' σ' s'.heap∧RV μ' s'.heap v (.ref D)∧∀ a,a∉(μk.hide D).all→a∉μ'.all:=by
 obtain ⟨ys,p,r⟩:=l.acc
 unfold newL at e
 split at e
 case isFalse=>cases e
 split at e
 ·cases e
  have H:=l.hs.adopt p r
  refine ⟨μk.add [[D]],?_,H,.loc (l:=[]) ?_,fun a ha q=>ha ?_⟩
  ·obtain ⟨same,⟨ν,rfl,hν⟩,keep,alive⟩:=l.ev
   refine ⟨same,⟨ν++[[D]],Own.add_add ..,fun a ha=>?_⟩,keep,alive⟩
   rw [List.flatten_append,List.mem_append] at ha
   rcases ha with ha | ha
   ·exact hν a ha
   ·have:a=D:=by simpa using ha
    rw [this]; exact l.dn
  ·show (μk.os++[[D]])[σk.length]?=_
   have:σk.length=μk.os.length:=l.hs.len
   rw [this]; simp
  ·rw [Own.all_add] at q
   rw [Own.hide_all]
   rcases q with q | q
   ·exact .inr q
   ·exact .inl (by simpa using q)
 ·cases e
  exact ⟨μk,l.ev,l.hs.unhide,.lst p l.hs.hidden.1 r.unhide,fun a ha q=>ha ((Own.hide_all ..).mpr (.inr q))⟩
theorem YGh {v:AV} {i:Nat} {I:Addr} {Q:Value→Shared→Prop} (it:ItAt H₀ μ s.heap v i I) (h:Q (.ref I) s):wpAny (model prog w) A (pyIter (.ref I)) Q E s:=by
 have q:=it.itr
 cases v with
 | rng a b c=>exact wpAny_pyIter_rangeiter q h
 | str x=>obtain ⟨t,q⟩:=q; exact wpAny_pyIter_striter_ascii q h
 | _=>obtain ⟨l,_,q⟩:=q; exact wpAny_pyIter_listiter q h
end
section
variable {prog:Program} {w:World} {rd:YE} {H₀:Heap} {A:Around} {Φ:Tab} {E:Value→Shared→Prop} {s:Shared} {μ:Own} {σ:List AO}
noncomputable def LoopRule (prog:Program) (w:World) (A:Around) (code:Code) (px:Pos) (x:Str) (I D:Addr) (ifs:List PySem.Expr) (elt:PySem.Expr) (env:Env):Prop:=
 ∀ (R:Result→Shared→Prop) (J:Nat→Shared→Prop),(∀ n s (E:Value→Shared→Prop),J n s→wpAny (model prog w) A (pyNext (.ref I)) (fun r s₁=>match r with
   | none=>R (.ok .next) s₁
   | some v=>wpAny (model prog w) A (assign (.Name x px) env v) (fun _ s₂=>
     wpAny (model prog w) A (forIn ifs true fun c r=>if r=true then do let ok←isTrue c env (eval c env); pure (ForInStep.yield ok) else pure (ForInStep.yield r)) (fun ok s₃=>
      if ok=true then wpAny (model prog w) A (eval elt env) (fun x s₄=>
       wpAny (model prog w) A (call (.builtin "list.append") [.ref D,x]) (fun _ s₅=>∃ m,m<n∧J m s₅) E s₄) E s₃
      else ∃ m,m<n∧J m s₃) E s₂) E s₁) E s)→∀ n s,J n s→codeAny (model prog w) A code R s
noncomputable def tuF (Φ:Tab) (cs:Ts) (elt:Mine.E) (f:AV→List (Option AV)) (v:AV) (σ:List AO):Option (List AV×List AO):=(evTs Φ cs (f v) σ).bind fun t=>if t.1 then (evE Φ elt (f v) t.2).map fun y=>([y.1],y.2) else some ([],t.2)
theorem YCz {f:AV→List AO→Option (List AV×List AO)} {it:AV} {k i:Nat} {σ:List AO} {r:List AV×List AO} {G:Prop} (h:mapGo f it k i σ=some r) (h0:∀ m,k=m+1→nthA σ it i=some none→r=([],σ)→G)
  (h1:∀ m v p q,k=m+1→nthA σ it i=some (some v)→f v σ=some p→mapGo f it m (i+1) p.2=some q→r=(p.1++q.1,q.2)→G):G:=by
 cases k with
 | zero=>exact nS h
 | succ m=>
  unfold mapGo at h
  split at h
  ·rename_i hn; exact h0 m rfl hn (Option.some.inj h).symm
  ·rename_i v hn
   exact YI h fun p hp h=>(YBY (G:=fun r'=>r'=r→G) h fun q hq e=>h1 m v p q rfl hn hp hq e.symm) rfl
  ·exact nS h
set_option genInjectivity false in
structure GR where
 i:Nat
 σ:List AO
 μ:Own
 ρ:List (Option AV)
 ws:List AV
 rest:List AV
theorem YGq {cs:Ts} {elt:Mine.E} {pelt:PySem.Expr} {ifs:List PySem.Expr} {code:Code} {px:Pos} {x:Str} {I D:Addr} {env:Env} {c:Cx} {j:Nat} {xv:AV} {ρ₀:List (Option AV)} {σe:List AO} {all:List AV} {L:List (AV×Nat×Addr)} {f:AV→List (Option AV)}
  (hh:A.handled=none) (hcs:OkTs prog w rd H₀ A Φ cs c ifs) (helt:OkE prog w rd H₀ A Φ elt c pelt) (hcode:LoopRule prog w A code px x I D ifs pelt env)
  (O:EnvOk env c) (hw:c.wr x j=true) (ht:s.heap.get? (tgt env x)=none) (hlim:all.length≤lim) (hf:∀ v,ρ₀.set j (some v)=f v)
  {R:Result→Shared→Prop} (hR:∀ μk ρk s',ρk.set j none=ρ₀→LS rd H₀ env c.nm D μ s μk σe ρk all L s'→R (.ok .next) s')
  {n i:Nat} {σk:List AO} {μk:Own} {ρk:List (Option AV)} {ws rest:List AV} {s':Shared}
  (hg:mapGo (tuF Φ cs elt f) xv n i σk=some (rest,σe))
  (hall:ws++rest=all) (hρ:ρk.set j none=ρ₀) (l:LS rd H₀ env c.nm D μ s μk σk ρk ws ((xv,i,I)::L) s'):codeAny (model prog w) A code R s':=by
 refine hcode R (fun n s'=>∃ g:GR,mapGo (tuF Φ cs elt f) xv n g.i g.σ=some (g.rest,σe)∧g.ws++g.rest=all∧g.ρ.set j none=ρ₀∧LS rd H₀ env c.nm D μ s g.μ g.σ g.ρ g.ws ((xv,g.i,I)::L) s') ?_ n s' ⟨⟨i,σk,μk,ρk,ws,rest⟩,hg,hall,hρ,l⟩
 clear hg hall hρ l
 intro n s' E ⟨g,hg,hall,hρ,l⟩
 refine YCz hg (fun m _ hn hr=>?_) fun m v p q en hn e1 e3 hr=>?_
 ·refine l.fin hh hn fun s'' l'=>?_
  rw [(Prod.mk.inj hr).1,List.append_nil] at hall
  rw [hall,←(Prod.mk.inj hr).2] at l'
  exact hR _ _ _ hρ l'
 ·subst en
  obtain ⟨hr1,hr2⟩:=Prod.mk.inj hr
  refine l.item hn fun μ1 rx s1 l1 R1=>?_
  refine l1.store O rfl hw ht R1 fun s2 l2=>?_
  rw [show g.ρ.set j (some v)=f v by rw [←hf,←hρ,List.set_set]] at l2
  have hback:(f v).set j none=ρ₀:=by rw [←hf,List.set_set,←hρ,List.set_set]
  refine YI e1 fun t et e2=>hcs.all (l2.st O) et fun μ3 s3 e H3=>?_
  obtain ⟨μ3',rfl,l3⟩:=l2.step e H3
  obtain ⟨t,σ1⟩:=t
  cases t with
  | false=>
   obtain rfl:=Option.some.inj e2
   exact ⟨m,Nat.lt_succ_self _,⟨g.i+1,_,_,_,g.ws,q.1⟩,hr2▸e3,(by rw [hr1] at hall; exact hall),hback,l3⟩
  | true=>
   revert e3 hr1
   refine YBY (show (evE Φ elt (f v) σ1).map _=some p from e2) fun y e2 e3 hr1=>?_
   refine helt.run (l3.st O) e2 fun μ4 s4 ry e' H4 R4=>?_
   obtain ⟨μ4',rfl,l4⟩:=l3.step e' H4
   have hall2:(g.ws++[y.1])++q.1=all:=by rw [hr1] at hall; rw [List.append_assoc]; exact hall
   have hlen:g.ws.length≤lim:=Nat.le_trans (by rw [←hall,List.length_append]; exact Nat.le_add_right ..) hlim
   exact l4.app hlen R4 fun s5 l5=>⟨m,Nat.lt_succ_self _,⟨g.i+1,_,_,_,g.ws++[y.1],q.1⟩,hr2▸e3,hall2,hback,l5⟩
theorem loop1 {px:Pos} {x:Str} {I D:Addr} {ifs:List PySem.Expr} {elt iter:PySem.Expr} {env:Env} {scope:Scope} {pos:Pos}:
  LoopRule prog w A (.compLoop (.ListComp elt [⟨.Name x px,iter,ifs,0⟩] scope pos) 0 (.ref I) (.ref D) env) px x I D ifs elt env:=by
 intro R J turn n s hJ
 exact codeAny_compLoop_tests J (fun n s h=>turn n s _ h) n hJ
theorem YHR (ρ:List (Option AV)) (o v:Option AV):(ρ++[o]).set ρ.length v=ρ++[v]:=by
 induction ρ with
 | nil=>rfl
 | cons a r ih=>simp [ih]
theorem YGO {c:Cx} {scope:Scope} {ts:List Str} {x:Str} {j:Nat} (hc:compOk c scope ts=true) (hx:x∈ts) (hs:slot (c.nm++ts) x=some j):(c.into scope ts).wr x j=true:=by
 unfold compOk at hc
 simp only [Bool.and_eq_true,List.all_eq_true,Bool.or_eq_true,beq_iff_eq] at hc
 unfold Cx.wr Cx.into
 simp only [Bool.and_eq_true,Bool.or_eq_true,beq_iff_eq]
 exact ⟨hs,hc.1.2 x hx⟩
theorem YDz {scope:Scope} {ts:List Str} {env:Env} {c:Cx} {ρ:List (Option AV)} {σ1:List AO} {xv:AV} {a:Option AV} {r1:Value} {μ1:Own} {s1:Shared} {K:Value→Value→Env→Shared→Prop}
  (hc:compOk c scope ts=true) (hn0:nthA σ1 xv 0=some a) (st:St rd H₀ c env ρ μ1 σ1 s1) (e1:Ev [] μ s μ1 s1) (R1:RV μ1 s1.heap xv r1)
  (h:∀ I D cenv μ2 s4,LS rd H₀ { cenv with scope:=relabel scope env } (c.into scope ts).nm D μ s μ2 σ1 (ρ++ts.map fun _=>none) [] [(xv,0,I)] s4→EnvOk { cenv with scope:=relabel scope env } (c.into scope ts)→
   (∀ x∈ts,s.heap.get? (tgt { cenv with scope:=relabel scope env } x)=none)→s.heap.get? cenv.locals=none→K (.ref I) (.ref D) cenv s4):
  wpAny (model prog w) A (pyIter r1) (fun it s₂=>wpAny (model prog w) A (newList []) (fun acc s₃=>
   wpAny (model prog w) A (newFunctionEnv scope env.globals (closOf env.cells scope.names []) [] env.qual none .none (some env)) (fun cenv s₄=>K it acc cenv s₄) E s₃) E s₂) E s1:=by
 refine YJq R1 hn0 st.hs fun I s2 hI e2 H2 it2=>?_
 refine wpAny_newList ?_
 have hD:s2.heap.get? s2.heap.objs.size=none:=YN _
 generalize hDe:s2.heap.objs.size=D at hD
 have kk:∀ a o,s2.heap.get? a=some o→(s2.heap.push { cls:=.type "list",data:=.seq ([]:List Value).toArray }).get? a=some o:=fun a o e=>Heap.get?_push_of_some _ e
 have hg:(s2.heap.push { cls:=.type "list",data:=.seq ([]:List Value).toArray }).get? D=some (seqObj "list" ([]:List Value).toArray 0):=by rw [←hDe]; exact Heap.get?_push_size _ rfl
 have e3:Ev [] μ1 s2 μ1 { s2 with heap:=s2.heap.push { cls:=.type "list",data:=.seq ([]:List Value).toArray } }:=Ev.keeps (tk:=s2.toks) kk
 have H3:=H2.hide hD kk ⟨_,hg⟩
 have F2:=(st.fr.ev e2)
 have F3:=(F2.hide hD).ev (e3.hide (D:=D))
 have it3:=(it2.hide hD).ev (e3.hide (D:=D)) (fun _ q=>(nomatch q)) (fun q=>(nomatch q))
 have inone:∀ {μ' s'},Ev [] μ s μ' s'→∀ a,s'.heap.get? a=none→s.heap.get? a=none:=fun e a q=>e.alive a q
 have hDs:s.heap.get? D=none:=e1.alive _ (e2.alive _ hD)
 refine compFrame F3 H3 st.en hc fun cenv s4 e4 H4 F4 O4 ht hl hfa=>?_
 have hne:I≠D:=fun q=>by obtain ⟨o,ho⟩:=it2.some; rw [q,hD] at ho; cases ho
 have hId:∃ o,(s2.heap.push { cls:=.type "list",data:=.seq ([]:List Value).toArray }).get? I=some o:=it3.some
 have hIf:I∉YA { cenv with scope:=relabel scope env }:=fun q=>by
  rcases hfa I q with z | z
  ·obtain ⟨o,ho,_⟩:=st.fr.frObj I z
   rw [hI] at ho; cases ho
  ·obtain ⟨o,ho⟩:=hId
   rw [z] at ho; cases ho
 have hDf:D∉YA { cenv with scope:=relabel scope env }:=fun q=>by
  rcases hfa D q with z | z
  ·obtain ⟨o,ho,_⟩:=F2.frObj D z
   rw [hD] at ho; cases ho
  ·rw [hg] at z; cases z
 obtain ⟨ν,he,e4'⟩:=e4.unhide
 have e5:=(YBQ he).symm▸e4'
 have eall:Ev [] μ s μ1 s4:=e1.trans (e2.trans (e3.trans e5))
 refine h I D cenv μ1 s4 ⟨eall,H4,F4,⟨[],⟨0,?_⟩,.nil⟩,fun p hp=>?_,fun p hp=>?_,by simp,hDs,hDf⟩ O4 (fun x hx=>?_) ?_
 ·exact e4.keep D _ hg (fun q=>H3.hidden.1 (Own.os_all q)) (fun q=>(nomatch q))
 ·rw [List.mem_singleton.mp hp]
  exact it3.ev e4 (fun _ q=>(nomatch q)) (fun q=>(nomatch q))
 ·rw [List.mem_singleton.mp hp]
  exact ⟨e1.alive _ hI,hIf,hne⟩
 ·exact (e1.trans (e2.trans e3)).alive _ (ht x hx)
 ·exact (e1.trans (e2.trans e3)).alive _ hl
end
section
variable {prog:Program} {w:World} {rd:YE} {H₀:Heap} {A:Around} {Φ:Tab} {E:Value→Shared→Prop} {s:Shared} {μ:Own} {σ:List AO}
theorem YDg {c:Cx} {scope:Scope} {ts:List Str} {env:Env} (hc:compOk c scope ts=true) (O:EnvOk env c):
  closureFor scope env=pure (closOf env.cells scope.names [])∧scope.kind=.function∧∀ x∈scope.names,x.2=.local→scope.names.lookup x.1=some .local:=by
 unfold compOk at hc
 simp only [Bool.and_eq_true,beq_iff_eq,decide_eq_true_eq,List.all_eq_true,Bool.or_eq_true] at hc
 obtain ⟨⟨⟨hk,hnd⟩,hts⟩,hall⟩:=hc
 refine ⟨YEY fun p hp e=>O.cells _ ?_,hk,fun x hx e=>YV hnd (by rw [←e]; exact hx)⟩
 have:=hall p hp
 rw [e] at this
 simpa using this
theorem YBb {f:AV→List AO→Option (List AV×List AO)} {xv:AV} {n:Nat} {σ1:List AO} {r:List AV×List AO} (h:mapGo f xv n 0 σ1=some r):∃ a,nthA σ1 xv 0=some a:=
 YCz h (fun _ _ hn _=>⟨_,hn⟩) fun _ _ _ _ _ hn _ _ _=>⟨_,hn⟩
noncomputable def CompThen (prog:Program) (w:World) (rd:YE) (H₀:Heap) (A:Around) (E:Value→Shared→Prop) (s:Shared) (μ:Own) (r:AV×List AO) (use:Option (Value→Sem Unit)) (Q:Value→Shared→Prop):Prop:=
 ∀ μ' s' rv Cl,Ev [] μ s μ' s'→HS rd H₀ μ' r.2 s'.heap→RV μ' s'.heap r.1 rv→s.heap.get? Cl=none→FrObj s'.heap Cl→Cl∉μ'.all→H₀.get? Cl=none→(∃ m,s'.heap.Ns Cl m)→compPost (model prog w) A E use Q rv Cl (.ok .next) s'
noncomputable def OkC (prog:Program) (w:World) (rd:YE) (H₀:Heap) (A:Around) (Φ:Tab) (e:Mine.E) (c:Cx) (pe:PySem.Expr):Prop:=∀ {elt:PySem.Expr} {gens:List Comprehension} {scope:Scope} {pos:Pos},pe=.ListComp elt gens scope pos→∀ {env:Env} {ρ:List (Option AV)} {μ:Own} {σ:List AO} {s:Shared} {r:AV×List AO}
 {use:Option (Value→Sem Unit)} {Q:Value→Shared→Prop} {E:Value→Shared→Prop},St rd H₀ c env ρ μ σ s→evE Φ e ρ σ=some r→CompThen prog w rd H₀ A E s μ r use Q→
  wpAny (model prog w) A (comprehension (.ListComp elt gens scope pos) scope env (firstIterPos gens pos) (newList []) (firstAsync gens) (firstIter gens env) use) Q E s
theorem YJP {env:Env} {nm:List Str} {D:Addr} {μk:Own} {σk:List AO} {ρk:List (Option AV)} {ws:List AV} {s':Shared} {m:Bool} {r:AV×List AO} {use:Option (Value→Sem Unit)} {Q:Value→Shared→Prop}
  (h:CompThen prog w rd H₀ A E s μ r use Q) (l:LS rd H₀ env nm D μ s μk σk ρk ws [] s') (e:newL m σk ws=some r) (hl:s.heap.get? env.locals=none):compPost (model prog w) A E use Q (.ref D) env.locals (.ok .next) s':=by
 obtain ⟨μ',e',H',R',ho⟩:=l.made (v:=r.1) (σ':=r.2) e
 have ml:env.locals∈YA env:=List.mem_cons_self ..
 exact h μ' s' _ _ e' H' R' hl (l.fr.frObj _ ml) (ho _ (l.fr.own _ ml).1) (l.fr.own _ ml).2 l.fr.ns
theorem YKA {m:Bool} {elt it:Mine.E} {cs:Ts} {x:Str} {px pos:Pos} {pit pelt:PySem.Expr} {pifs:List PySem.Expr} {scope:Scope} {c:Cx}
  (C:Ctx prog w rd H₀ A Φ) (hc:compOk c scope [x]=true) (hit:OkE prog w rd H₀ A Φ it c pit) (helt:OkE prog w rd H₀ A Φ elt (c.into scope [x]) pelt) (hcs:OkTs prog w rd H₀ A Φ cs (c.into scope [x]) pifs):OkC prog w rd H₀ A Φ (.comp m elt it cs) c (.ListComp pelt [⟨.Name x px,pit,pifs,0⟩] scope pos):=by
 intro _ _ _ _ e0 env ρ μ σ s r use Q E st he h
 cases e0
 refine YI he fun xv e1 he=>YI (show (mapGo (tuF Φ cs elt fun v=>ρ++[some v]) xv.1 (turns xv.2 xv.1) 0 xv.2).bind _=some r from he) fun al e2 e3=>?_
 obtain ⟨f1,f2,f3⟩:=YDg hc st.en
 have hlim:al.1.length≤lim:=YBD e3 fun q _=>q
 obtain ⟨a,ha⟩:=YBb e2
 refine wpAny_comprehension_free rfl (fun y=>YBu hit.np env y) f1 f2 f3 (hit.run st e1 fun μ1 s1 r1 v1 H1 R1=>?_)
 refine YDz (s:=s) (μ:=μ) hc ha (st.ev v1 H1) v1 R1 fun I D cenv μ2 s4 l O ht hl=>?_
 have hx:slot (c.nm++[x]) x=some ρ.length:=by rw [←st.fr.len]; exact YCX ..
 have hw:=YGO hc (List.mem_singleton_self x) hx
 have go:=YGq (prog:=prog) (w:=w) (ρ₀:=ρ++[none]) (j:=ρ.length) (all:=al.1) (σe:=al.2) C.calm.1 hcs helt (loop1 (prog:=prog) (w:=w) (A:=A) (px:=px) (I:=I) (D:=D) (iter:=pit) (scope:=scope) (pos:=pos)) O hw (ht x (List.mem_singleton_self x)) hlim (fun v=>YHR ..)
  (R:=compPost (model prog w) A E use Q (.ref D) cenv.locals) (L:=[]) (fun μk ρk s' _ lk=>YJP (env:={ cenv with scope:=relabel scope env }) h lk e3 hl) e2 (List.nil_append _) (YHR ..) l
 exact codeAny_compStart_list go (YGh (l.its _ (List.mem_cons_self ..)) go)
theorem YSL {μ':Own} {σ':List AO} {s':Shared} {Cl:Addr} {h':Heap} (e:Ev [] μ s μ' s') (H:HS rd H₀ μ' σ' s'.heap) (h1:s.heap.get? Cl=none) (h2:FrObj s'.heap Cl) (h3:Cl∉μ'.all) (h4:H₀.get? Cl=none) (hs:Heap.SameBut Cl s'.heap h'):
  Ev [] μ s μ' { s' with heap:=h' }∧HS rd H₀ μ' σ' h'∧∀ {v rv},RV μ' s'.heap v rv→RV μ' h' v rv:=by
 have kk:=fun b o (q:b≠Cl) (z:s'.heap.get? b=some o)=>(hs.2 b q).trans z
 obtain ⟨⟨h₁,tk,hs₁⟩,ext,keep,alive⟩:=e
 refine ⟨⟨⟨h',tk,by rw [hs₁]⟩,ext,fun a o ho hn hx=>kk a o (fun q=>by rw [q,h1] at ho; cases ho) (keep a o ho hn hx),fun a ha=>?_⟩,H.but h2 h3 h4 kk,fun r=>?_⟩
 ·by_cases q:a=Cl
  ·rw [q]; exact h1
  ·exact alive a (by rw [←hs.2 a q]; exact ha)
 ·exact r.mono (X:=[Cl]) ⟨[],(Own.add_nil _).symm,by simp⟩ (fun a o z _ hx=>kk a o (fun q=>hx (by simp [q])) z) fun a q=>.inl (by rw [List.mem_singleton.mp q]; exact h2)
theorem YJh {r:AV×List AO} {Q:Value→Shared→Prop} (h:Then rd H₀ μ s Q r):CompThen prog w rd H₀ A E s μ r none Q:=
 fun μ' s' rv Cl e H R h1 h2 h3 h4 ⟨m,h5⟩=>⟨m,h5,fun h' hs=>by
  obtain ⟨e',H',R'⟩:=YSL e H h1 h2 h3 h4 hs
  exact h _ _ _ e' H' (R' R)⟩
theorem YQQ {e:Mine.E} {c:Cx} {elt:PySem.Expr} {gens:List Comprehension} {scope:Scope} {pos:Pos} (h:OkC prog w rd H₀ A Φ e c (.ListComp elt gens scope pos)):OkE prog w rd H₀ A Φ e c (.ListComp elt gens scope pos):=⟨rfl,fun st he k=>by
 rw [eval_ListComp]
 exact h rfl st he (YJh k)⟩
end
theorem YLL (elt t1 i1 t2 i2:PySem.Expr) (scope:Scope) (pos:Pos) (it acc:Value) (env:Env):
  compTurn (.ListComp elt [⟨t1,i1,[],0⟩,⟨t2,i2,[],0⟩] scope pos) 1 it acc env=(do
   standAt i2.pos
   match←pyNext it with
   | none=>pure (.done .next)
   | some v=>
    letOwnedTupleGo t2 it v
    assign t2 env v
    let mut ok:=true
    for c in ([]:List PySem.Expr) do
     if ok then ok←isTrue c env (eval c env)
    if ok then
     (do let _←call (.builtin "list.append") [acc,←eval elt env])
    again (.compLoop (.ListComp elt [⟨t1,i1,[],0⟩,⟨t2,i2,[],0⟩] scope pos) 1 it acc env)):=by rfl
theorem YJb (elt t1 i1 t2 i2:PySem.Expr) (scope:Scope) (pos:Pos) (it acc:Value) (env:Env):
  compTurn (.ListComp elt [⟨t1,i1,[],0⟩,⟨t2,i2,[],0⟩] scope pos) 0 it acc env=(do
   standAt i1.pos
   match←pyNext it with
   | none=>pure (.done .next)
   | some v=>
    letOwnedTupleGo t1 it v
    assign t1 env v
    let mut ok:=true
    for c in ([]:List PySem.Expr) do
     if ok then ok←isTrue c env (eval c env)
    if ok then
     let x←eval i2 env
     standAt i2.pos
     let x←foldedSetIterable i2 env x
     let _←runOwn (.compStart (.ListComp elt [⟨t1,i1,[],0⟩,⟨t2,i2,[],0⟩] scope pos) 1 (←holding [x] (pyIter x)) acc env) env
    again (.compLoop (.ListComp elt [⟨t1,i1,[],0⟩,⟨t2,i2,[],0⟩] scope pos) 0 it acc env)):=by rfl
section
variable {prog:Program} {w:World} {rd:YE} {H₀:Heap} {A:Around} {Φ:Tab} {E:Value→Shared→Prop} {s:Shared} {μ:Own} {σ:List AO}
theorem YLB {px:Pos} {x:Str} {I D:Addr} {elt t1 i1 i2:PySem.Expr} {env:Env} {scope:Scope} {pos:Pos}:
  LoopRule prog w A (.compLoop (.ListComp elt [⟨t1,i1,[],0⟩,⟨.Name x px,i2,[],0⟩] scope pos) 1 (.ref I) (.ref D) env) px x I D [] elt env:=by
 intro R J turn n s hJ
 refine codeAny_loop rfl J (fun n s hI=>?_) n hJ
 show wpAny _ A ((compTurn (.ListComp elt [⟨t1,i1,[],0⟩,⟨.Name x px,i2,[],0⟩] scope pos) 1 (.ref I) (.ref D) env).onRaise (fun x=>do noteFrame x env; theTreesLotGoes x)) _ _ s
 refine wpAny_noted ?_
 rw [YLL]
 refine wpAny_bind (wpAny_standAt (wpAny_bind (wpAny_mono (turn n s _ hI) (fun r s₁ h₁=>?_) fun _ _ h'=>h')))
 cases r with
 | none=>exact wpAny_pure h₁
 | some v=>
  refine wpAny_bind (wpAny_of_eq (a:=()) rfl ?_)
  refine wpAny_bind (wpAny_mono h₁ (fun _ s₂ h₂=>wpAny_bind (wpAny_mono h₂ (fun ok s₃ h₃=>?_) fun _ _ h'=>h')) fun _ _ h'=>h')
  cases ok with
  | false=>exact wpAny_pure ⟨rfl,h₃⟩
  | true=>
   exact wpAny_bind (wpAny_bind (wpAny_mono h₃ (fun x s₄ h₄=>wpAny_bind (wpAny_mono h₄ (fun _ s₅ h₅=>wpAny_pure (wpAny_pure ⟨rfl,h₅⟩)) fun _ _ h'=>h')) fun _ _ h'=>h'))
theorem YIq {px py:Pos} {x y:Str} {I D:Addr} {elt i1 i2:PySem.Expr} {env:Env} {scope:Scope} {pos:Pos} {R:Result→Shared→Prop} (J:Nat→Shared→Prop)
  (hset:∀ v,foldedSetIterable i2 env v=pure v)
  (turn:∀ n s (E:Value→Shared→Prop),J n s→wpAny (model prog w) A (pyNext (.ref I)) (fun r s₁=>match r with
   | none=>R (.ok .next) s₁
   | some v=>wpAny (model prog w) A (assign (.Name x px) env v) (fun _ s₂=>wpAny (model prog w) A (eval i2 env) (fun u s₃=>wpAny (model prog w) A (pyIter u) (fun it s₄=>
     codeAny (model prog w) A (.compStart (.ListComp elt [⟨.Name x px,i1,[],0⟩,⟨.Name y py,i2,[],0⟩] scope pos) 1 it (.ref D) env) (fun r s₅=>r=.ok .next∧∃ m,m<n∧J m s₅) s₄) E s₃) E s₂) E s₁) E s):
  ∀ n s,J n s→codeAny (model prog w) A (.compLoop (.ListComp elt [⟨.Name x px,i1,[],0⟩,⟨.Name y py,i2,[],0⟩] scope pos) 0 (.ref I) (.ref D) env) R s:=by
 intro n s hJ
 refine codeAny_loop rfl J (fun n s hI=>?_) n hJ
 show wpAny _ A ((compTurn (.ListComp elt [⟨.Name x px,i1,[],0⟩,⟨.Name y py,i2,[],0⟩] scope pos) 0 (.ref I) (.ref D) env).onRaise (fun x=>do noteFrame x env; theTreesLotGoes x)) _ _ s
 refine wpAny_noted ?_
 rw [YJb]
 refine wpAny_bind (wpAny_standAt (wpAny_bind (wpAny_mono (turn n s _ hI) (fun r s₁ h₁=>?_) fun _ _ h'=>h')))
 cases r with
 | none=>exact wpAny_pure h₁
 | some v=>
  refine wpAny_bind (wpAny_of_eq (a:=()) rfl ?_)
  refine wpAny_bind (wpAny_mono h₁ (fun _ s₂ h₂=>?_) fun _ _ h'=>h')
  refine wpAny_bind (wpAny_mono (wpAny_tests_nil (env:=env) (Q:=fun ok s₃=>ok=true∧s₃=s₂) ⟨rfl,rfl⟩) (fun ok s₃ h₃=>?_) fun _ _ h'=>h')
  obtain ⟨rfl,rfl⟩:=h₃
  show wpAny _ _ (eval i2 env >>= _) _ _ _
  refine wpAny_bind (wpAny_mono h₂ (fun u s₃ h₃=>?_) fun _ _ h'=>h')
  refine wpAny_bind (wpAny_standAt (wpAny_bind (wpAny_of_eq (hset u) ?_)))
  refine wpAny_bind (wpAny_holding (wpAny_mono h₃ (fun it s₄ h₄=>?_) fun _ _ h'=>h'))
  refine wpAny_bind (wpAny_runOwn (codeAny_mono h₄ fun r s₅ h₅=>?_))
  obtain ⟨rfl,h₅⟩:=h₅
  exact wpAny_pure ⟨rfl,h₅⟩
theorem compStart2 {elt t1 i1 t2 i2:PySem.Expr} {scope:Scope} {pos:Pos} {it acc:Value} {env:Env} {R:Result→Shared→Prop}
  (h0:codeAny (model prog w) A (.compLoop (.ListComp elt [⟨t1,i1,[],0⟩,⟨t2,i2,[],0⟩] scope pos) 1 it acc env) R s)
  (h:∀ E,wpAny (model prog w) A (pyIter it) (fun it' s'=>codeAny (model prog w) A (.compLoop (.ListComp elt [⟨t1,i1,[],0⟩,⟨t2,i2,[],0⟩] scope pos) 1 it' acc env) R s') E s):
  codeAny (model prog w) A (.compStart (.ListComp elt [⟨t1,i1,[],0⟩,⟨t2,i2,[],0⟩] scope pos) 1 it acc env) R s:=by
 refine codeAny_of_tree ?_
 show wpAny _ _ ((compStart (.ListComp elt [⟨t1,i1,[],0⟩,⟨t2,i2,[],0⟩] scope pos) 1 it acc env).onRaise (fun x=>do noteFrame x env; standAt theWindowsPlace)) _ _ s
 refine wpAny_notedAt ?_
 unfold compStart
 show wpAny _ _ (ask >>= _) _ _ s
 refine wpAny_bind (wpAny_askSetting (wpAny_ite ?_))
 split
 ·first
   | exact wpAny_bind (wpAny_pure (wpAny_pure (And.intro rfl h0)))
   | exact wpAny_pure (And.intro rfl h0)
 ·first
   | exact wpAny_bind (wpAny_rule (wpAny_bind (wpAny_standAt (wpAny_bind (wpAny_mono (h _) (fun it' s' h'=>wpAny_pure (And.intro rfl h')) fun _ _ x=>x)))))
   | (refine wpAny_bind (wpAny_rule ?_); show wpAny _ _ (standAt i2.pos >>= _) _ _ s; exact wpAny_bind (wpAny_standAt (wpAny_bind (wpAny_mono (h _) (fun it' s' h'=>wpAny_pure (And.intro rfl h')) fun _ _ x=>x))))
theorem YJA (ρ:List (Option AV)) (o u v:Option AV):(ρ++[o,u]).set ρ.length v=ρ++[v,u]:=by
 induction ρ with
 | nil=>rfl
 | cons a r ih=>simp [ih]
theorem YFt (ρ:List (Option AV)) (o u v:Option AV):(ρ++[o,u]).set (ρ.length+1) v=ρ++[o,v]:=by
 induction ρ with
 | nil=>rfl
 | cons a r ih=>simp [ih]
theorem unset3 {a:Option AV}:∀ (ρ:List (Option AV)) {r:List (Option AV)},r.set (ρ.length+1) none=ρ++[a,none]→∃ o u,r=ρ++[o,u]
 | [],r,h=>by
  rcases r with _ | ⟨x,_ | ⟨y,_ | ⟨z,t⟩⟩⟩
  ·simp at h
  ·simp at h
  ·exact ⟨x,y,rfl⟩
  ·simp at h
 | b::ρ,r,h=>by
  rcases r with _ | ⟨x,r⟩
  ·simp at h
  ·simp only [List.length_cons,List.set_cons_succ,List.cons_append,List.cons.injEq] at h
   obtain ⟨o,u,e⟩:=unset3 ρ h.2
   exact ⟨o,u,by rw [e,h.1]; rfl⟩
theorem YOx {ρ:List (Option AV)} {v:AV} {u:Option AV} {k:Nat} {z:AV} (q:(ρ++[some v,none])[k]?=some (some z)):(ρ++[some v,u])[k]?=some (some z):=by
 rw [List.getElem?_append] at q ⊢
 split at q
 ·rename_i hk
  rw [if_pos hk]; exact q
 ·rename_i hk
  rw [if_neg hk]
  generalize k-ρ.length=i at q ⊢
  match i,q with
  | 0,q=>exact q
  | 1,q=>exact nomatch Option.some.inj q
theorem YLj {nm:List Str} {x y:Str} (hxy:x≠y):slot (nm++[x,y]) x=some nm.length∧slot (nm++[x,y]) y=some (nm.length+1):=by
 rw [YAn,YAn]
 exact ⟨by simp [slot,Ne.symm hxy],by simp [slot]⟩
noncomputable def tuG (Φ:Tab) (it2 elt:Mine.E) (ρ:List (Option AV)) (v:AV) (σ:List AO):Option (List AV×List AO):=(evE Φ it2 (ρ++[some v,none]) σ).bind fun y=>mapGo (tuF Φ .nil elt fun u=>ρ++[some v,some u]) y.1 (turns y.2 y.1) 0 y.2
theorem YHO {m:Bool} {elt it1 it2:Mine.E} {x y':Str} {px py pos:Pos} {p1 p2 pelt:PySem.Expr} {scope:Scope} {c:Cx}
  (C:Ctx prog w rd H₀ A Φ) (hc:compOk c scope [x,y']=true) (hxy:x≠y') (hit1:OkE prog w rd H₀ A Φ it1 c p1) (hit2:OkE prog w rd H₀ A Φ it2 (c.into scope [x,y']) p2) (helt:OkE prog w rd H₀ A Φ elt (c.into scope [x,y']) pelt):
  OkC prog w rd H₀ A Φ (.comp2 m elt it1 it2) c (.ListComp pelt [⟨.Name x px,p1,[],0⟩,⟨.Name y' py,p2,[],0⟩] scope pos):=by
 intro _ _ _ _ e0 env ρ μ σ s r use Q E st he h
 cases e0
 refine YI he fun xv e1 he=>YI (show (mapGo (tuG Φ it2 elt ρ) xv.1 (turns xv.2 xv.1) 0 xv.2).bind _=some r from he) fun al e2 e3=>?_
 obtain ⟨f1,f2,f3⟩:=YDg hc st.en
 have hlim:al.1.length≤lim:=YBD e3 fun q _=>q
 obtain ⟨a,ha⟩:=YBb e2
 refine wpAny_comprehension_free rfl (fun y=>YBu hit1.np env y) f1 f2 f3 (hit1.run st e1 fun μ1 s1 r1 v1 H1 R1=>?_)
 refine YDz (s:=s) (μ:=μ) hc ha (st.ev v1 H1) v1 R1 fun I D cenv μ2 s4 l O ht hl=>?_
 obtain ⟨hx,hy⟩:=YLj (nm:=c.nm) hxy
 rw [st.fr.len] at hx hy
 have hwx:=YGO hc (at_ 0 rfl) hx
 have hwy:=YGO hc (at_ 1 rfl) hy
 have htx:=ht x (at_ 0 rfl)
 have hty:=ht y' (at_ 1 rfl)
 generalize hce:({ cenv with scope:=relabel scope env }:Env)=env2 at l O htx hty
 have hl2:s.heap.get? env2.locals=none:=by rw [←hce]; exact hl
 generalize hcc:c.into scope [x,y']=c2 at hit2 helt hwx hwy l O
 have go:codeAny (model prog w) A (.compLoop (.ListComp pelt [⟨.Name x px,p1,[],0⟩,⟨.Name y' py,p2,[],0⟩] scope pos) 0 (.ref I) (.ref D) env2) (compPost (model prog w) A E use Q (.ref D) env2.locals) s4:=by
  refine YIq (fun n s'=>∃ g:GR,mapGo (tuG Φ it2 elt ρ) xv.1 n g.i g.σ=some (g.rest,al.2)∧g.ws++g.rest=al.1∧(∃ o u,g.ρ=ρ++[o,u])∧LS rd H₀ env2 c2.nm D μ s g.μ g.σ g.ρ g.ws [(xv.1,g.i,I)] s') (fun y=>YBu hit2.np env2 y) ?_ _ s4 ⟨⟨0,xv.2,_,_,[],al.1⟩,e2,List.nil_append _,⟨_,_,rfl⟩,l⟩
  clear l
  intro n s' E' ⟨g,hg,hall,⟨o,u,hρ⟩,l⟩
  refine YCz hg (fun k _ hn hr=>?_) fun k v p q en hn e1 e3' hr=>?_
  ·refine l.fin C.calm.1 hn fun s'' l'=>?_
   rw [(Prod.mk.inj hr).1,List.append_nil] at hall
   rw [hall,←(Prod.mk.inj hr).2] at l'
   exact YJP h l' e3 hl2
  ·subst en
   obtain ⟨hr1,hr2⟩:=Prod.mk.inj hr
   have hall2:(g.ws++p.1)++q.1=al.1:=by rw [hr1] at hall; rw [List.append_assoc]; exact hall
   refine l.item hn fun μ1 rx s1 l1 R1=>?_
   refine l1.store O rfl hwx htx R1 fun s2 l2=>?_
   rw [hρ,YJA] at l2
   have l2':LS rd H₀ env2 c2.nm D μ s μ1 g.σ (ρ++[some v,none]) g.ws [(xv.1,g.i+1,I)] s2:=
    ⟨l2.ev,l2.hs,l2.fr.less (by rw [List.length_append,List.length_append]; rfl) (fun k z q=>YOx q),l2.acc,l2.its,l2.off,l2.dis,l2.dn,l2.df⟩
   refine YI e1 fun y ey g2=>hit2.run (l2'.st O) ey fun μ3 s3 ry e' H3 R3=>?_
   obtain ⟨μ3',rfl,l3⟩:=l2'.step e' H3
   obtain ⟨a2,ha2⟩:=YBb g2
   refine YJq R3 ha2 H3 fun I2 s5 hI2 e5 H5 it5=>?_
   obtain ⟨μ5,he5,l5⟩:=l3.step e5 H5
   have:=(YBQ he5).symm
   subst this
   have hI2s:s.heap.get? I2=none:=l3.ev.alive _ hI2
   have nn:∀ {o:Obj},s3.heap.get? I2=some o→False:=fun e=>by rw [hI2] at e; cases e
   have hI2f:I2∉YA env2:=fun q=>(l3.fr.frObj I2 q).elim fun _ z=>nn z.1
   have hI2D:I2≠D:=fun q=>by
    obtain ⟨ys,⟨_,p⟩,_⟩:=l3.acc
    exact nn (q▸p)
   have hI2I:I2≠I:=fun q=>(l3.its _ (List.mem_cons_self ..)).some.elim fun _ ho=>nn (q▸ho)
   have l6:LS rd H₀ env2 c2.nm D μ s μ5 y.2 (ρ++[some v,none]) g.ws [(y.1,0,I2),(xv.1,g.i+1,I)] s5:=
    ⟨l5.ev,l5.hs,l5.fr,l5.acc,List.forall_mem_cons.mpr ⟨it5,l5.its⟩,List.forall_mem_cons.mpr ⟨⟨hI2s,hI2f,hI2D⟩,l5.off⟩,by simpa using hI2I,l5.dn,l5.df⟩
   have inner:=YGq (prog:=prog) (w:=w) (A:=A) (cs:=.nil) (ρ₀:=ρ++[some v,none]) (j:=ρ.length+1) (all:=g.ws++p.1) (σe:=p.2) (c:=c2) (L:=[(xv.1,g.i+1,I)]) C.calm.1 YIp helt
    (YLB (prog:=prog) (w:=w) (A:=A) (px:=py) (x:=y') (I:=I2) (D:=D) (t1:=.Name x px) (i1:=p1) (i2:=p2) (elt:=pelt) (env:=env2) (scope:=scope) (pos:=pos)) O hwy hty
    (Nat.le_trans (hall2▸(List.prefix_append (g.ws++p.1) q.1).length_le) hlim) (fun u=>YFt ..)
    (R:=fun r s₅=>r=.ok .next∧∃ m,m<k+1∧∃ g:GR,mapGo (tuG Φ it2 elt ρ) xv.1 m g.i g.σ=some (g.rest,al.2)∧g.ws++g.rest=al.1∧(∃ o u,g.ρ=ρ++[o,u])∧LS rd H₀ env2 c2.nm D μ s g.μ g.σ g.ρ g.ws [(xv.1,g.i,I)] s₅)
    (fun μk ρk s' hρ lk=>⟨rfl,k,Nat.lt_succ_self _,⟨g.i+1,_,_,_,g.ws++p.1,q.1⟩,hr2▸e3',hall2,unset3 ρ hρ,lk⟩) g2 rfl (YFt ..) l6
   exact compStart2 inner fun E=>YGh (l6.its _ (List.mem_cons_self ..)) inner
 subst hcc hce
 exact codeAny_compStart_list go (YGh (l.its _ (List.mem_cons_self ..)) go)
end
noncomputable def FlR (μ:Own) (h:Heap) (fl:Fl) (f:Flow):Prop:=match fl with
 | .next=>f=.next
 | .brk=>f=.brk
 | .cont=>f=.cont
 | .ret v=>∃ rv,f=.ret rv∧RV μ h v rv
noncomputable def ThenS (rd:YE) (H₀:Heap) (c:Cx) (env:Env) (μ:Own) (s:Shared) (Q:Flow→Shared→Prop) (r:Fl×List (Option AV)×List AO):Prop:=∀ μ' s' f,Ev (YA env) μ s μ' s'→St rd H₀ c env r.2.1 μ' r.2.2 s'→FlR μ' s'.heap r.1 f→Q f s'
section
variable (prog:Program) (w:World) (rd:YE) (H₀:Heap) (A:Around) (Φ:Tab)
noncomputable def OkS (e:S) (c:Cx) (ps:Stmt):Prop:=∀ {env:Env} {ρ:List (Option AV)} {μ:Own} {σ:List AO} {s:Shared} {r:Fl×List (Option AV)×List AO} {Q:Flow→Shared→Prop} {E:Value→Shared→Prop},
 St rd H₀ c env ρ μ σ s→exS Φ e ρ σ=some r→ThenS rd H₀ c env μ s Q r→wpAny (model prog w) A (exec ps env) Q E s
noncomputable def OkSs (e:Ss) (c:Cx) (ps:List Stmt):Prop:=∀ {env:Env} {ρ:List (Option AV)} {μ:Own} {σ:List AO} {s:Shared} {r:Fl×List (Option AV)×List AO} {Q:Flow→Shared→Prop} {E:Value→Shared→Prop},
 St rd H₀ c env ρ μ σ s→exSs Φ e ρ σ=some r→ThenS rd H₀ c env μ s Q r→wpAny (model prog w) A (execs ps env) Q E s
end
section
variable {prog:Program} {w:World} {rd:YE} {H₀:Heap} {A:Around} {Φ:Tab} {E:Value→Shared→Prop} {s:Shared} {μ:Own} {σ:List AO} {env:Env} {c:Cx} {ρ:List (Option AV)}
theorem Ev.over {X Y:List Addr} {μ' μ'':Own} {s' s'':Shared} (e:Ev Y μ s μ' s') (e':Ev X μ' s' μ'' s'') (hX:∀ a∈X,a∈Y∨s.heap.get? a=none):Ev Y μ s μ'' s'':=
 ((e.wide (Y:=Y++X) fun _ q=>List.mem_append.mpr (.inl q)).trans (e'.wide fun _ q=>List.mem_append.mpr (.inr q))).shed fun a q=>(List.mem_append.mp q).elim .inl (hX a)
theorem Ev.off {Y:List Addr} {μ':Own} {s':Shared} {Cl:Addr} {h':Heap} (e:Ev Y μ s μ' s') (h1:s.heap.get? Cl=none) (hs:Heap.SameBut Cl s'.heap h'):Ev Y μ s μ' { s' with heap:=h' }:=by
 have kk:=fun b o (q:b≠Cl) (z:s'.heap.get? b=some o)=>(hs.2 b q).trans z
 obtain ⟨⟨h₁,tk,hs₁⟩,ext,keep,alive⟩:=e
 refine ⟨⟨h',tk,by rw [hs₁]⟩,ext,fun a o ho hn hx=>kk a o (fun q=>by rw [q,h1] at ho; cases ho) (keep a o ho hn hx),fun a ha=>?_⟩
 by_cases q:a=Cl
 ·rw [q]; exact h1
 ·exact alive a (by rw [←hs.2 a q]; exact ha)
theorem FR.kept {nm:List Str} {h h':Heap} {Cl:Addr} (F:FR H₀ env nm ρ μ h) (fo:FrObj h Cl) (hn:Cl∉YA env) (kk:∀ b o,b≠Cl→h.get? b=some o→h'.get? b=some o):FR H₀ env nm ρ μ h':=by
 have nI:∀ a∈YA env,a≠Cl:=fun a q r=>hn (r▸q)
 have k1:∀ a,a≠Cl→∀ o,h.get? a=some o→h'.get? a=some o:=fun a ha o e=>kk a o ha e
 have ext:∃ ν,μ=μ.add ν∧∀ a∈ν.flatten,h.get? a=none:=⟨[],(Own.add_nil _).symm,fun _ q=>(nomatch q)⟩
 refine ⟨F.kind,F.glob,F.blt,?_,fun x c hc=>?_,F.own,F.apart,F.len,fun x i v h1 h2 h3=>?_⟩
 ·obtain ⟨m,hm⟩:=F.ns
  exact ⟨m,YET hm (k1 _ (nI _ (List.mem_cons_self ..)))⟩
 ·obtain ⟨v,hv⟩:=F.cells x c hc
  exact ⟨v,Yx hv (k1 _ (nI _ (List.mem_cons_of_mem _ (List.mem_map.mpr ⟨_,hc,rfl⟩))))⟩
 ·obtain ⟨rv,h4,h5⟩:=F.vars x i v h1 h2 h3
  exact ⟨rv,h4.keeps fun a ha=>k1 a (nI a ha),h5.mono (X:=[Cl]) ext (fun a o z _ hx=>kk a o (fun q=>hx (List.mem_singleton.mpr q)) z) fun a q=>.inl (by rw [List.mem_singleton.mp q]; exact fo)⟩
theorem YAN {x:Str} {i:Nat} {v:AV} {rv:Value} {Q:Unit→Shared→Prop} (st:St rd H₀ c env ρ μ σ s) (hw:c.wr x i=true) (r:RV μ s.heap v rv)
  (h:∀ s',Ev (YA env) μ s μ s'→St rd H₀ c env (ρ.set i (some v)) μ σ s'→Q () s'):wpAny (model prog w) A (storeName env x rv) Q E s:=by
 obtain ⟨h1,h3⟩:=st.en.wr hw
 refine st.fr.store st.hs r h1 h3 fun s' e H' F'=>h s' (e.wide fun a q=>?_) ⟨F',H',st.en⟩
 rw [List.mem_singleton.mp q]; exact YGD h3
noncomputable def isPl:PySem.Expr→Bool
 | .ListComp .. | .SetComp .. | .DictComp ..=>false
 | _=>true
theorem YBd {pe:PySem.Expr} (h:isPl pe=true) (t:Option PySem.Expr) (l:Nat) (env:Env):swapsWith pe t l env=pure false:=by
 cases pe <;> first | rfl | exact nomatch h
theorem YNv {e:Mine.E} {pe:PySem.Expr} {p:Pos} (hp:isPl pe=true) (he₀:OkE prog w rd H₀ A Φ e c pe):OkS prog w rd H₀ A Φ (.expr e) c (.Expr pe p):=fun {env ρ μ σ s r Q E} st he h=>by
 revert h; refine YBY he fun x e1 h=>?_
 refine wpAny_Expr_any (he₀.run st e1 fun μ1 s1 r1 v1 H1 R1=>h _ _ _ v1.wide0 (st.ev v1 H1) rfl) ?_ (YBd hp _ _ _)
 unfold interactive
 rw [st.fr.kind]; rfl
theorem YFE {i:Nat} {e:Mine.E} {x:Str} {px pos:Pos} {pe:PySem.Expr} (hw:c.wr x i=true) (he₀:OkE prog w rd H₀ A Φ e c pe) {r:AV×List AO} {Q:Flow→Shared→Prop} (hs:swapsWith pe (some (.Name x px)) pos.line env=pure false)
  (st:St rd H₀ c env ρ μ σ s) (e1:evE Φ e ρ σ=some r) (h:ThenS rd H₀ c env μ s Q (.next,ρ.set i (some r.1),r.2)):wpAny (model prog w) A (exec (.Assign [.Name x px] pe pos) env) Q E s:=
 wpAny_Assign_Name (he₀.run st e1 fun μ1 s1 r1 v1 H1 R1=>YAN (st.ev v1 H1) hw R1 fun s2 v2 st2=>h _ _ _ (v1.wide0.trans v2) st2 rfl) hs
theorem YSj {i:Nat} {e:Mine.E} {x:Str} {px pos:Pos} {pe:PySem.Expr} (hp:isPl pe=true) (hw:c.wr x i=true) (he₀:OkE prog w rd H₀ A Φ e c pe):OkS prog w rd H₀ A Φ (.asg i e) c (.Assign [.Name x px] pe pos):=fun {env ρ μ σ s r Q E} st he h=>by
 revert h; exact YBY he fun x e1 h=>YFE hw he₀ (YBd hp _ _ _) st e1 h
theorem YNQ {i:Nat} {e:Mine.E} {x:Str} {px pos cpos:Pos} {elt:PySem.Expr} {gens:List Comprehension} {scope:Scope} (hw:c.wr x i=true) (he₀:OkC prog w rd H₀ A Φ e c (.ListComp elt gens scope cpos)):OkS prog w rd H₀ A Φ (.asg i e) c (.Assign [.Name x px] (.ListComp elt gens scope cpos) pos):=fun {env ρ μ σ s r Q E} st he h=>by
 revert h
 refine YBY he fun v e1 h=>?_
 obtain ⟨b,hb⟩:∃ b,swapsWith (.ListComp elt gens scope cpos) (some (.Name x px)) pos.line env=pure b:=⟨_,rfl⟩
 cases b with
 | false=>exact YFE hw (YQQ he₀) hb st e1 h
 | true=>
  rw [exec_Assign_Name_used _ _ _ _ hb,arm_evalThenUse_ListComp]
  refine wpAny_bind (wpAny_standAt (wpAny_bind ?_))
  refine wpAny_bind (he₀ rfl st e1 (use:=some (assign (.Name x px) env)) fun μ1 s1 rv Cl v1 H1 R1 n1 n2 n3 n4 n5=>?_)
  show wpAny _ _ (assign (.Name x px) env rv) _ _ _
  have hCF:Cl∉YA env:=fun q=>(st.fr.frObj Cl q).elim fun _ z=>by
   have:=z.1
   rw [n1] at this; cases this
  refine wpAny_assign_Name (YAN (st.ev v1 H1) hw R1 fun s2 v2 st2=>?_)
  have hk:∀ o,s1.heap.get? Cl=some o→s2.heap.get? Cl=some o:=fun o ho=>v2.keep Cl o ho (fun q=>n3 (Own.os_all q)) hCF
  obtain ⟨m,n5⟩:=n5
  refine ⟨m,YET n5 hk,fun h' hs=>?_⟩
  have fo:FrObj s2.heap Cl:=let ⟨o,ho,z⟩:=n2; ⟨o,hk o ho,z⟩
  have kk:=fun b o (q:b≠Cl) (z:s2.heap.get? b=some o)=>(hs.2 b q).trans z
  exact wpAny_pure (wpAny_pure (h _ _ _ ((v1.wide0.trans v2).off n1 hs) ⟨st2.fr.kept fo hCF kk,st2.hs.but fo n3 n4 kk,st.en⟩ rfl))
end
section
variable {prog:Program} {w:World} {rd:YE} {H₀:Heap} {A:Around} {Φ:Tab} {E:Value→Shared→Prop} {s:Shared} {μ:Own} {σ:List AO} {env:Env} {c:Cx} {ρ:List (Option AV)}
theorem YHZ {μ':Own} {s':Shared} (F:FR H₀ env c.nm ρ μ s.heap) (e:Ev (YA env) μ s μ' s') {v:AV} {rv:Value} (r:RV μ s.heap v rv):RV μ' s'.heap v rv:=e.rv F.frObj r
noncomputable def isPl2:PySem.Expr→Bool
 | .Tuple .. | .List .. | .ListComp .. | .SetComp .. | .DictComp ..=>false
 | _=>true
theorem YIO {pe:PySem.Expr} (h:isPl2 pe=true) (t:PySem.Expr) (l:Nat) (env:Env):swapsWithSole [t] pe l env=pure false:=by
 show swapsWith pe _ _ _=_
 cases pe <;> first | rfl | exact nomatch h
theorem YKH {pe:PySem.Expr} (h:isPl2 pe=true) (x y:Str) (p q:Pos) (env:Env):swappedStores [.Name x p,.Name y q] pe env=pure none:=by
 cases pe <;> first | rfl | exact nomatch h
theorem YId {pe:PySem.Expr} (h:isPl2 pe=true) (l:List PySem.Expr) (k:Nat) (p:Pos) (env:Env):swappedStores [.Tuple l k p] pe env=pure none:=by
 cases pe <;> first | rfl | exact nomatch h
theorem YPS {i j:Nat} {e:Mine.E} {x y:Str} {p q pos:Pos} {pe:PySem.Expr} (hp:isPl2 pe=true) (w1:c.wr x i=true) (w2:c.wr y j=true) (he₀:OkE prog w rd H₀ A Φ e c pe):OkS prog w rd H₀ A Φ (.asg2 i j e) c (.Assign [.Name x p,.Name y q] pe pos):=fun {env ρ μ σ s r Q E} st he h=>by
 revert h; refine YBY he fun v e1 h=>?_
 refine wpAny_Assign_two (he₀.run st e1 fun μ1 s1 r1 v1 H1 R1=>?_) rfl (YKH hp _ _ _ _ _)
 exact wpAny_assign_Name (YAN (st.ev v1 H1) w1 R1 fun s2 v2 st2=>wpAny_assign_Name (YAN st2 w2 (YHZ (st.ev v1 H1).fr v2 R1) fun s3 v3 st3=>h _ _ _ (v1.wide0.trans (v2.trans v3)) st3 rfl))
theorem tup2 {a b:AV} {rv:Value} (r:RV μ s.heap (.tup [a,b]) rv):∃ t x y,rv=.ref t∧IsTup s.heap t #[x,y]∧RV μ s.heap a x∧RV μ s.heap b y:=by
 obtain ⟨t,xs,rfl,⟨n,p⟩,_,q⟩:=r.inv
 obtain ⟨x,y,rfl,r1,r2⟩:=q.two
 exact ⟨t,x,y,rfl,⟨_,p,rfl,n,rfl⟩,r1,r2⟩
theorem YMh {x y:Str} {i j:Nat} {a b:AV} {vx vy:Value} {Q:Flow→Shared→Prop} {μ1:Own} {s1:Shared} (v1:Ev [] μ s μ1 s1) (st:St rd H₀ c env ρ μ1 σ s1) (w1:c.wr x i=true) (w2:c.wr y j=true) (Rx:RV μ1 s1.heap a vx) (Ry:RV μ1 s1.heap b vy) {h':Heap} (hx:∀ a o,a≠s1.heap.objs.size→s1.heap.get? a=some o→h'.get? a=some o)
  (h:ThenS rd H₀ c env μ s Q (.next,(ρ.set i (some a)).set j (some b),σ)):
  wpAny (model prog w) A (storeName env x vx) (fun _ s2=>wpAny (model prog w) A (storeName env y vy) (fun _ s3=>Q .next s3) E s2) E { s1 with heap:=h' }:=by
 have kk:∀ a o,s1.heap.get? a=some o→h'.get? a=some o:=fun a o ho=>hx a o (fun q=>by rw [q,YN] at ho; cases ho) ho
 have v2:Ev [] μ1 s1 μ1 { s1 with heap:=h' }:=Ev.keeps (tk:=s1.toks) kk
 have st2:=st.ev v2 (st.hs.keep0 kk)
 exact YAN st2 w1 (v2.rv0 Rx) fun s3 v3 st3=>YAN st3 w2 (YHZ st2.fr v3 (v2.rv0 Ry)) fun s4 v4 st4=>h _ _ _ (v1.wide0.trans (v2.wide0.trans (v3.trans v4))) st4 rfl
theorem YRY {i j:Nat} {e:Mine.E} {x y:Str} {p q pos tp:Pos} {k:Nat} {pe:PySem.Expr} (C:Ctx prog w rd H₀ A Φ) (hp:isPl2 pe=true) (w1:c.wr x i=true) (w2:c.wr y j=true) (he₀:OkE prog w rd H₀ A Φ e c pe):OkS prog w rd H₀ A Φ (.unp i j e) c (.Assign [.Tuple [.Name x p,.Name y q] k tp] pe pos):=fun {env ρ μ σ s r Q E} st he h=>YI he fun v e1 he=>YDm he fun a b ev he=>by
 revert h; refine Ys he fun h=>?_
 refine Assign_Tuple (he₀.run st e1 fun μ1 s1 r1 v1 H1 R1=>?_) (YIO hp _ _ _) (YId hp _ _ _ _)
 obtain ⟨t,x',y',rfl,ht,Rx,Ry⟩:=tup2 (ev▸R1)
 refine assign_Tuple_tuple C.calm.1 ht rfl rfl fun h' hx=>?_
 show wpAny _ _ (holding [y'] (assign _ env x') >>= fun _=>assignInOrder [assign _ env] [y']) _ _ _
 refine wpAny_bind (wpAny_holding (wpAny_assign_Name ?_))
 refine wpAny_mono (YMh (A:=A) (E:=E) v1 (st.ev v1 H1) w1 w2 Rx Ry hx h) (fun _ s2 h2=>?_) fun _ _ x=>x
 show wpAny _ _ (holding [] (assign _ env y') >>= fun _=>pure ()) _ _ _
 exact wpAny_bind (wpAny_holding (wpAny_assign_Name (wpAny_mono h2 (fun _ _ z=>wpAny_pure z) fun _ _ x=>x)))
theorem YGb {env:Env} {x y u v:Str} {p q a b k1p rp:Pos} {k1 k:Nat} (bk:env.blockKind=.function) (kx:env.kindOf x=some .local) (ky:env.kindOf y=some .local) (hne:x≠y) (hl:p.line=q.line) (hdb:¬u=Str.ofString "__debug__"):
  swappedStores [.Tuple [.Name x p,.Name y q] k1 k1p] (.Tuple [.Name u a,.Name v b] k rp) env=pure (some [x,y]):=by
 have hyx:(y==x)=false:=beq_eq_false_iff_ne.mpr (Ne.symm hne)
 have f1:∀ u a,foldedForSure 8 (.Name u a)=false:=fun _ _=>rfl
 have f2:∀ u a,constantsAlone 8 (.Name u a)=(u==("__debug__":Str)):=fun _ _=>rfl
 have f3:∀ u a,(Expr.Name u a).pos=a:=fun _ _=>rfl
 have hdb:(u==("__debug__":Str))=false:=beq_eq_false_iff_ne.mpr hdb
 delta swappedStores
 dsimp only
 simp only [bk,kx,ky,f1,f2,f3,hl,hdb,List.filterMap_cons,List.filterMap_nil,List.head?_cons,Option.map_some,Option.getD_some,List.length_cons,List.length_nil,List.any_cons,List.any_nil,List.all_cons,List.all_nil,List.eraseDups,List.eraseDupsBy,List.eraseDupsBy.loop,hyx,beq_self_eq_true,Bool.and_self,Bool.true_and,Bool.false_and,if_true,bne_self_eq_false,Bool.or_false,Bool.or_self,Bool.false_eq_true,if_false]
 rfl
theorem YOO {i j:Nat} {e:Mine.E} {x y u v:Str} {p q a b tp rp pos:Pos} {k1 k:Nat} (C:Ctx prog w rd H₀ A Φ) (w1:c.wr x i=true) (w2:c.wr y j=true) (hne:x≠y) (hl:p.line=q.line) (l1:c.names.lookup x=some .local) (l2:c.names.lookup y=some .local) (hdb:¬u=Str.ofString "__debug__")
  (he₀:OkE prog w rd H₀ A Φ e c (.Tuple [.Name u a,.Name v b] k rp)):OkS prog w rd H₀ A Φ (.swap i j e) c (.Assign [.Tuple [.Name x p,.Name y q] k1 tp] (.Tuple [.Name u a,.Name v b] k rp) pos):=fun {env ρ μ σ s r Q E} st he h=>YI he fun v e1 he=>YDm he fun a b ev he=>by
 revert h; refine Ys he fun h=>?_
 have loc:∀ {z:Str},c.names.lookup z=some .local→env.kindOf z=some .local:=fun {z} l=>(st.en.kind z).elim (fun q=>q.trans l) fun q=>by rw [l] at q; cases q.1
 have bk:env.blockKind=.function:=by unfold Env.blockKind; rw [st.fr.kind]; rfl
 refine Assign_Tuple_swapped (he₀.run st e1 fun μ1 s1 r1 v1 H1 R1=>?_) rfl (YGb bk (loc l1) (loc l2) hne hl hdb)
 obtain ⟨t,x',y',rfl,ht,Rx,Ry⟩:=tup2 (ev▸R1)
 show wpAny _ _ (unpackItems (.ref t) (#[x',y']:Array Value).size none) _ _ _
 refine unpackItems_tuple C.calm.1 ht fun h' hx=>?_
 show wpAny _ _ (holding [x'] (bindName env y y') >>= fun _=>assignInOrder [fun v=>bindName env x v] [x']) _ _ _
 refine wpAny_bind (wpAny_holding (wpAny_bindName ?_))
 refine wpAny_mono (YMh (A:=A) (E:=E) v1 (st.ev v1 H1) w2 w1 Ry Rx hx h) (fun _ s2 h2=>?_) fun _ _ x=>x
 show wpAny _ _ (holding [] (bindName env x x') >>= fun _=>pure ()) _ _ _
 exact wpAny_bind (wpAny_holding (wpAny_bindName (wpAny_mono h2 (fun _ _ z=>wpAny_pure z) fun _ _ x=>x)))
theorem YPB {o i e:Mine.E} {po pi pe:PySem.Expr} {p pos:Pos} (hp:isPl pe=true) (ho:OkE prog w rd H₀ A Φ o c po) (hi:OkE prog w rd H₀ A Φ i c pi) (he₀:OkE prog w rd H₀ A Φ e c pe):OkS prog w rd H₀ A Φ (.sset o i e) c (.Assign [.Subscript po pi p] pe pos):=fun {env ρ μ σ s r Q E} st he h=>YI he fun x e1 he=>YI he fun y e2 he=>YI he fun z e3 he=>by
 revert h; refine YBY he fun σ4 e4 h=>?_
 exact wpAny_Assign_Subscript (he₀.run st e1 fun μ1 s1 r1 v1 H1 R1=>ho.run (st.ev v1 H1) e2 fun μ2 s2 r2 v2 H2 R2=>hi.run (st.ev (v1.trans v2) H2) e3 fun μ3 s3 r3 v3 H3 R3=>
  YPz e4 H3 (v3.rv0 R2) R3 (v3.rv0 (v2.rv0 R1)) fun s4 v4 H4=>h _ _ _ (v1.trans (v2.trans (v3.trans v4))).wide0 (st.ev (v1.trans (v2.trans (v3.trans v4))) H4) rfl) (YBd hp _ _ _)
theorem YRq {i:Nat} {op:Operator} {e:Mine.E} {x:Str} {px pos:Pos} {pe:PySem.Expr} (C:Ctx prog w rd H₀ A Φ) (hr:c.rd x i=true) (hw:c.wr x i=true) (he₀:OkE prog w rd H₀ A Φ e c pe):OkS prog w rd H₀ A Φ (.aug i op e) c (.AugAssign (.Name x px) op pe pos):=fun {env ρ μ σ s r Q E} st he h=>YFR he fun v hρ he=>YI he fun x e1 he=>by
 revert h; refine YBY he fun y e2 h=>?_
 obtain ⟨h1,h2,h3,h4⟩:=YGv hr
 refine wpAny_AugAssign_Name (st.fr.load (pos:=⟨0,0,0,0⟩) h1 hρ (st.en.vis h2) h3 h4 fun rv r=>he₀.run st e1 fun μ1 s1 r1 v1 H1 R1=>YSC e2 C.calm H1 (v1.rv0 r) R1 fun s2 r2 v2 H2 R2=>?_)
 exact YAN (st.ev (v1.trans v2) H2) hw R2 fun s3 v3 st3=>h _ _ _ ((v1.trans v2).wide0.trans v3) st3 rfl
theorem ThenS.after {Q:Flow→Shared→Prop} {r:Fl×List (Option AV)×List AO} {μ1:Own} {s1:Shared} (h:ThenS rd H₀ c env μ s Q r) (v1:Ev (YA env) μ s μ1 s1):ThenS rd H₀ c env μ1 s1 Q r:=fun _ _ _ v2=>h _ _ _ (v1.trans v2)
theorem YRV {t:T} {a b:Ss} {pt:PySem.Expr} {pa pb:List Stmt} {pos:Pos} (ht:OkT prog w rd H₀ A Φ t c pt) (ha:OkSs prog w rd H₀ A Φ a c pa) (hb:OkSs prog w rd H₀ A Φ b c pb):OkS prog w rd H₀ A Φ (.ite t a b) c (.If pt pa pb pos):=fun {env ρ μ σ s r Q E} st he h=>YI he fun x e1 he=>wpAny_If (ht st e1 fun μ1 s1 v1 H1=>by
 obtain ⟨t,σ1⟩:=x
 cases t with
 | true=>exact ha (st.ev v1 H1) he (h.after v1.wide0)
 | false=>exact hb (st.ev v1 H1) he (h.after v1.wide0))
theorem YTC {e:Mine.E} {pe:PySem.Expr} {pos:Pos} (he₀:OkE prog w rd H₀ A Φ e c pe):OkS prog w rd H₀ A Φ (.ret e) c (.Return (some pe) pos):=fun {env ρ μ σ s r Q E} st he h=>by
 revert h; refine YBY he fun x e1 h=>?_
 exact wpAny_Return_some (he₀.run st e1 fun μ1 s1 r1 v1 H1 R1=>h _ _ _ v1.wide0 (st.ev v1 H1) ⟨_,rfl,R1⟩)
theorem YRj {pos:Pos}:OkS prog w rd H₀ A Φ .brk c (.Break pos):=fun {env ρ μ σ s r Q E} st he h=>by
 revert h; exact Ys he fun h=>wpAny_Break (h _ _ _ (Ev.refl ..) st rfl)
theorem YOL {pos:Pos}:OkS prog w rd H₀ A Φ .cont c (.Continue pos):=fun {env ρ μ σ s r Q E} st he h=>by
 revert h; exact Ys he fun h=>wpAny_Continue (h _ _ _ (Ev.refl ..) st rfl)
theorem YPC:OkSs prog w rd H₀ A Φ .nil c []:=fun {env ρ μ σ s r Q E} st he h=>by
 revert h; exact Ys he fun h=>wpAny_execs_nil (h _ _ _ (Ev.refl ..) st rfl)
theorem YMa {e:S} {es:Ss} {p:Stmt} {q:List Stmt} (he₀:OkS prog w rd H₀ A Φ e c p) (hr:OkSs prog w rd H₀ A Φ es c q):OkSs prog w rd H₀ A Φ (.cons e es) c (p::q):=fun {env ρ μ σ s r Q E} st he h=>YI he fun x e1 he=>wpAny_execs_cons (he₀ st e1 fun μ1 s1 f v1 st1 R=>by
 obtain ⟨fl,ρ1,σ1⟩:=x
 cases fl with
 | next=>obtain rfl:f=.next:=R; exact hr st1 he (h.after v1)
 | brk=>obtain rfl:f=.brk:=R; revert h; exact Ys he fun h=>h _ _ _ v1 st1 rfl
 | cont=>obtain rfl:f=.cont:=R; revert h; exact Ys he fun h=>h _ _ _ v1 st1 rfl
 | ret v=>obtain ⟨rv,rfl,R⟩:=R; revert h; exact Ys he fun h=>h _ _ _ v1 st1 ⟨rv,rfl,R⟩)
theorem YEX {Q:Flow→Shared→Prop} {x r:Fl×List (Option AV)×List AO} {f:Flow} {go:List (Option AV)→List AO→Option (Fl×List (Option AV)×List AO)} {μ2:Own} {s2:Shared} {J:Prop} (he:(match x.1 with
   | .next | .cont=>go x.2.1 x.2.2
   | .brk=>some (.next,x.2)
   | .ret v=>some (.ret v,x.2))=some r) (h:ThenS rd H₀ c env μ s Q r) (ev:Ev (YA env) μ s μ2 s2) (st2:St rd H₀ c env x.2.1 μ2 x.2.2 s2) (R:FlR μ2 s2.heap x.1 f) (k:go x.2.1 x.2.2=some r→J):
  match (generalizing:=false) f with
   | .next | .cont=>J
   | .brk=>Q .next s2
   | .ret v=>Q (.ret v) s2:=by
 obtain ⟨fl,ρ1,σ1⟩:=x
 cases fl with
 | next=>obtain rfl:f=.next:=R; exact k he
 | cont=>obtain rfl:f=.cont:=R; exact k he
 | brk=>obtain rfl:f=.brk:=R; revert h; exact Ys he fun h=>h _ _ _ ev st2 rfl
 | ret v=>obtain ⟨rv,rfl,R⟩:=R; revert h; exact Ys he fun h=>h _ _ _ ev st2 ⟨rv,rfl,R⟩
theorem YQf {n:Nat} {t:T} {b:Ss} {pt:PySem.Expr} {pb:List Stmt} {pos:Pos} (ht:OkT prog w rd H₀ A Φ t c pt) (hb:OkSs prog w rd H₀ A Φ b c pb):OkS prog w rd H₀ A Φ (.whl n t b) c (.While pt pb [] pos):=fun {env ρ μ σ s r Q E} st he h=>by
 have he:whlGo (evT Φ t) (exSs Φ b) n ρ σ=some r:=he
 refine wpAny_While (codeAny_whileLoop (fun n s'=>∃ μk σk ρk,whlGo (evT Φ t) (exSs Φ b) n ρk σk=some r∧Ev (YA env) μ s μk s'∧St rd H₀ c env ρk μk σk s') ?_ n ⟨μ,σ,ρ,he,Ev.refl ..,st⟩)
 rintro n s' ⟨μk,σk,ρk,hg,ev,st'⟩
 cases n with
 | zero=>exact nS hg
 | succ n=>
  refine YI (show (evT Φ t ρk σk).bind _=some r from hg) fun x e1 hg=>ht st' e1 fun μ1 s1 v1 H1=>?_
  obtain ⟨t,σ1⟩:=x
  cases t with
  | false=>
   revert h
   exact Ys hg fun h=>wpAny_execs_nil (h _ _ _ (ev.trans v1.wide0) (st'.ev v1 H1) rfl)
  | true=>
   refine YI (show (exSs Φ b ρk σ1).bind _=some r from hg) fun x e2 hg=>hb (st'.ev v1 H1) e2 fun μ2 s2 f v2 st2 R=>?_
   have ev2:=ev.trans (v1.wide0.trans v2)
   have q:=YEX (J:=∃ m,m<n+1∧∃ μk σk ρk,whlGo (evT Φ t) (exSs Φ b) m ρk σk=some r∧Ev (YA env) μ s μk s2∧St rd H₀ c env ρk μk σk s2) hg h ev2 st2 R fun e=>⟨n,Nat.lt_succ_self _,_,_,_,e,ev2,st2⟩
   cases f <;> exact q
theorem YFu {f:AV→List (Option AV)→List AO→Option (Fl×List (Option AV)×List AO)} {it:AV} {k i:Nat} {ρ:List (Option AV)} {σ:List AO} {r:Fl×List (Option AV)×List AO} {G:Prop} (h:forGo f it k i ρ σ=some r) (h0:∀ m,k=m+1→nthA σ it i=some none→some (.next,ρ,σ)=some r→G)
  (h1:∀ m v x,k=m+1→nthA σ it i=some (some v)→f v ρ σ=some x→(match x.1 with
   | .next | .cont=>forGo f it m (i+1) x.2.1 x.2.2
   | .brk=>some (.next,x.2)
   | .ret v=>some (.ret v,x.2))=some r→G):G:=by
 cases k with
 | zero=>exact nS h
 | succ m=>
  replace h:(match nthA σ it i with
   | some none=>some (.next,ρ,σ)
   | some (some v)=>(f v ρ σ).bind fun p=>match p.1 with
    | .next | .cont=>forGo f it m (i+1) p.2.1 p.2.2
    | .brk=>some (.next,p.2)
    | .ret v=>some (.ret v,p.2)
   | none=>none)=some r:=h
  cases hn:nthA σ it i with
  | none=>rw [hn] at h; exact nS h
  | some o=>cases o with
   | none=>rw [hn] at h; exact h0 m rfl hn h
   | some v=>rw [hn] at h; exact YI h fun x hx h=>h1 m v x rfl hn hx h
theorem YNH {b:Ss} {xv:AV} {I:Addr} {x:Str} {px:Pos} {pb:List Stmt} {i:Nat} {r:Fl×List (Option AV)×List AO} {Q:Flow→Shared→Prop} {R:Result→Shared→Prop} (hh:A.handled=none) (hb:OkSs prog w rd H₀ A Φ b c pb) (hw:c.wr x i=true) (hR:∀ f s',Q f s'→R (.ok f) s')
  (h:ThenS rd H₀ c env μ s Q r) (hI:s.heap.get? I=none) (F:FR H₀ env c.nm ρ μ s.heap) {n k:Nat} {ρk:List (Option AV)} {σk:List AO} {μk:Own} {s':Shared}
  (hg:forGo (fun v ρ σ=>exSs Φ b (ρ.set i (some v)) σ) xv n k ρk σk=some r) (ev:Ev (YA env) μ s μk s') (st:St rd H₀ c env ρk μk σk s') (it:ItAt H₀ μk s'.heap xv k I):
  codeAny (model prog w) A (.forLoop (.Name x px) (.ref I) pb [] env) R s':=by
 have hIf:I∉YA env:=fun q=>(F.frObj I q).elim fun _ z=>by
  have:=z.1
  rw [hI] at this; cases this
 refine codeAny_forLoop (fun n s'=>∃ k μk σk ρk,forGo (fun v ρ σ=>exSs Φ b (ρ.set i (some v)) σ) xv n k ρk σk=some r∧Ev (YA env) μ s μk s'∧St rd H₀ c env ρk μk σk s'∧ItAt H₀ μk s'.heap xv k I) ?_ n ⟨k,μk,σk,ρk,hg,ev,st,it⟩
 clear hg ev st it
 rintro n s' ⟨k,μk,σk,ρk,hg,ev,st,it⟩
 refine YFu hg (fun m en hn hr=>?_) fun m v x en hn e1 hr=>?_
 ·subst en
  revert h
  refine Ys hr fun h=>YNC hh it hn st.hs fun s2 hsame hk H2 hev=>wpAny_execs_nil (hR _ _ ?_)
  have e2:Ev (YA env) μ s μk s2:=hev hI (ev.wide fun a q=>List.mem_cons_of_mem _ q)
  exact h _ _ _ e2 ⟨st.fr.kept it.itr.frObj hIf fun b o q z=>hk b o z (fun r=>(nomatch r)) (fun r=>q (List.mem_singleton.mp r)),H2,st.en⟩ rfl
 ·subst en
  refine YIf it hn st.hs fun rx s2 e2 H2 it2 R2=>?_
  have st2:St rd H₀ c env ρk μk σk s2:=⟨st.fr.evX e2 fun a q=>by rw [List.mem_singleton.mp q]; exact ⟨.inl it.itr.frObj,hIf⟩,H2,st.en⟩
  have ev2:Ev (YA env) μ s μk s2:=ev.over e2 fun a q=>.inr (by rw [List.mem_singleton.mp q]; exact hI)
  refine wpAny_assign_Name (YAN st2 hw R2 fun s3 e3 st3=>hb st3 e1 fun μ4 s4 f e4 st4 R=>?_)
  have it4:=(it2.ev e3 st2.fr.frObj hIf).ev e4 st3.fr.frObj hIf
  have ev4:=ev2.trans (e3.trans e4)
  have q:=YEX (J:=∃ m',m'<m+1∧∃ k μk σk ρk,forGo (fun v ρ σ=>exSs Φ b (ρ.set i (some v)) σ) xv m' k ρk σk=some r∧Ev (YA env) μ s μk s4∧St rd H₀ c env ρk μk σk s4∧ItAt H₀ μk s4.heap xv k I) (go:=fun ρ σ=>forGo (fun v ρ σ=>exSs Φ b (ρ.set i (some v)) σ) xv m (k+1) ρ σ) hr h ev4 st4 R fun e=>⟨m,Nat.lt_succ_self _,_,_,_,_,e,ev4,st4,it4⟩
  cases f with
  | brk=>exact hR _ _ q
  | ret v=>exact hR _ _ q
  | _=>exact q
theorem YRO {i:Nat} {it:Mine.E} {b:Ss} {x:Str} {px pos:Pos} {pit:PySem.Expr} {pb:List Stmt} (C:Ctx prog w rd H₀ A Φ) (hw:c.wr x i=true) (hi:OkE prog w rd H₀ A Φ it c pit) (hb:OkSs prog w rd H₀ A Φ b c pb):OkS prog w rd H₀ A Φ (.for_ i it b) c (.For (.Name x px) pit pb [] pos):=fun {env ρ μ σ s r Q E} st he h=>YI he fun xv e1 hg=>by
 have hn0:∃ a,nthA xv.2 xv.1 0=some a:=YFu hg (fun _ _ hn _=>⟨_,hn⟩) fun _ _ _ _ hn _ _=>⟨_,hn⟩
 obtain ⟨a,ha⟩:=hn0
 refine wpAny_For (hi.run st e1 fun μ1 s1 r1 v1 H1 R1=>YJq R1 ha H1 fun I s2 hI e2 H2 it2=>?_) (YBu hi.np env)
 have v2:=v1.trans e2
 exact YNH (s:=s) (μ:=μ) C.calm.1 hb hw (fun _ _ q=>q) h (v1.alive _ hI) st.fr hg v2.wide0 (st.ev v2 H2) it2
end
theorem YCr:isSubtype (.type "range_iterator") (.type "reversed")=pure false:=by rw [isSubtype_type]; kernel_rfl
noncomputable def revSmall (a b c:Int):Bool:=Builtin.Range.rangeFitsLong a&&Builtin.Range.rangeFitsLong b&&Builtin.Range.rangeFitsLong c&&Builtin.Range.rangeFitsLong (-c)&&Builtin.Range.rangeFitsLong (a-c)&&Builtin.Range.rangeFitsLong (Builtin.Range.rangeSize a b c)
theorem YJC (r:Addr) (a b c:Int) (t u v:Tok) (hc0:¬(!(revSmall a b c))=true):
  Meets (Builtin.«range.__reversed__» ⟨[.ref r],[]⟩) (fun _ R s=>s.heap.get? r=some { cls:=.type "range",dict:=none,data:=.fields #[.int a t,.int b u,.int c v],slots:=#[] }∧R (.ok (.ret (Value.ref s.heap.objs.size)))
   { s with heap:=s.heap.push { cls:=Value.type (if (revSmall a b c)=true then "range_iterator" else "longrange_iterator"),data:=Data.fields #[rawInt (a+(Builtin.Range.rangeSize a b c-1)*c),rawInt (Builtin.Range.rangeSize a b c),rawInt (-c)] },toks:=s.toks }):=
 .of_wp fun prog w A R s h=>by obtain ⟨hp,g,d,tk,os⟩:=s; obtain ⟨hl,h⟩:=h; unfold revSmall at hc0 h; wp_walk; exact ⟨_,rfl,h⟩
section
variable {prog:Program} {w:World} {rd:YE} {H₀:Heap} {A:Around} {Φ:Tab} {E:Value→Shared→Prop} {s:Shared} {μ:Own} {σ:List AO}
noncomputable def revIter (a b c:Int):Obj:={ cls:=.type "range_iterator",data:=.fields #[rawInt (a+(Builtin.Range.rangeSize a b c-1)*c),rawInt (Builtin.Range.rangeSize a b c),rawInt (-c)] }
theorem YBZ {r:Addr} {a b c:Int} {t u v:Tok} {Q:Value→Shared→Prop} (hr:IsRange s.heap r a b c t u v) (hs:revSmall a b c=true)
  (h:Q (.ref s.heap.objs.size) { s with heap:=s.heap.push (revIter a b c) }):wpAny (model prog w) A (call (.builtin "range.__reversed__") [.ref r]) Q E s:=by
 have hT:s.TypeIs (.ref r) "range":=⟨_,hr,rfl⟩
 refine call_meets F.slot_range_reversed hT F.entry_range_reversed (F.args_range_reversed_1 _) (YJC r a b c t u v (by rw [hs]; simp)) ⟨hr,?_⟩
 simp only [hs,if_true]
 exact h
theorem YAi {r:Addr} {a b c:Int} {t u v:Tok} {Q₁:Value→Shared→Prop} (hr:IsRange s.heap r a b c t u v) (hs:revSmall a b c=true)
  (h:Q₁ (.ref s.heap.objs.size) { s with heap:=s.heap.push (revIter a b c) }):
  codeAny (model prog w) A (.call (.builtin "reversed.__new__") ⟨[.type "reversed",.ref r],[]⟩) (wants Q₁ E) s:=by
 have hT:s.TypeIs (.ref r) "range":=⟨_,hr,rfl⟩
 refine codeAny_of_tree ?_
 show wpAny _ A.in1 (do checkBuiltinCall "reversed.__new__" ⟨[.type "reversed",.ref r],[]⟩; again (.builtin "reversed.__new__" ⟨[.type "reversed",.ref r],[]⟩)) _ _ s
 refine wpAny_bind (wpAny_of_eq (F.newCall_reversed_1 _) (wpAny_pure ⟨plainId_quiet F.plain_reversed_new _,codeAny_builtin F.entry_reversed_new ?_⟩))
 rw [Around.under_plainId F.plain_reversed_new _]
 unfold Builtin.«reversed.__new__»
 refine wpAny_bind (wpAny_of_eq (newClass_reversed _) ?_)
 try dsimp only
 refine wpAny_bind (wpAny_of_eq (a:=()) (by first | rfl | kernel_rfl) ?_)
 refine wpAny_bind (wpAny_of_eq (a:=()) (by first | rfl | kernel_rfl) ?_)
 try dsimp only
 refine wpAny_bind (wpAny_specialOf hT F.slot_range_reversed.lookup ?_)
 try dsimp only
 refine wpAny_bind (wpAny_of_eq (F.slot_range_reversed.bind _) ?_)
 try dsimp only
 first
 | rw [if_neg (show ¬((Value.builtin "range.__reversed__"==Value.none)=true) from Bool.false_ne_true)]
 | (show wpAny _ _ (if (Value.builtin "range.__reversed__"==Value.none)=true then _ else _) _ _ _; rw [if_neg (show ¬((Value.builtin "range.__reversed__"==Value.none)=true) from Bool.false_ne_true)])
 refine wpAny_bind (wpAny_rule ?_)
 refine wpAny_bind (m:=runValue (.call (.builtin "range.__reversed__") ⟨[.ref r],[]⟩)) (show wpAny _ _ (call (.builtin "range.__reversed__") [.ref r]) _ _ _ from YBZ hr hs ?_)
 first
 | exact wpAny_pure h
 | exact wpAny_bind (wpAny_pure (wpAny_pure h))
theorem YBi {r:Addr} {a b c:Int} {t u v:Tok} {Q:Value→Shared→Prop} (hr:IsRange s.heap r a b c t u v) (hs:revSmall a b c=true)
  (h:Q (.ref s.heap.objs.size) { s with heap:=s.heap.push (revIter a b c) }):wpAny (model prog w) A (call (.type "reversed") [.ref r]) Q E s:=by
 refine callType_other (U := "range_iterator") (Q₁:=fun obj s₁=>obj=.ref s.heap.objs.size∧s₁={ s with heap:=s.heap.push (revIter a b c) }) (by decide +kernel) F.create_reversed ⟨_,_,F.mro_reversed⟩ F.made_reversed YCr (F.typeCall_reversed_1 _) (YAi hr hs ⟨rfl,rfl⟩) ?_
 rintro obj s₁ ⟨rfl,rfl⟩
 exact ⟨⟨_,Heap.get?_push_size _ rfl,rfl⟩,h⟩
theorem YMS {c:Cx} {env:Env} {ρ:List (Option AV)} {x:Str} {pos:Pos} {Q:Value→Shared→Prop} (B:Base H₀) (st:St rd H₀ c env ρ μ σ s) (hg:c.gl x=true) (hx:x = "reversed") (h:Q (.type "reversed") s):wpAny (model prog w) A (eval (.Name x pos) env) Q E s:=by
 obtain ⟨mg,h1,_,_,_,h2,_⟩:=B.glob
 obtain ⟨mb,h3,_,h4,_⟩:=B.blt
 subst hx
 exact Calls.Name_function_global st.fr.kind (st.en.gl hg) (Calls.loadGlobal_builtin (by rw [st.fr.glob]; exact YBI st.hs h1) h2 (by rw [st.fr.blt]; exact YBI st.hs h3) h4 h) (YFa hg)
theorem rsz01 {k:Int} (hk:0≤k):Builtin.Range.rangeSize 0 k 1=k:=by
 unfold Builtin.Range.rangeSize
 rw [if_pos (by exact Zi49)]
 split <;> (first | exact Zi50 | exact Zi51 hk ‹_›)
theorem rszdown {k:Int} (hk:0≤k):Builtin.Range.rangeSize (k-1) (-1) (-1)=k:=by
 unfold Builtin.Range.rangeSize
 rw [if_neg (by exact Zi52),show (-(-1:Int))=1 from rfl,Int.ediv_one]
 split <;> (first | exact Zi53 | exact Zi54 hk ‹_›)
theorem YJn {k:Int} (hk:fits k=true∧0≤k):revSmall 0 k 1=true:=by
 have hb60:=YAl.mp hk.1
 unfold revSmall Builtin.Range.rangeFitsLong
 rw [rsz01 hk.2]
 simp only [Bool.and_eq_true,decide_eq_true_eq]
 exact ⟨⟨⟨⟨⟨⟨Zi55,Zi56⟩,⟨Zi19 hk.2,Zi18 hb60.2⟩⟩,⟨Zi57,Zi58⟩⟩,⟨Zi59,Zi60⟩⟩,⟨Zi61,Zi62⟩⟩,⟨Zi19 hk.2,Zi18 hb60.2⟩⟩
theorem YNz {i:Nat} {n:Mine.E} {b:Ss} {x y z:Str} {px py pz p1 p2 pos:Pos} {pn:PySem.Expr} {pb:List Stmt} (C:Ctx prog w rd H₀ A Φ) (hw:c.wr x i=true) (g1:c.gl y=true) (hy:y = "reversed") (g2:c.gl z=true) (hz:z = "range") (hi:OkE prog w rd H₀ A Φ n c pn) (hb:OkSs prog w rd H₀ A Φ b c pb):
  OkS prog w rd H₀ A Φ (.forr i n b) c (.For (.Name x px) (.Call (.Name y py) [.Call (.Name z pz) [pn] [] p1] [] p2) pb [] pos):=fun {env ρ μ σ s r Q E} st he h=>YI he fun xv e1 hg=>YFY hg fun k ek hg=>YBD hg fun hk hg=>by
 have ea:evEs Φ (.cons n .nil) ρ σ=some ([.int k],xv.2):=by
  show (evE Φ n ρ σ).bind _=_
  rw [e1,←ek]; rfl
 refine wpAny_For (wpAny_Call_NameR (YMS C.base st g1 hy ?_)) (fun _=>rfl)
 refine W.callWith_of (P:=fun _=>True) rfl YGp (PySem.Calls.evalArgs_plain (wpAny_items_cons (wpAny_Call_NameR (YGH (b:=.range) C.base st g2 hz ?_))))
 refine YAT (P:=fun _=>True) (YEA hi YGe) st ea (YBg (b:=.range)) fun μ1 s1 xs v1 H1 R1=>⟨trivial,?_⟩
 refine YSJ (v:=.rng 0 k 1) (show biA xv.2 .range [.int k]=some (.rng 0 k 1) from YO hk.1 rfl) C.calm H1 R1 fun s2 rv v2 H2 R2=>wpAny_items_nil ⟨trivial,?_⟩
 refine R2.rng_ fun r0 t u v hr hn hsm=>YBi hr (YJn hk) ?_
 obtain ⟨ev3,H3,hf,ho,hb0⟩:=H2.push (s:=s2) (tk:=s2.toks) (o:=revIter 0 k 1)
 have hIt:IsRangeIter (s2.heap.push (revIter 0 k 1)) s2.heap.objs.size (k-1) k (-1):=by
  unfold IsRangeIter
  rw [Heap.get?_push_size _ rfl]
  unfold revIter
  rw [rsz01 hk.2]
  congr 4
  rw [Int.zero_add,Int.mul_one]
 refine wpAny_pyIter_rangeiter (s:={ s2 with heap:=s2.heap.push (revIter 0 k 1) }) hIt ?_
 have v3:=v1.trans (v2.trans ev3)
 refine YNH (s:=s) (μ:=μ) C.calm.1 hb hw (fun _ _ q=>q) h ((v1.trans v2).alive _ hf) st.fr hg v3.wide0 (st.ev v3 H3) ⟨?_,ho,hb0⟩
 show IsRangeIter _ _ (k-1 + -1*((0:Nat):Int)) ((rlen (k-1) (-1) (-1):Int)-((0:Nat):Int)) (-1)
 have:(rlen (k-1) (-1) (-1):Int)=k:=by
  unfold rlen
  rw [rszdown hk.2,Int.toNat_of_nonneg hk.2]
 rw [this]
 simpa using hIt
end
section
variable {rd:YE} {H₀:Heap} {μ:Own} {ν:List (List Addr)} {σ:List AO} {h:Heap}
theorem YGE {m:Nat} {l:List Addr} (hm:m<μ.os.length) (e:(μ.add ν).os[m]?=some l):μ.os[m]?=some l:=by
 have e:(μ.os++ν)[m]?=some l:=e
 rw [List.getElem?_append_left hm] at e
 exact e
theorem YBa {a:Addr} (hn:a∉(μ.add ν).all):a∉μ.all:=fun q=>hn ((Own.all_add ..).mpr (.inl q))
theorem RV.pop {v:AV} {x:Value} (r:RV (μ.add ν) h v x):noLoc μ.os.length v=true→RV μ h v x:=
 RV.rec (motive_1:=fun v x _=>noLoc μ.os.length v=true→RV μ h v x) (motive_2:=fun vs xs _=>noLocs μ.os.length vs=true→RVs μ h vs xs) (fun _=>.none) (fun b _=>.bool b) (fun i t _=>.int i t) (fun s t _=>.str s t)
  (fun p n _ ih e=>.tup p (YBa n) (ih e)) (fun p n _ ih e=>.lst p (YBa n) (ih e)) (fun p n s _=>.rng p (YBa n) s) (fun q e=>.loc (YGE (of_decide_eq_true e) q)) (fun _=>.nil) (fun _ _ a b e=>.cons (a (Bool.and_eq_true_iff.mp e).1) (b (Bool.and_eq_true_iff.mp e).2)) r
theorem RVs.pop {vs:List AV} {xs:List Value} (r:RVs (μ.add ν) h vs xs):noLocs μ.os.length vs=true→RVs μ h vs xs:=
 r.ind (P:=fun vs xs=>noLocs μ.os.length vs=true→RVs μ h vs xs) (fun _=>.nil) fun _ _ _ _ a _ b e=>.cons (a.pop (Bool.and_eq_true_iff.mp e).1) (b (Bool.and_eq_true_iff.mp e).2)
theorem AOR.pop {o:AO} {l:List Addr} (r:AOR rd (μ.add ν) h o l) (e:aoOk μ.os.length o=true):AOR rd μ h o l:=by
 cases o with
 | list vs=>
  obtain ⟨a,xs,rfl,p,hs⟩:=r
  exact ⟨a,xs,rfl,p,hs.pop e⟩
 | lexer text pos line push=>
  obtain ⟨d,rfl,hp,hc,L⟩:=r
  exact ⟨d,rfl,YGE (of_decide_eq_true e) hp,YBa hc,L⟩
 | citer lx live=>
  obtain ⟨I,q,rfl,z⟩:=r
  refine ⟨I,q,rfl,fun e'=>?_⟩
  obtain ⟨x,l',t,a,b,c⟩:=z e'
  exact ⟨x,l',t,YGE (by simp [aoOk,e'] at e; exact e) a,b,c⟩
 | codes full=>
  obtain ⟨rfl,z⟩:=r
  refine ⟨rfl,?_⟩
  cases full with
  | false=>exact z
  | true=>
   obtain ⟨c1,c2,a,b,d⟩:=z
   exact ⟨c1,c2,a,YBa b,d⟩
theorem HS.pop (H:HS rd H₀ (μ.add ν) σ h) (e:(σ.take μ.os.length).all (aoOk μ.os.length)=true):HS rd H₀ μ (σ.take μ.os.length) h where
 base:=H.base
 new a ha:=H.new a ((Own.all_add ..).mpr (.inl ha))
 live a ha:=H.live a ((Own.all_add ..).mpr (.inl ha))
 nodup:=by
  have hn:(μ.pv++(μ.os++ν).flatten).Nodup:=H.nodup
  rw [List.flatten_append,←List.append_assoc] at hn
  exact (List.nodup_append.mp hn).1
 len:=by
  have hl:σ.length=(μ.os++ν).length:=H.len
  rw [List.length_append] at hl
  rw [List.length_take]; exact Ze16 hl
 objs n o l h1 h2:=by
  have hn:n<μ.os.length:=(List.getElem?_eq_some_iff.mp h2).1
  have ho:aoOk μ.os.length o=true:=List.all_eq_true.mp e o (List.mem_of_getElem? h1)
  rw [List.getElem?_take_of_lt hn] at h1
  refine (H.objs n o l h1 ?_).pop ho
  show (μ.os++ν)[n]?=_
  rw [List.getElem?_append_left hn]; exact h2
theorem YTW {β:Type} {p:Prop} [Decidable p] {a b:Option β} {r:β} {G:Prop} (h:(if p then a else b)=some r) (k1:p→a=some r→G) (k2:¬p→b=some r→G):G:=by
 by_cases q:p
 ·rw [if_pos q] at h; exact k1 q h
 ·rw [if_neg q] at h; exact k2 q h
theorem YTl (H:HS rd H₀ (μ.add ν) σ h):∀ k v v' x,fz σ μ.os.length k v=some v'→RV (μ.add ν) h v x→RV μ h v' x:=by
 have own:∀ {m:Nat} {a:Addr} {l:List Addr},(μ.add ν).os[m]?=some (a::l)→¬m<μ.os.length→a∉μ.all:=fun {m a l} q hm z=>by
  have hn:(μ.pv++(μ.os++ν).flatten).Nodup:=H.nodup
  rw [List.flatten_append,←List.append_assoc] at hn
  have q:(μ.os++ν)[m]?=some (a::l):=q
  rw [List.getElem?_append_right (Nat.not_lt.mp hm)] at q
  exact (List.nodup_append.mp hn).2.2 a z a (YEn q (List.mem_cons_self ..)) rfl
 have all:∀ (f:AV→Option AV),(∀ v v' x,f v=some v'→RV (μ.add ν) h v x→RV μ h v' x)→∀ vs vs' xs,allO f vs=some vs'→RVs (μ.add ν) h vs xs→RVs μ h vs' xs:=fun f hf vs=>by
  induction vs with
  | nil=>exact fun vs' xs e r=>Option.some.inj e▸r.nil_ .nil
  | cons v r ih=>exact fun vs' xs e q=>q.cons_ fun x ys a b=>YI (show (f v).bind _=some vs' from e) fun u e1 e=>YBY e fun us e2=>.cons (hf _ _ _ e1 a) (ih _ _ e2 b)
 intro k
 induction k with
 | zero=>exact fun v v' x e r=>YBD e fun q e=>Option.some.inj e▸r.pop q
 | succ k ih=>
  refine fun v v' x e r=>YTW e (fun q e=>Option.some.inj e▸r.pop q) fun q e=>?_
  cases v with
  | loc m=>
   refine YIK e fun vs hσ e=>YBY e fun ws e1=>?_
   obtain ⟨a,l,rfl,hn⟩:=r.inv
   obtain ⟨b,xs,he,hp,hr⟩:=H.objs _ _ _ hσ hn
   cases he
   exact .lst hp (own hn fun z=>q (decide_eq_true z)) (all _ ih _ _ _ e1 hr)
  | tup vs=>
   obtain ⟨a,xs,rfl,p,n,rs⟩:=r.inv
   exact YBY (show (allO (fz σ μ.os.length k) vs).map AV.tup=some v' from e) fun ws e1=>.tup p (YBa n) (all _ ih _ _ _ e1 rs)
  | lst vs=>
   obtain ⟨a,xs,rfl,p,n,rs⟩:=r.inv
   exact YBY (show (allO (fz σ μ.os.length k) vs).map AV.lst=some v' from e) fun ws e1=>.lst p (YBa n) (all _ ih _ _ _ e1 rs)
  | _=>exact nS e
theorem YQl {v v':AV} {rv:Value} {σ':List AO} (e:popA μ.os.length v σ=some (v',σ')) (H:HS rd H₀ (μ.add ν) σ h) (r:RV (μ.add ν) h v rv):HS rd H₀ μ σ' h∧RV μ h v' rv:=
 YBD e fun hc e=>(YBY (G:=fun p=>p=(v',σ')→_) e fun w e1 e2=>by
  cases e2
  exact ⟨H.pop (Bool.and_eq_true_iff.mp hc).1,YTl H 6 _ _ _ e1 r⟩) rfl
end
set_option genInjectivity false in
structure Fits (A:Around) (d:Nat):Prop where
 handled:A.handled=none
 depth:A.depth+d≤900
 units:A.units+10*d+200≤cLine
theorem Fits.calm {A:Around} {d:Nat} (f:Fits A d):Calm A:=⟨f.handled,by have:=f.units; exact Ze17 this⟩
theorem Fits.less {A:Around} {d e:Nat} (f:Fits A d) (h:e≤d):Fits A e:=⟨f.handled,by have:=f.depth; exact Ze18 this h,by have:=f.units; lia⟩
theorem Fits.deeper {A:Around} {d:Nat} (f:Fits A (d+1)) (env:Env):Fits (A.deeper env) d:=⟨f.handled,by have:=f.depth; show A.depth+1+d≤900; exact Ze19 this,by have:=f.units; show A.units+3+_+_≤_; exact Ze20 this⟩
noncomputable def fnScope (nm:List Str) (np:Nat) (sc:Scope):Bool:=
 sc.kind==.function&&!sc.isCoroutine&&!sc.isGenerator&&decide (sc.names.map (·.1)).Nodup&&decide nm.Nodup&&sc.names.all (fun p=>p.2 != .free)&&(nm.take np).all (fun x=>sc.names.lookup x==some .local||sc.names.lookup x==some .cell)
set_option genInjectivity false in
structure FnAt (H₀:Heap) (f np:Nat) (nm:List Str) (body:List Stmt) (sc:Scope):Prop where
 ex:∃ o fd,H₀.get? f=some o∧o.data=.func fd∧fd.scope=sc∧fd.body=.stmts body∧fd.closure=[]∧fd.globals=mainGlobals∧fd.builtins=builtinsNs∧H₀.CodeRec fd.code fd.qualname∧∀ xs:List Value,xs.length=np→bindArgs fd ⟨xs,[]⟩=pure ((nm.take np).zip xs)
 ok:fnScope nm np sc=true
theorem YDk {k:Str→Option NameKind} {x:Str}:∀ {bs:List (Str×Value)} {m:Str→Option Value},x∉bs.map (·.1)→bindL k bs m x=m x
 | [],_,_=>rfl
 | (n,v)::r,m,h=>by
  simp only [List.map_cons,List.mem_cons,not_or] at h
  unfold bindL
  rw [YDk h.2]
  split
  ·show (if x=n then _ else _)=_; rw [if_neg h.1]
  ·rfl
theorem YDv {k:Str→Option NameKind} {x:Str}:∀ {bs:List (Str×Value)} {m:Str→Option Value},x∉bs.map (·.1)→bindC k bs m x=m x
 | [],_,_=>rfl
 | (n,v)::r,m,h=>by
  simp only [List.map_cons,List.mem_cons,not_or] at h
  unfold bindC
  rw [YDv h.2]
  split
  ·rfl
  ·show (if x=n then _ else _)=_; rw [if_neg h.1]
theorem YFV {k:Str→Option NameKind} {x:Str} {v:Value} (hk:k x=some .local):∀ {bs:List (Str×Value)} {m:Str→Option Value},(bs.map (·.1)).Nodup→(x,v)∈bs→bindL k bs m x=some v
 | [],_,_,h=>(nomatch h)
 | (n,u)::r,m,hn,h=>by
  simp only [List.map_cons,List.nodup_cons] at hn
  unfold bindL
  rcases List.mem_cons.mp h with e | e
  ·cases e
   rw [YDk hn.1,if_pos hk]
   simp
  ·exact YFV hk hn.2 e
theorem YFs {k:Str→Option NameKind} {x:Str} {v:Value} (hk:k x≠some .local):∀ {bs:List (Str×Value)} {m:Str→Option Value},(bs.map (·.1)).Nodup→(x,v)∈bs→bindC k bs m x=some v
 | [],_,_,h=>(nomatch h)
 | (n,u)::r,m,hn,h=>by
  simp only [List.map_cons,List.nodup_cons] at hn
  unfold bindC
  rcases List.mem_cons.mp h with e | e
  ·cases e
   rw [YDv hn.1,if_neg hk]
   simp
  ·exact YFs hk hn.2 e
theorem YKI {β:Type} {x:Str} {k:β} {l:List (Str×β)} (hn:(l.map (·.1)).Nodup) (h:(x,k)∈l):l.lookup x=some k:=by
 induction l with
 | nil=>cases h
 | cons p r ih=>
  obtain ⟨y,k'⟩:=p
  rw [List.map_cons,List.nodup_cons] at hn
  rw [List.lookup_cons]
  rcases List.mem_cons.mp h with e | e
  ·cases e; rw [beq_self_eq_true]
  ·have:(x==y)=false:=beq_eq_false_iff_ne.mpr fun q=>hn.1 (by rw [←q]; exact List.mem_map_of_mem (f:=(·.1)) e)
   rw [this]; exact ih hn.2 e
theorem YBA:∀ (l:List (Str×NameKind)) (n:Nat) (acc:List (Str×Addr)),(l.map (·.1)).Nodup→(acc.map (·.1)).Nodup→(∀ x∈acc.map (·.1),x∉l.map (·.1))→((cellsFrom n l acc).map (·.1)).Nodup
 | [],_,_,_,h,_=>h
 | (y,k)::r,n,acc,hn,h,ha=>by
  rw [List.map_cons,List.nodup_cons] at hn
  unfold cellsFrom
  split
  ·refine YBA r _ _ hn.2 (List.nodup_cons.mpr ⟨fun q=>ha y q (by simp),h⟩) fun x hx=>?_
   rcases List.mem_cons.mp hx with rfl | hx
   ·exact hn.1
   ·exact fun q=>ha x hx (List.mem_cons_of_mem _ q)
  ·exact YBA r _ _ hn.2 h fun x hx q=>ha x hx (List.mem_cons_of_mem _ q)
theorem YIU {a:Str} {v:Value}:∀ {nm:List Str} {xs:List Value} {i:Nat},nm[i]?=some a→xs[i]?=some v→(a,v)∈nm.zip xs
 | n::r,x::t,0,h1,h2=>by simp at h1 h2; subst h1 h2; simp
 | n::r,x::t,i+1,h1,h2=>by simp at h1 h2; exact List.mem_cons_of_mem _ (YIU h1 h2)
 | [],_,_,h1,_=>by simp at h1
 | _::_,[],_,_,h2=>by simp at h2
theorem YEy:∀ {nm:List Str} {xs:List Value},(nm.zip xs).map (·.1)=nm.take xs.length
 | [],xs=>by simp
 | _::_,[]=>by simp
 | n::r,x::t=>by simp [YEy]
section
variable {prog:Program} {w:World} {rd:YE} {H₀:Heap} {A:Around} {Φ:Tab} {E:Value→Shared→Prop} {s:Shared} {μ:Own} {σ:List AO}
theorem YKP (H:HS rd H₀ μ σ s.heap) {a:Addr} (h:s.heap.get? a=none):a∉μ.all∧H₀.get? a=none:=⟨H.fresh h,by
 cases q:H₀.get? a with
 | none=>rfl
 | some o=>have:=H.base a o q; rw [h] at this; cases this⟩
theorem YOR {f np d:Nat} {nm:List Str} {body:List Stmt} {sc:Scope} {b:Ss} {as:List AV} {v:AV} {σ':List AO} (B:Base H₀) (hf:FnAt H₀ f np nm body sc)
  (hb:∀ A,Fits A d→OkSs prog w rd H₀ A Φ b ⟨nm,sc.names⟩ body) (hA:Fits A (d+1)) (hnp:np≤nm.length) (he:runF Φ np nm.length b as σ=some (v,σ')) {xs:List Value} {Q:Value→Shared→Prop}
  (H:HS rd H₀ μ σ s.heap) (R:RVs μ s.heap as xs) (h:∀ μ' s' rv,Ev [] μ s μ' s'→HS rd H₀ μ' σ' s'.heap→RV μ' s'.heap v rv→Q rv s'):
  codeAny (model prog w) A (.call (.ref f) ⟨xs,[]⟩) (fun r s'=>match r with | .ok (.ret v)=>Q v s' | .ok _=>False | .error e=>E e s') s:=by
 obtain ⟨⟨o,fd,h1,h2,rfl,h4,h5,h6,h7,h8,h9⟩,hok⟩:=hf
 unfold fnScope at hok
 simp only [Bool.and_eq_true,beq_iff_eq,Bool.not_eq_true',decide_eq_true_eq,List.all_eq_true,bne_iff_ne,Bool.or_eq_true] at hok
 obtain ⟨⟨⟨⟨⟨⟨k1,k2⟩,k3⟩,k4⟩,k5⟩,k6⟩,k7⟩:=hok
 refine YBD he fun hlen he=>YI he fun p e1 e2=>?_
 have hx:xs.length=np:=by rw [←R.len,hlen]
 have hcr:s.heap.CodeRec fd.code fd.qualname:=by
  obtain ⟨c,oc,vs,tq,e,ho,z⟩:=h8
  exact ⟨c,oc,vs,tq,e,H.base _ _ ho,z⟩
 refine codeAny_call_function (by have:=hA.depth; show A.depth<1000; exact Ze21 this) (H.base _ _ h1) h2 k2 k3 h4 hcr ?_
 rw [h9 xs hx]
 refine wpAny_pure ?_
 have hkind:∀ x∈(nm.take np).zip xs,fd.scope.names.lookup x.1=some .local∨(fd.scope.names.lookup x.1=some .cell∧((cellsFrom (s.heap.objs.size+1) fd.scope.names []).lookup x.1).isSome=true):=fun x hx=>by
  rcases k7 x.1 (List.of_mem_zip hx).1 with q | q
  ·exact .inl q
  ·exact .inr ⟨q,W.cellsFrom_some _ _ _ (.inl q)⟩
 rw [h5,h6,h7]
 refine wpAny_newFunctionEnv_cells k1 hkind fun env henv s2 IC=>?_
 obtain ⟨⟨same,hns,keep,fresh⟩,hcell,apart,above⟩:=IC
 have es:env.scope=fd.scope:=by rw [henv]; rfl
 have el:env.locals=s.heap.objs.size:=by rw [henv]; rfl
 have eg:env.globals=mainGlobals:=by rw [henv]; rfl
 have ebl:env.builtins=builtinsNs:=by rw [henv]; rfl
 have ec:env.cells=cellsFrom (s.heap.objs.size+1) fd.scope.names []:=by rw [henv]; rfl
 have ek:∀ x,env.kindOf x=fd.scope.names.lookup x:=fun x=>by unfold Env.kindOf; rw [es]
 have ev1:Ev [] μ s μ s2:=by
  obtain ⟨h,tk,rfl⟩:=same
  exact Ev.keeps keep
 have H2:HS rd H₀ μ σ s2.heap:=H.keep0 keep
 have hnew:∀ a∈YA env,s.heap.get? a=none:=fun a ha=>by
  rcases List.mem_cons.mp ha with rfl | ha
  ·rw [el]; exact YN _
  ·obtain ⟨⟨n,c⟩,hm,rfl⟩:=List.mem_map.mp ha
   have:=above n c hm
   rw [el] at this
   exact Heap.get?_none_of_le (Nat.le_of_lt this)
 have hnl:(((nm.take np).zip xs).map (·.1)).Nodup:=by
  rw [YEy,hx,List.take_take,Nat.min_self]
  exact (List.take_sublist ..).nodup k5
 have FR1:FR H₀ env nm (as.map some++List.replicate (nm.length-np) none) μ s2.heap:=by
  refine ⟨by rw [es]; exact k1,eg,ebl,⟨_,hns⟩,fun x c hm=>?_,fun a ha=>YKP H (hnew a ha),apart,by simp [hlen]; exact Ze22 hnp,fun x i v g1 g2 g3=>?_⟩
  ·exact ⟨_,hcell x c (YKI (by rw [ec]; exact YBA _ _ _ k4 .nil fun _ q=>(nomatch q)) hm)⟩
  ·have hi:i<np:=by
    rw [List.getElem?_append] at g2
    split at g2
    ·rename_i q; simpa [hlen] using q
    ·rw [List.getElem?_replicate] at g2
     split at g2 <;> cases g2
   rw [List.getElem?_append_left (by simpa [hlen] using hi)] at g2
   have g2:as[i]?=some v:=by
    rw [List.getElem?_map] at g2
    cases q:as[i]? with
    | none=>rw [q] at g2; cases g2
    | some a=>rw [q] at g2; simpa using g2
   obtain ⟨rx,q1,q2⟩:=R.get g2
   refine ⟨rx,?_,ev1.rv0 q2⟩
   have hz:(x,rx)∈(nm.take np).zip xs:=YIU (by rw [List.getElem?_take_of_lt hi]; exact YBr g1) q1
   by_cases hk:env.kindOf x=some .local
   ·exact .inl ⟨hk,_,hns,YFV hk hnl hz⟩
   ·rcases k7 x (List.of_mem_zip hz).1 with q | q
    ·exact absurd ((ek x).trans q) hk
    ·have hcs:(env.cells.lookup x).isSome=true:=by rw [ec]; exact W.cellsFrom_some _ _ _ (.inl q)
     obtain ⟨c,hc⟩:=Option.isSome_iff_exists.mp hcs
     refine .inr ⟨.inl ((ek x).trans q),c,hc,?_⟩
     have:=hcell x c hc
     rw [YFs hk hnl hz] at this
     exact this
 have O1:EnvOk env ⟨nm,fd.scope.names⟩:=⟨fun x=>.inl (ek x),fun x q=>by
  rcases q with q | q
  ·rw [ec]; exact W.cellsFrom_some _ _ _ (.inl q)
  ·exact absurd rfl (k6 _ (Ye q))⟩
 refine ⟨B.nolim.keeps fun b o e=>keep b o (H.base b o e),codeAny_func ?_⟩
 refine hb _ (hA.deeper env) ⟨FR1,H2,O1⟩ e1 fun μ3 s3 f ev3 st3 r=>?_
 obtain ⟨ν,rfl,hν⟩:=ev3.ext
 have evAll:Ev [] μ s μ s3:=by
  have:=(ev1.wide0.trans ev3).shed (Y:=[]) fun a q=>.inr (hnew a q)
  exact ⟨this.same,⟨[],(Own.add_nil _).symm,fun _ q=>(nomatch q)⟩,this.keep,this.alive⟩
 have fin:∀ {u:AV} {ru:Value},popA σ.length u p.2.2=some (v,σ')→RV (μ.add ν) s3.heap u ru→Q ru s3:=fun {u ru} e R=>by
  rw [H.len] at e
  obtain ⟨a,b⟩:=YQl e st3.hs R
  exact h _ _ _ evAll a b
 obtain ⟨fl,ρ1,σ1⟩:=p
 cases fl with
 | next=>obtain rfl:f=.next:=r; exact fin e2 .none
 | brk=>exact nS e2
 | cont=>exact nS e2
 | ret v=>obtain ⟨rv,rfl,r⟩:=r; exact fin e2 r
end
set_option genInjectivity false in
structure LexOps (prog:Program) (w:World) (rd:YE) (H₀:Heap) (A:Around) (Φ:Tab):Prop where
 lm:∀ {f:Nat} {o:Mine.E} {as:Es} {c:Cx} {po:PySem.Expr} {apos p:Pos} {args:List PySem.Expr},(f==70||f==77||f==84)=true→YT po=true→(apos.endLine==p.line)=true→args.length<30→OkE prog w rd H₀ A Φ o c po→OkEs prog w rd H₀ A Φ as c args→OkE prog w rd H₀ A Φ (.lm f o as) c (.Call (.Attribute po (lmName f) apos) args [] p)
 pushb:∀ {o:Mine.E} {c:Cx} {po:PySem.Expr} {p:Pos},YT po=true→OkE prog w rd H₀ A Φ o c po→OkE prog w rd H₀ A Φ (.pushb o) c (.Attribute po "pushback" p)
 lineno:∀ {o:Mine.E} {c:Cx} {po:PySem.Expr} {p:Pos},YT po=true→OkE prog w rd H₀ A Φ o c po→OkE prog w rd H₀ A Φ (.lineno o) c (.Attribute po "lineno" p)
 white:∀ {o:Mine.E} {c:Cx} {po:PySem.Expr} {p:Pos},YT po=true→OkE prog w rd H₀ A Φ o c po→OkE prog w rd H₀ A Φ (.white o) c (.Attribute po "whitespace" p)
 readch:∀ {o:Mine.E} {c:Cx} {po:PySem.Expr} {p1 apos p kp} {k},YT po=true→(apos.endLine==p.line)=true→OkE prog w rd H₀ A Φ o c po→OkE prog w rd H₀ A Φ (.readch o) c (.Call (.Attribute (.Attribute po "instream" p1) "read" apos) [.Constant (.int 1) k kp] [] p)
 iterread:∀ {o:Mine.E} {c:Cx} {po:PySem.Expr} {x:Str} {xp p1 p kp} {k},c.gl x=true→x = "iter"→YT po=true→OkE prog w rd H₀ A Φ o c po→OkE prog w rd H₀ A Φ (.iterread o) c (.Call (.Name x xp) [.Attribute po "_read_char" p1,.Constant (.str (Str.ofString "")) k kp] [] p)
 augline:∀ {o:Mine.E} {i:Int} {c:Cx} {po:PySem.Expr} {ap p kp} {k},OkE prog w rd H₀ A Φ o c po→OkS prog w rd H₀ A Φ (.augline o (.int i)) c (.AugAssign (.Attribute po "lineno" ap) .Add (.Constant (.int i) k kp) p)
 forc:∀ {i:Nat} {it:Mine.E} {b:Ss} {c:Cx} {x:Str} {px p:Pos} {pit:PySem.Expr} {pb:List Stmt},c.wr x i=true→OkE prog w rd H₀ A Φ it c pit→OkSs prog w rd H₀ A Φ b c pb→OkS prog w rd H₀ A Φ (.forc i it b) c (.For (.Name x px) pit pb [] p)
abbrev Ct (P:Prop):=Option (PLift P)
section
variable {P Q:Prop}
noncomputable def tk (p:Prop) [Decidable p] (k:p→Ct P):Ct P:=if h:p then k h else none
noncomputable def bd (o:Ct Q) (k:Q→Ct P):Ct P:=match o with
 | some h=>k h.1
 | none=>none
theorem Ct.get {o:Ct P} (h:o.isSome=true):P:=(Option.get o h).down
end
section
variable (lx:Bool)
noncomputable def GE (e:Mine.E) (c:Cx) (pe:PySem.Expr):Prop:=∀ {prog:Program} {w:World} {rd:YE} {H₀:Heap} {A:Around} {Φ:Tab},Ctx prog w rd H₀ A Φ→(lx=true→LexOps prog w rd H₀ A Φ)→OkE prog w rd H₀ A Φ e c pe
noncomputable def GC (e:Mine.E) (c:Cx) (pe:PySem.Expr):Prop:=∀ {prog:Program} {w:World} {rd:YE} {H₀:Heap} {A:Around} {Φ:Tab},Ctx prog w rd H₀ A Φ→(lx=true→LexOps prog w rd H₀ A Φ)→OkC prog w rd H₀ A Φ e c pe
noncomputable def GP (e:Mine.E) (c:Cx) (pe:Option PySem.Expr):Prop:=∀ {prog:Program} {w:World} {rd:YE} {H₀:Heap} {A:Around} {Φ:Tab},Ctx prog w rd H₀ A Φ→(lx=true→LexOps prog w rd H₀ A Φ)→OkP prog w rd H₀ A Φ e c pe
noncomputable def GEs (e:Es) (c:Cx) (pe:List PySem.Expr):Prop:=∀ {prog:Program} {w:World} {rd:YE} {H₀:Heap} {A:Around} {Φ:Tab},Ctx prog w rd H₀ A Φ→(lx=true→LexOps prog w rd H₀ A Φ)→OkEs prog w rd H₀ A Φ e c pe
noncomputable def GT (e:T) (c:Cx) (pe:PySem.Expr):Prop:=∀ {prog:Program} {w:World} {rd:YE} {H₀:Heap} {A:Around} {Φ:Tab},Ctx prog w rd H₀ A Φ→(lx=true→LexOps prog w rd H₀ A Φ)→OkT prog w rd H₀ A Φ e c pe
noncomputable def GTs (e:Ts) (c:Cx) (pe:List PySem.Expr):Prop:=∀ {prog:Program} {w:World} {rd:YE} {H₀:Heap} {A:Around} {Φ:Tab},Ctx prog w rd H₀ A Φ→(lx=true→LexOps prog w rd H₀ A Φ)→OkTs prog w rd H₀ A Φ e c pe
noncomputable def GS (e:S) (c:Cx) (pe:Stmt):Prop:=∀ {prog:Program} {w:World} {rd:YE} {H₀:Heap} {A:Around} {Φ:Tab},Ctx prog w rd H₀ A Φ→(lx=true→LexOps prog w rd H₀ A Φ)→OkS prog w rd H₀ A Φ e c pe
noncomputable def GSs (e:Ss) (c:Cx) (pe:List Stmt):Prop:=∀ {prog:Program} {w:World} {rd:YE} {H₀:Heap} {A:Around} {Φ:Tab},Ctx prog w rd H₀ A Φ→(lx=true→LexOps prog w rd H₀ A Φ)→OkSs prog w rd H₀ A Φ e c pe
noncomputable def part (e:Mine.E) (c:Cx) (f:(pe:PySem.Expr)→Ct (GE lx e c pe)) (pe:Option PySem.Expr):Ct (GP lx e c pe):=match pe with
 | some pe=>bd (f pe) fun h=>some ⟨fun C X=>YOT (h C X)⟩
 | none=>match e with
  | .none=>some ⟨fun _ _=>YNo⟩
  | _=>none
mutual
noncomputable def crE:(e:Mine.E)→(c:Cx)→(pe:PySem.Expr)→Ct (GE lx e c pe)
 | .none,c,pe=>match pe with
  | .Constant .none _ _=>some ⟨fun _ _=>YQP⟩
  | _=>none
 | .bool b,c,pe=>match pe with
  | .Constant (.bool b') _ _=>tk (b=b') fun h=>some ⟨fun _ _=>h▸YPJ⟩
  | _=>none
 | .int i,c,pe=>match pe with
  | .Constant (.int j) _ _=>tk (i=j) fun h=>some ⟨fun _ _=>h▸YJJ⟩
  | _=>none
 | .str s,c,pe=>match pe with
  | .Constant (.str t) _ _=>tk (⟨s.toArray⟩=t) fun h=>some ⟨fun _ _=>h▸YSV⟩
  | _=>none
 | .var i,c,pe=>match pe with
  | .Name x _=>tk (c.rd x i=true) fun h=>some ⟨fun _ _=>YRx h⟩
  | _=>none
 | .gint y i,c,pe=>match pe with
  | .Name x _=>tk (c.gl x=true) fun h=>tk (intNames.lookup x=some i) fun h2=>some ⟨fun C _=>YPH C h h2⟩
  | _=>none
 | .bin op a b,c,pe=>match pe with
  | .BinOp l op' r _=>tk (op=op') fun h=>bd (crE a c l) fun h1=>bd (crE b c r) fun h2=>some ⟨fun C X=>h▸YSa C (h1 C X) (h2 C X)⟩
  | _=>none
 | .neg a,c,pe=>match pe with
  | .UnaryOp .USub x _=>bd (crE a c x) fun h=>some ⟨fun C X=>YSH (h C X)⟩
  | _=>none
 | .orv a b,c,pe=>match pe with
  | .BoolOp .Or [x,y] _=>bd (crE a c x) fun h1=>bd (crE b c y) fun h2=>some ⟨fun C X=>YQe (h1 C X) (h2 C X)⟩
  | _=>none
 | .ife t a b,c,pe=>match pe with
  | .IfExp x y z _=>bd (crT t c x) fun h1=>bd (crE a c y) fun h2=>bd (crE b c z) fun h3=>some ⟨fun C X=>YSu (h1 C X) (h2 C X) (h3 C X)⟩
  | _=>none
 | .cmp op a b,c,pe=>match pe with
  | .Compare l [op'] [r] _=>tk (op=op') fun h=>tk (behindInMarks op r=false) fun h0=>bd (crE a c l) fun h1=>bd (crE b c r) fun h2=>some ⟨fun C X=>h▸YRz C h0 (h1 C X) (h2 C X)⟩
  | _=>none
 | .call f as,c,pe=>match pe with
  | .Call (.Name x _) args [] _=>tk (c.gl x=true) fun g=>tk (fnNames.lookup x=some f) fun n=>bd (crEs as c args) fun h=>some ⟨fun C X=>YNM C g n (h C X)⟩
  | _=>none
 | .bi b as,c,pe=>match pe with
  | .Call (.Name x _) args [] _=>tk (c.gl x=true) fun g=>tk (x=biName b) fun n=>bd (crEs as c args) fun h=>some ⟨fun C X=>YTR C g n (h C X)⟩
  | _=>none
 | .mrange as,c,pe=>match pe with
  | .Call (.Name x _) args [] _=>tk (c.gl x=true) fun g=>tk (x = "list") fun n=>bd (crEs as c args) fun h=>some ⟨fun C X=>YKL C g n (h C X)⟩
  | _=>none
 | .me m o as,c,pe=>match pe with
  | .Call (.Attribute po name apos) args [] pos=>tk (meName m=name) fun n=>tk (YT po=true) fun b=>tk ((apos.endLine==pos.line)=true) fun l=>tk (args.length<30) fun k=>bd (crE o c po) fun h1=>bd (crEs as c args) fun h2=>some ⟨fun C X=>n▸YTq C b l k (h1 C X) (h2 C X)⟩
  | _=>none
 | .lm f o as,c,pe=>match pe with
  | .Call (.Attribute po name apos) args [] pos=>tk (lx=true) fun lxq=>tk ((f==70||f==77||f==84)=true) fun q=>tk (lmName f=name) fun n=>tk (YT po=true) fun b=>tk ((apos.endLine==pos.line)=true) fun l=>tk (args.length<30) fun k=>bd (crE o c po) fun h1=>bd (crEs as c args) fun h2=>some ⟨fun C X=>n▸(X lxq).lm q b l k (h1 C X) (h2 C X)⟩
  | _=>none
 | .sub o i,c,pe=>match pe with
  | .Subscript po pi _=>bd (crE o c po) fun h1=>bd (crE i c pi) fun h2=>some ⟨fun C X=>YSO C (h1 C X) (h2 C X)⟩
  | _=>none
 | .sli o lo hi st,c,pe=>match pe with
  | .Subscript po (.Slice l h s _) _=>bd (crE o c po) fun h1=>bd (part lx lo c (crE lo c) l) fun h2=>bd (part lx hi c (crE hi c) h) fun h3=>bd (part lx st c (crE st c) s) fun h4=>some ⟨fun C X=>YRZ (h1 C X) (h2 C X) (h3 C X) (h4 C X)⟩
  | _=>none
 | .lst _ es,c,pe=>match pe with
  | .List args _=>bd (crEs es c args) fun h=>some ⟨fun C X=>YQd (h C X)⟩
  | _=>none
 | .tup es,c,pe=>match pe with
  | .Tuple args _ _=>bd (crEs es c args) fun h=>some ⟨fun C X=>YRW (h C X)⟩
  | _=>none
 | .comp _ elt it cs,c,pe=>match pe with
  | .ListComp pelt [⟨.Name x _,pit,pifs,0⟩] scope _=>tk (compOk c scope [x]=true) fun k=>bd (crE it c pit) fun h1=>bd (crE elt (c.into scope [x]) pelt) fun h2=>bd (crTs cs (c.into scope [x]) pifs) fun h3=>some ⟨fun C X=>YQQ (YKA C k (h1 C X) (h2 C X) (h3 C X))⟩
  | _=>none
 | .comp2 _ elt it1 it2,c,pe=>match pe with
  | .ListComp pelt [⟨.Name x _,p1,[],0⟩,⟨.Name y _,p2,[],0⟩] scope _=>tk (compOk c scope [x,y]=true) fun k=>tk (x≠y) fun n=>bd (crE it1 c p1) fun h1=>bd (crE it2 (c.into scope [x,y]) p2) fun h2=>bd (crE elt (c.into scope [x,y]) pelt) fun h3=>some ⟨fun C X=>YQQ (YHO C k n (h1 C X) (h2 C X) (h3 C X))⟩
  | _=>none
 | .pushb o,c,pe=>match pe with
  | .Attribute po name _=>tk (lx=true) fun lxq=>tk ("pushback"=name) fun n=>tk (YT po=true) fun b=>bd (crE o c po) fun h=>some ⟨fun C X=>n▸(X lxq).pushb b (h C X)⟩
  | _=>none
 | .lineno o,c,pe=>match pe with
  | .Attribute po name _=>tk (lx=true) fun lxq=>tk ("lineno"=name) fun n=>tk (YT po=true) fun b=>bd (crE o c po) fun h=>some ⟨fun C X=>n▸(X lxq).lineno b (h C X)⟩
  | _=>none
 | .white o,c,pe=>match pe with
  | .Attribute po name _=>tk (lx=true) fun lxq=>tk ("whitespace"=name) fun n=>tk (YT po=true) fun b=>bd (crE o c po) fun h=>some ⟨fun C X=>n▸(X lxq).white b (h C X)⟩
  | _=>none
 | .readch o,c,pe=>match pe with
  | .Call (.Attribute (.Attribute po n1 _) n2 apos) [.Constant (.int 1) _ _] [] pos=>tk (lx=true) fun lxq=>tk ("instream"=n1) fun e1=>tk ("read"=n2) fun e2=>tk (YT po=true) fun b=>tk ((apos.endLine==pos.line)=true) fun l=>bd (crE o c po) fun h=>some ⟨fun C X=>e1▸e2▸(X lxq).readch b l (h C X)⟩
  | _=>none
 | .iterread o,c,pe=>match pe with
  | .Call (.Name x _) [.Attribute po n1 _,.Constant (.str t) _ _] [] _=>tk (lx=true) fun lxq=>tk (c.gl x=true) fun g=>tk (x = "iter") fun k=>tk ("_read_char"=n1) fun e1=>tk (Str.ofString ""=t) fun e2=>tk (YT po=true) fun b=>bd (crE o c po) fun h=>some ⟨fun C X=>e1▸e2▸(X lxq).iterread g k b (h C X)⟩
  | _=>none
noncomputable def crEs:(e:Es)→(c:Cx)→(pe:List PySem.Expr)→Ct (GEs lx e c pe)
 | .nil,c,l=>match l with
  | []=>some ⟨fun _ _=>YGe⟩
  | _=>none
 | .cons e r,c,l=>match l with
  | p::q=>bd (crE e c p) fun h1=>bd (crEs r c q) fun h2=>some ⟨fun C X=>YEA (h1 C X) (h2 C X)⟩
  | _=>none
noncomputable def crT:(e:T)→(c:Cx)→(pe:PySem.Expr)→Ct (GT lx e c pe)
 | .val e,c,pe=>tk (plainTest pe=true) fun k=>bd (crE e c pe) fun h=>some ⟨fun C X=>YQk k (h C X)⟩
 | .cmp op a b,c,pe=>match pe with
  | .Compare l [op'] [r] _=>tk (op=op') fun h=>tk (behindInMarks op r=false) fun h0=>bd (crE a c l) fun h1=>bd (crE b c r) fun h2=>some ⟨fun C X=>h▸YRa C h0 (h1 C X) (h2 C X)⟩
  | _=>none
 | .not t,c,pe=>match pe with
  | .UnaryOp .Not x _=>bd (crT t c x) fun h=>some ⟨fun C X=>YSc (h C X)⟩
  | _=>none
 | .and ts,c,pe=>match pe with
  | .BoolOp .And l _=>bd (crTs ts c l) fun h=>some ⟨fun C X=>YRT (h C X)⟩
  | _=>none
 | .or ts,c,pe=>match pe with
  | .BoolOp .Or l _=>bd (crTs ts c l) fun h=>some ⟨fun C X=>YUQ (h C X)⟩
  | _=>none
 | .cmp2 op1 op2 x y z,c,pe=>match pe with
  | .Compare l [o1,o2] [r1,r2] _=>tk (op1=o1) fun e1=>tk (op2=o2) fun e2=>tk (lastMarks [op1,op2] [r1,r2]=false) fun h0=>bd (crE x c l) fun h1=>bd (crE y c r1) fun h2=>bd (crE z c r2) fun h3=>some ⟨fun C X=>e1▸e2▸YOl C h0 (h1 C X) (h2 C X) (h3 C X)⟩
  | _=>none
noncomputable def crTs:(e:Ts)→(c:Cx)→(pe:List PySem.Expr)→Ct (GTs lx e c pe)
 | .nil,c,l=>match l with
  | []=>some ⟨fun _ _=>YIp⟩
  | _=>none
 | .cons e r,c,l=>match l with
  | p::q=>bd (crT e c p) fun h1=>bd (crTs r c q) fun h2=>some ⟨fun C X=>YMA (h1 C X) (h2 C X)⟩
  | _=>none
end
noncomputable def crC (e:Mine.E) (c:Cx) (pe:PySem.Expr):Ct (GC lx e c pe):=match e,pe with
 | .comp _ elt it cs,.ListComp pelt [⟨.Name x _,pit,pifs,0⟩] scope _=>tk (compOk c scope [x]=true) fun k=>bd (crE lx it c pit) fun h1=>bd (crE lx elt (c.into scope [x]) pelt) fun h2=>bd (crTs lx cs (c.into scope [x]) pifs) fun h3=>some ⟨fun C X=>YKA C k (h1 C X) (h2 C X) (h3 C X)⟩
 | .comp2 _ elt it1 it2,.ListComp pelt [⟨.Name x _,p1,[],0⟩,⟨.Name y _,p2,[],0⟩] scope _=>tk (compOk c scope [x,y]=true) fun k=>tk (x≠y) fun n=>bd (crE lx it1 c p1) fun h1=>bd (crE lx it2 (c.into scope [x,y]) p2) fun h2=>bd (crE lx elt (c.into scope [x,y]) pelt) fun h3=>some ⟨fun C X=>YHO C k n (h1 C X) (h2 C X) (h3 C X)⟩
 | _,_=>none
noncomputable def crA (i:Nat) (e:Mine.E) (c:Cx) (x:Str) (px:Pos) (pe:PySem.Expr) (pos:Pos):Ct (GS lx (.asg i e) c (.Assign [.Name x px] pe pos)):=tk (c.wr x i=true) fun hw=>if hp:isPl pe=true then bd (crE lx e c pe) fun h=>some ⟨fun C X=>YSj hp hw (h C X)⟩ else match pe with
 | .ListComp elt gens scope cpos=>bd (crC lx e c (.ListComp elt gens scope cpos)) fun h=>some ⟨fun C X=>YNQ hw (h C X)⟩
 | _=>none
mutual
noncomputable def crS:(e:S)→(c:Cx)→(ps:Stmt)→Ct (GS lx e c ps)
 | .expr e,c,ps=>match ps with
  | .Expr pe _=>tk (isPl pe=true) fun hp=>bd (crE lx e c pe) fun h=>some ⟨fun C X=>YNv hp (h C X)⟩
  | _=>none
 | .asg i e,c,ps=>match ps with
  | .Assign [.Name x px] pe pos=>crA lx i e c x px pe pos
  | _=>none
 | .asg2 i j e,c,ps=>match ps with
  | .Assign [.Name x _,.Name y _] pe _=>tk (isPl2 pe=true) fun hp=>tk (c.wr x i=true) fun w1=>tk (c.wr y j=true) fun w2=>bd (crE lx e c pe) fun h=>some ⟨fun C X=>YPS hp w1 w2 (h C X)⟩
  | _=>none
 | .unp i j e,c,ps=>match ps with
  | .Assign [.Tuple [.Name x _,.Name y _] _ _] pe _=>tk (isPl2 pe=true) fun hp=>tk (c.wr x i=true) fun w1=>tk (c.wr y j=true) fun w2=>bd (crE lx e c pe) fun h=>some ⟨fun C X=>YRY C hp w1 w2 (h C X)⟩
  | _=>none
 | .swap i j e,c,ps=>match ps with
  | .Assign [.Tuple [.Name x p,.Name y q] _ _] (.Tuple [.Name u a,.Name v b] k r) _=>tk (c.wr x i=true) fun w1=>tk (c.wr y j=true) fun w2=>tk (x≠y) fun n=>tk (p.line=q.line) fun l=>tk (c.names.lookup x=some .local) fun l1=>tk (c.names.lookup y=some .local) fun l2=>tk (¬u=Str.ofString "__debug__") fun d=>bd (crE lx e c (.Tuple [.Name u a,.Name v b] k r)) fun h=>some ⟨fun C X=>YOO C w1 w2 n l l1 l2 d (h C X)⟩
  | _=>none
 | .sset o i e,c,ps=>match ps with
  | .Assign [.Subscript po pi _] pe _=>tk (isPl pe=true) fun hp=>bd (crE lx o c po) fun h1=>bd (crE lx i c pi) fun h2=>bd (crE lx e c pe) fun h3=>some ⟨fun C X=>YPB hp (h1 C X) (h2 C X) (h3 C X)⟩
  | _=>none
 | .aug i op e,c,ps=>match ps with
  | .AugAssign (.Name x _) op' pe _=>tk (op=op') fun k=>tk (c.rd x i=true) fun hr=>tk (c.wr x i=true) fun hw=>bd (crE lx e c pe) fun h=>some ⟨fun C X=>k▸YRq C hr hw (h C X)⟩
  | _=>none
 | .augline o e,c,ps=>match e,ps with
  | .int i,.AugAssign (.Attribute po n _) .Add (.Constant (.int j) _ _) _=>tk (lx=true) fun lxq=>tk ("lineno"=n) fun k=>tk (i=j) fun l=>bd (crE lx o c po) fun h=>some ⟨fun C X=>k▸l▸(X lxq).augline (h C X)⟩
  | _,_=>none
 | .ite t a b,c,ps=>match ps with
  | .If pt pa pb _=>bd (crT lx t c pt) fun h1=>bd (crSs a c pa) fun h2=>bd (crSs b c pb) fun h3=>some ⟨fun C X=>YRV (h1 C X) (h2 C X) (h3 C X)⟩
  | _=>none
 | .whl _ t b,c,ps=>match ps with
  | .While pt pb [] _=>bd (crT lx t c pt) fun h1=>bd (crSs b c pb) fun h2=>some ⟨fun C X=>YQf (h1 C X) (h2 C X)⟩
  | _=>none
 | .for_ i it b,c,ps=>match ps with
  | .For (.Name x _) pit pb [] _=>tk (c.wr x i=true) fun w=>bd (crE lx it c pit) fun h1=>bd (crSs b c pb) fun h2=>some ⟨fun C X=>YRO C w (h1 C X) (h2 C X)⟩
  | _=>none
 | .forr i n b,c,ps=>match ps with
  | .For (.Name x _) (.Call (.Name y _) [.Call (.Name z _) [pn] [] _] [] _) pb [] _=>tk (c.wr x i=true) fun w=>tk (c.gl y=true) fun g1=>tk (y = "reversed") fun e1=>tk (c.gl z=true) fun g2=>tk (z = "range") fun e2=>bd (crE lx n c pn) fun h1=>bd (crSs b c pb) fun h2=>some ⟨fun C X=>YNz C w g1 e1 g2 e2 (h1 C X) (h2 C X)⟩
  | _=>none
 | .forc i it b,c,ps=>match ps with
  | .For (.Name x _) pit pb [] _=>tk (lx=true) fun lxq=>tk (c.wr x i=true) fun w=>bd (crE lx it c pit) fun h1=>bd (crSs b c pb) fun h2=>some ⟨fun C X=>(X lxq).forc w (h1 C X) (h2 C X)⟩
  | _=>none
 | .ret e,c,ps=>match ps with
  | .Return (some pe) _=>bd (crE lx e c pe) fun h=>some ⟨fun C X=>YTC (h C X)⟩
  | _=>none
 | .brk,c,ps=>match ps with
  | .Break _=>some ⟨fun _ _=>YRj⟩
  | _=>none
 | .cont,c,ps=>match ps with
  | .Continue _=>some ⟨fun _ _=>YOL⟩
  | _=>none
noncomputable def crSs:(e:Ss)→(c:Cx)→(ps:List Stmt)→Ct (GSs lx e c ps)
 | .nil,c,l=>match l with
  | []=>some ⟨fun _ _=>YPC⟩
  | _=>none
 | .cons e r,c,l=>match l with
  | p::q=>bd (crS e c p) fun h1=>bd (crSs r c q) fun h2=>some ⟨fun C X=>YMa (h1 C X) (h2 C X)⟩
  | _=>none
end
noncomputable def ckSs (b:Ss) (c:Cx) (ps:List Stmt):Bool:=(crSs lx b c ps).isSome
end
theorem YRo {lx:Bool} {b:Ss} {c:Cx} {ps:List Stmt} (h:ckSs lx b c ps=true):GSs lx b c ps:=@Ct.get (GSs lx b c ps) (crSs lx b c ps) h
end Mine
end
section
open PySem PySem.Spec PyProof.Rows
open PySem.W (Frag InstAt findIn hasDictIn isFn plainOver takerIn instObj methodObj fnMade)
namespace Mine
set_option genInjectivity false in
structure Yo (K:Frag) (H₀:Heap):Prop where
 here:K.In H₀
 ga:findIn K (.ref 87) "__getattribute__"=some (some (.builtin "object.__getattribute__"))
 gat:findIn K (.ref 87) "__getattr__"=some none
 dict:hasDictIn K 87=true
 pushb:findIn K (.ref 87) "pushback"=some none
 lineno:findIn K (.ref 87) "lineno"=some none
 white:findIn K (.ref 87) "whitespace"=some none
 instr:findIn K (.ref 87) "instream"=some none
 m70:findIn K (.ref 87) "_read_char"=some (some (.ref 70))∧isFn K (.ref 70)=true
 get70:W.specialIn K (.ref 70) "__get__"=some (some (.builtin "function.__get__"))∧W.takesIn K (.ref 70)=some false
 m77:findIn K (.ref 87) "get_token"=some (some (.ref 77))∧isFn K (.ref 77)=true
 m84:findIn K (.ref 87) "push_token"=some (some (.ref 84))∧isFn K (.ref 84)=true
 sa:findIn K (.ref 87) "__setattr__"=some (some (.builtin "object.__setattr__"))
 over:plainOver K 87=true
 taker:takerIn K 87 "lineno"=some none
theorem YJx {h:Heap} {a:Addr} {m:Str→Option Value} (n:h.Ns a m):∃ od,h.get? a=some od∧∀ name,W.lookIn name od=some (m name):=by
 obtain ⟨o,es,ep,ho,hd,hk,hm⟩:=n
 refine ⟨o,ho,fun name=>?_⟩
 unfold W.lookIn
 rw [hd]
 simp only
 have h1:=hm name
 have hany:es.toList.any (·.refKey)=false:=by
  rw [List.any_eq_false]
  intro e he
  obtain ⟨n,t,h⟩:=hk e (by simpa using he)
  simp [DictEntry.refKey,h]
 simp only [nsFind,findBy] at h1
 rw [←Array.find?_toList] at h1
 cases q:es.toList.find? (fun x=>x.key.isStr name) with
 | some e=>rw [q] at h1; simp at h1; simp [h1]
 | none=>rw [q] at h1; simp at h1; rw [hany]; simp [h1]
section
variable {prog:Program} {w:World} {rd:YE} {H₀:Heap} {A:Around} {Φ:Tab} {E:Value→Shared→Prop} {s:Shared} {μ:Own} {σ:List AO} {K:Frag}
theorem YRK (L:Yo K H₀) (H:HS rd H₀ μ σ s.heap):K.In s.heap:=L.here.keeps H.base
theorem YDL {h:Heap} {x dx:Addr} {m:Str→Option Value} (h1:h.get? x=some (instObj 87 dx)) (h2:h.Ns dx m):∃ od,InstAt h x (instObj 87 dx) 87 (some od)∧∀ name,W.lookIn name od=some (m name):=by
 obtain ⟨od,ho,hl⟩:=YJx h2
 exact ⟨od,⟨h1,rfl,rfl,ho⟩,hl⟩
theorem YEO {x dx:Addr} {m:Str→Option Value} {name:Str} {v:Value} {expr:Bool} {Q:Value→Shared→Prop} (L:Yo K H₀) (H:HS rd H₀ μ σ s.heap) (h1:s.heap.get? x=some (instObj 87 dx)) (h2:s.heap.Ns dx m)
  (hn:findIn K (.ref 87) name=some none) (hm:m name=some v) (hv:W.handedIn v=true) (h:Q v { s with toks:=s.toks+1 }):wpAny (model prog w) A (getAttr (.ref x) name expr) Q E s:=by
 obtain ⟨od,I,hl⟩:=YDL h1 h2
 exact W.get_value (YRK L H) I L.ga (W.findObj_own L.dict hn rfl (by rw [hl,hm])) hv h
theorem YCt {po:PySem.Expr} {name:Str} {pos:Pos} {env:Env} {Q:Value→Shared→Prop} (hb:YT po=true) (h:wpAny (model prog w) A (eval po env) (fun o s₁=>wpAny (model prog w) A (getAttr o name true) Q E s₁) E s):
  wpAny (model prog w) A (eval (.Attribute po name pos) env) Q E s:=by
 rw [arm_eval_Attribute,YCH hb]
 exact wpAny_bind (wpAny_mono h (fun o s₁ h₁=>wpAny_bind (wpAny_standAt (wpAny_bind (wpAny_holding (wpAny_mono h₁ (fun r s₂ h₂=>wpAny_bind (wpAny_letTemporaryGo (wpAny_pure h₂))) fun _ _ x=>x))))) fun _ _ x=>x)
theorem YDd {n:Nat} {rv:Value} {text:List Nat} {pos:Nat} {line:Int} {push:Nat} (H:HS rd H₀ μ σ s.heap) (hσ:σ[n]?=some (.lexer text pos line push)) (r:RV μ s.heap (.loc n) rv):
  ∃ d:LexR,rv=.ref d.x∧μ.os[n]?=some d.l∧μ.os[push]?=some [d.p]∧d.c∉μ.all∧LexP rd s.heap text pos line d:=by
 obtain ⟨a,l,rfl,q⟩:=r.inv
 obtain ⟨d,e,h1,h2,h3⟩:=H.objs _ _ _ hσ q
 exact ⟨d,congrArg Value.ref (List.cons.inj e).1,q.trans (congrArg some e),h1,h2,h3⟩
theorem YAq {line:Int} {t t2:Tok} {sf p:Addr}:lexMap line t sf t2 p "lineno"=some (.int line t):=by
 unfold lexMap; rw [if_neg (by decide +kernel),if_neg (by decide +kernel),if_neg (by decide +kernel),if_pos rfl]
theorem YFW {line:Int} {t t2:Tok} {sf p:Addr}:lexMap line t sf t2 p "whitespace"=some (.str "\n\t\r " t2):=by
 unfold lexMap; rw [if_neg (by decide +kernel),if_pos rfl]
theorem YEz {line:Int} {t t2:Tok} {sf p:Addr}:lexMap line t sf t2 p "pushback"=some (.ref p):=by
 unfold lexMap; rw [if_pos rfl]
theorem YFy {line:Int} {t t2:Tok} {sf p:Addr}:lexMap line t sf t2 p "instream"=some (.ref sf):=by
 unfold lexMap; rw [if_neg (by decide +kernel),if_neg (by decide +kernel),if_pos rfl]
theorem YEG {e o:Mine.E} {c:Cx} {name:Str} {po:PySem.Expr} {p:Pos} {f:List Nat→Nat→Int→Nat→AV} (g:LexR→Int→Value) (L:Yo K H₀) (hb:YT po=true) (he:∀ ρ σ,evE Φ e ρ σ=(evE Φ o ρ σ).bind fun x=>onLoc x.1 fun n=>onLex x.2[n]? fun a b l p=>some (f a b l p,x.2))
  (hn:findIn K (.ref 87) name=some none) (hm:∀ d l,lexMap l d.t1 d.sf d.t2 d.p name=some (g d l)) (hh:∀ d l,W.handedIn (g d l)=true) (hr:∀ {μ:Own} {h:Heap} {text pos line push} {d:LexR},μ.os[push]?=some [d.p]→RV μ h (f text pos line push) (g d line)) (ho:OkE prog w rd H₀ A Φ o c po):OkE prog w rd H₀ A Φ e c (.Attribute po name p):=
 ⟨rfl,fun {env ρ μ σ s r Q E} st he' h=>YI ((he ρ σ).symm.trans he') fun x e1 he=>YAg he fun n en he=>YBK he fun a b l p hσ he=>by
  revert h; refine Ys he fun h=>?_
  refine YCt hb (ho.run st e1 fun μ1 s1 r1 v1 H1 R1=>?_)
  obtain ⟨d,rfl,hμ,hp,hcc,P⟩:=YDd H1 hσ (en▸R1)
  exact YEO L H1 P.h1 P.h2.ns hn (hm d l) (hh d l) (YH H1 (hr hp) fun s2 rv v2 H2 R2=>h _ _ _ (v1.trans v2) H2 R2)⟩
theorem YJV {o:Mine.E} {c:Cx} {po:PySem.Expr} {p:Pos} (L:Yo K H₀) (hb:YT po=true) (ho:OkE prog w rd H₀ A Φ o c po):OkE prog w rd H₀ A Φ (.lineno o) c (.Attribute po "lineno" p):=YEG (f:=fun _ _ l _=>.int l) (fun d l=>.int l d.t1) L hb (fun _ _=>rfl) L.lineno (fun _ _=>YAq) (fun _ _=>rfl) (fun _=>.int _ _) ho
theorem YMN {o:Mine.E} {c:Cx} {po:PySem.Expr} {p:Pos} (L:Yo K H₀) (hb:YT po=true) (ho:OkE prog w rd H₀ A Φ o c po):OkE prog w rd H₀ A Φ (.white o) c (.Attribute po "whitespace" p):=YEG (f:=fun _ _ _ _=>.str [10,9,13,32]) (fun d _=>.str "\n\t\r " d.t2) L hb (fun _ _=>rfl) L.white (fun _ _=>YFW) (fun _ _=>rfl) (fun _=>.str [10,9,13,32] _) ho
theorem YLD {o:Mine.E} {c:Cx} {po:PySem.Expr} {p:Pos} (L:Yo K H₀) (hb:YT po=true) (ho:OkE prog w rd H₀ A Φ o c po):OkE prog w rd H₀ A Φ (.pushb o) c (.Attribute po "pushback" p):=YEG (f:=fun _ _ _ n=>.loc n) (fun d _=>.ref d.p) L hb (fun _ _=>rfl) L.pushb (fun _ _=>YEz) (fun _ _=>rfl) (fun hp=>.loc hp) ho
theorem YFZ {o:PySem.Expr} {name:Str} {apos pos:Pos} {args:List PySem.Expr} {env:Env} {Q:Value→Shared→Prop} (hb:YT o=true) (hc:args.all noPack=true) (hn:args.length<30) (hline:(apos.endLine==pos.line)=true)
  (h:wpAny (model prog w) A (eval o env) (fun ov s₁=>∀ pl,wpAny (model prog w) A (getMethod ov name pl) (fun fx s₂=>wpAny (model prog w) A (callWith pos fx.1 fx.2 (backTo pos (starEach args env)) []) Q E s₂) E s₁) E s):
  wpAny (model prog w) A (eval (.Call (.Attribute o name apos) args [] pos) env) Q E s:=by
 rw [arm_eval_Call,YCH hb]
 refine wpAny_bind (wpAny_mono h (fun ov s₁ h₁=>?_) fun _ _ e=>e)
 refine wpAny_bind (wpAny_standAt ?_)
 have hform:methodCallForm (args.length+([]:List Keyword).length) (backTo pos (starEach args env)) (backToKw pos (keywordEach [] env))=true:=YNI hc hn
 have hpos:methodCallPos true o env apos pos=pure pos:=by unfold methodCallPos; simp [hline]
 unfold methodCall
 rw [hform]
 refine wpAny_bind (wpAny_holding (wpAny_mono (h₁ _) (fun fx s₂ h₂=>?_) fun _ _ e=>e))
 exact wpAny_bind (wpAny_of_eq hpos h₂)
theorem YPI (L:Yo K H₀) {f:Nat} (hf:(f==70||f==77||f==84)=true):findIn K (.ref 87) (lmName f)=some (some (.ref f))∧isFn K (.ref f)=true:=by
 simp only [Bool.or_eq_true,beq_iff_eq] at hf
 rcases hf with (rfl | rfl) | rfl
 ·exact L.m70
 ·exact L.m77
 ·exact L.m84
theorem YMy {f:Nat} {line:Int} {t t2:Tok} {sf p:Addr}:lexMap line t sf t2 p (lmName f)=none:=by
 unfold lexMap lmName
 split
 ·rw [if_neg (by decide +kernel),if_neg (by decide +kernel),if_neg (by decide +kernel),if_neg (by decide +kernel)]
 ·split <;> rw [if_neg (by decide +kernel),if_neg (by decide +kernel),if_neg (by decide +kernel),if_neg (by decide +kernel)]
theorem YTM {f:Nat} {o:Mine.E} {as:Es} {c:Cx} {po:PySem.Expr} {apos p:Pos} {args:List PySem.Expr} (C:Ctx prog w rd H₀ A Φ) (L:Yo K H₀) (hf:(f==70||f==77||f==84)=true) (hb:YT po=true) (hl:(apos.endLine==p.line)=true) (hn:args.length<30) (ho:OkE prog w rd H₀ A Φ o c po) (ha:OkEs prog w rd H₀ A Φ as c args):
  OkE prog w rd H₀ A Φ (.lm f o as) c (.Call (.Attribute po (lmName f) apos) args [] p):=
 ⟨rfl,fun {env ρ μ σ s r Q E} st he h=>YI he fun x e1 he=>YAg he fun n en he=>YBK he fun a b l p hσ he=>YI he fun y e2 he=>by
  refine YFZ hb ha.np hn hl (ho.run st e1 fun μ1 s1 r1 v1 H1 R1 pl=>?_)
  obtain ⟨hm,hfn⟩:=YPI L hf
  rw [en] at R1
  obtain ⟨d,rfl,hμ,hp,hcc,P⟩:=YDd H1 hσ R1
  obtain ⟨od,I,hlk⟩:=YDL P.h1 P.h2.ns
  obtain ⟨⟨of,fdf,g1,g2⟩,g3⟩:=C.calls _ _ _ r.1 r.2 he
  refine W.method_fn (YRK L H1) I L.ga L.gat hm (beq_iff_eq.mp hfn) (by show (W.lookIn (lmName f) od).map _=_; rw [hlk,YMy]; rfl) ?_
  exact YAT (P:=fun hp=>∃ o fd,hp.get? f=some o∧o.data=.func fd) ha (st.ev v1 H1) e2 (YEm fun _ z=>z) fun μ2 s2 xs v2 H2 R2=>
   ⟨⟨of,fdf,H2.base _ _ g1,g2⟩,wpAny_call (g3 _ _ _ _ _ H2 (.cons (v2.rv0 R1) R2) fun μ3 s3 rv v3 H3 R3=>h _ _ _ (v1.trans (v2.trans v3)) H3 R3)⟩⟩
theorem YOP {M:Model} {a:Addr} {m:Str→Option Value} {name:Str} {v:Value} {Q:Unit→Shared→Prop} (n:NsB s.heap a m) (hs:(m name).isSome=true)
  (h:∀ h',NsB h' a (fun x=>if x=name then some v else m x)→Heap.SameBut a s.heap h'→Q () { s with heap:=h',toks:=s.toks+1 }):wpAny M A (nsSet a name v) Q E s:=fun Γ p _=>by
 obtain ⟨o,es,ep,ho,hd,hk,hm,hz⟩:=n
 simp only [nsSet,strHash,Sem.wp_bind',Sem.wp_cmd_ask,Sem.wp_pure',Sem.wp_cmd_mkText]
 rw [Sem.wp_loadPart_of M Γ (fun e _=>E e) p { s with toks:=s.toks+1 } (o:=o) _ ho]
 have hany:es.any (·.refKey)=false:=by
  rw [Array.any_eq_false']; intro e he; obtain ⟨n,t,h⟩:=hk e he; simp [DictEntry.refKey,h]
 simp only [hd,aRefKeyMayBeTheName_eq,aRefKeyMayBeTheNameByArray,hany,Bool.and_false,Bool.false_eq_true,if_false,Sem.wp_cmd_updatePart]
 refine ⟨by rw [ho]; rfl,h _ ?_ (Heap.SameBut.update ..)⟩
 obtain ⟨c,d,dt,sl⟩:=o
 subst hd
 cases hi:es.findIdx? (·.key.isStr name) with
 | some i=>
  refine ⟨_,_,ep,Heap.get?_update_self _ ho (by simp only [Obj.putName_eq,Obj.putNameByArray,hi]; rfl),by simp only [Obj.putName_eq,Obj.putNameByArray,hi]; rfl,hk.modify _ _,fun x=>?_,by rw [Array.size_modify]; exact hz⟩
  show _=if x=name then some v else m x
  rw [←hm]; exact findBy_modify (fun n v=>v.isStr n) Value.isStr_inj es name x v i hi
 | none=>
  exfalso
  have h1:=hm name
  simp only [nsFind,findBy] at h1
  rw [Array.findIdx?_eq_none_iff] at hi
  have:es.find? (fun x=>x.key.isStr name)=none:=by
   rw [Array.find?_eq_none]; intro x hx; simp [hi x hx]
  rw [this] at h1
  rw [←h1] at hs
  cases hs
theorem YLg {x dx:Addr} {m:Str→Option Value} {v:Value} {Q:Unit→Shared→Prop} (L:Yo K H₀) (H:HS rd H₀ μ σ s.heap) (h1:s.heap.get? x=some (instObj 87 dx)) (h2:NsB s.heap dx m) (hl:(m "lineno").isSome=true)
  (h:∀ h' tk,NsB h' dx (fun n=>if n = "lineno" then some v else m n)→Heap.SameBut dx s.heap h'→Q () { s with heap:=h',toks:=tk }):wpAny (model prog w) A (setAttr (.ref x) "lineno" v) Q E s:=by
 obtain ⟨od,I,hlk⟩:=YDL h1 h2.ns
 have X:=YRK L H
 refine W.set_plain X I L.sa ?_
 refine W.osa_open (s:={ s with toks:=s.toks+1 }) X I L.over L.taker fun b=>?_
 obtain ⟨cd,hc,hd'⟩:=W.any_some L.dict
 refine wpAny_bind (wpAny_pure (wpAny_bind (wpAny_bind (wpAny_loadPart h1 (wpAny_bind ((W.looks_clsIn (h:=s.heap) X hc) _ _ _ _ (fun _ _ e=>e) ?_))))))
 rw [hd']
 refine wpAny_pure (a:=some dx) (wpAny_bind (wpAny_pure (wpAny_bind ?_)))
 refine YOP (s:={ s with toks:=s.toks+1 }) h2 hl fun h' hn hs=>?_
 have hn':=hn
 obtain ⟨o,es,ep,ho,hd,hk,hm,hz⟩:=hn'
 refine wpAny_bind (wpAny_lookBehind ho (by rw [hd]; exact pastItsLine_dict (by rw [sizeLine_eq]; exact Nat.le_trans (by assumption) (by decide))) ?_)
 exact wpAny_pure (h _ _ hn hs)
end
section
variable {prog:Program} {w:World} {rd:YE} {H₀:Heap} {A:Around} {Φ:Tab} {E:Value→Shared→Prop} {s:Shared} {μ:Own} {σ:List AO} {K:Frag}
theorem YKe {L:List (List Addr)} (hn:L.flatten.Nodup) {n:Nat} {l:List Addr} (e:L[n]?=some l):l.Nodup:=by
 induction L generalizing n with
 | nil=>simp at e
 | cons x r ih=>
  rw [List.flatten_cons,List.nodup_append] at hn
  cases n with
  | zero=>simp at e; rw [←e]; exact hn.1
  | succ n=>exact ih hn.2.1 (by simpa using e)
theorem HS.ownNd {h:Heap} (H:HS rd H₀ μ σ h) {n:Nat} {l:List Addr} (e:μ.os[n]?=some l):l.Nodup:=YKe H.ndos e
theorem YLh {text:List Nat} {pos:Nat} {line line':Int} {push:Nat} {d:LexR} {n:Nat} (H:HS rd H₀ μ σ s.heap) (hμ:μ.os[n]?=some d.l) (hp:μ.os[push]?=some [d.p]) (hcc:d.c∉μ.all) (P:LexP rd s.heap text pos line d)
  {h':Heap} {t1':Tok} {tk:Nat} (hn:NsB h' d.dx (lexMap line' t1' d.sf d.t2 d.p)) (hs:Heap.SameBut d.dx s.heap h'):Ev [] μ s μ { s with heap:=h',toks:=tk }∧HS rd H₀ μ (σ.set n (.lexer text pos line' push)) h':=by
 have nd:=H.ownNd hμ
 have kx:∀ a,a≠d.dx→∀ o,s.heap.get? a=some o→h'.get? a=some o:=fun a ha o e=>(hs.2 a ha).trans e
 have ki:∀ {i:Nat},i≠1→∀ {a},d.l[i]?=some a→∀ o,s.heap.get? a=some o→h'.get? a=some o:=fun {i} hi {a} ha o e=>kx a (YEq nd ha (j:=1) rfl hi) o e
 have hk:∀ b o,s.heap.get? b=some o→b∉d.l→h'.get? b=some o:=fun b o e hb=>kx b (fun q=>hb (at_ 1 (congrArg some q.symm))) o e
 obtain ⟨o',es',ep',ho',-⟩:=id hn
 have ha:=YBL hs ho'
 obtain ⟨c2,oc,vs,tq,e,ho,hd,hq⟩:=P.h7
 cases e
 have hcr:h'.CodeRec (.ref d.c) Yq:=⟨d.c,oc,vs,tq,rfl,kx d.c (fun q=>hcc (q▸Own.os_all (YAC hμ (at_ 1 rfl)))) _ ho,hd,hq⟩
 exact ⟨Ev.set hμ hk ha,H.set hμ hk ha ⟨{ d with t1:=t1' },rfl,hp,hcc,⟨ki (i:=0) (by decide) rfl _ P.h1,hn,ki (i:=2) (by decide) rfl _ P.h3,ki (i:=3) (by decide) rfl _ P.h4,YET P.h5 (ki (i:=3) (by decide) rfl),ki (i:=4) (by decide) rfl _ P.h6,hcr,
  Yx P.h8 (ki (i:=5) (by decide) rfl),Yx P.h9 (ki (i:=6) (by decide) rfl),ki (i:=7) (by decide) rfl _ P.h10⟩⟩⟩
theorem YIP {line line':Int} {t t' t2:Tok} {sf p:Addr}:(fun n=>if n=("lineno":Str) then some (Value.int line' t') else lexMap line t sf t2 p n)=lexMap line' t' sf t2 p:=by
 funext n
 unfold lexMap
 by_cases h:n=("lineno":Str)
 ·subst h
  rw [if_pos rfl,if_neg (by decide +kernel),if_neg (by decide +kernel),if_neg (by decide +kernel),if_pos rfl]
 ·rw [if_neg h]
  split
  ·rfl
  ·split
   ·rfl
   ·split
    ·rfl
    ·rfl
theorem YHz {o:Mine.E} {k:Int} {c:Cx} {po:PySem.Expr} {ap p kp:Pos} {kk:Nat} (L:Yo K H₀) (ho:OkE prog w rd H₀ A Φ o c po):OkS prog w rd H₀ A Φ (.augline o (.int k)) c (.AugAssign (.Attribute po "lineno" ap) .Add (.Constant (.int k) kk kp) p):=
 fun {env ρ μ σ s r Q E} st he h=>YI he fun x e1 he=>YAg he fun n en he=>YBK he fun text pos line push hσ he=>by
  revert h; refine Ys he fun h=>?_
  refine wpAny_AugAssign_AttributeAny (ho.run st e1 fun μ1 s1 r1 v1 H1 R1=>?_)
  rw [en] at R1
  obtain ⟨d,rfl,hμ,hp,hcc,Z⟩:=YDd H1 hσ R1
  refine YEO L H1 Z.h1 Z.h2.ns L.lineno YAq rfl ?_
  have v2:Ev [] μ1 s1 μ1 { s1 with toks:=s1.toks+1 }:=(Ev.refl [] μ1 s1).tok _
  refine (YJJ (Φ:=Φ) (b:=k)).run ((st.ev v1 H1).ev v2 H1) rfl fun μ3 s3 r3 v3 H3 R3=>R3.int_ fun t=>?_
  refine P.iadd_int ?_
  obtain ⟨d3,e3,hμ3,hp3,hcc3,Z3⟩:=YDd H3 hσ (v3.rv0 (v2.rv0 R1))
  rw [e3]
  refine YLg (s:={ s3 with toks:=s3.toks+1 }) L H3 Z3.h1 Z3.h2 (by rw [YAq]; rfl) fun h' tk hn hs=>?_
  rw [YIP] at hn
  obtain ⟨ev4,H4⟩:=YLh (tk:=tk) (line':=line+k) H3 hμ3 hp3 hcc3 Z3 hn hs
  have evA:=v1.trans (v2.trans (v3.trans ev4))
  exact h _ _ _ evA.wide0 (st.ev evA H4) rfl
end
theorem YBO:Slot "function" "__getattribute__" "object.__getattribute__":=
 .of (owner := "object") (n := "__getattribute__") (by rw [typeLookup_type,builtinLookup_eq_fast]; kernel_rfl) (by decide +kernel) (by decide +kernel) (by decide +kernel)
  (by first | exact .inl (by decide +kernel) | exact .inr (by decide +kernel)) (by rw [isSubtype_type]; kernel_rfl)
theorem YGX:typeLookup (.type "function") "read"=pure none:=by rw [typeLookup_type,builtinLookup_eq_fast]; kernel_rfl
theorem YDs:typeLookup (.type "function") "__getattr__"=pure none:=by rw [typeLookup_type,builtinLookup_eq_fast]; kernel_rfl
section
variable {prog:Program} {w:World} {rd:YE} {H₀:Heap} {A:Around} {Φ:Tab} {E:Value→Shared→Prop} {s:Shared} {μ:Own} {σ:List AO} {K:Frag}
theorem YQg {M:Model} {h:Heap} {a sd:Addr} {fd:FuncData} {m:Str→Option Value} {v:Value} (h1:h.get? a=some { cls:=.type "function",dict:=some sd,data:=.func fd }) (h2:h.Ns sd m) (hm:m "read"=some v):
  W.Looks M h (Builtin.ObjectAttr.ownThenClass (.ref a) "read" none none) (.value v):=by
 obtain ⟨od,ho,hl⟩:=YJx h2
 have e:=hl "read"
 rw [hm] at e
 intro A Q E s k q
 unfold Builtin.ObjectAttr.ownThenClass
 refine wpAny_bind (wpAny_bind (wpAny_bind (wpAny_loadPart (k _ _ h1) ?_)))
 show wpAny M A (instanceDict a false) _ E s
 unfold instanceDict
 refine wpAny_bind (wpAny_loadPart (k _ _ h1) ?_)
 refine wpAny_pure (a:=some sd) ?_
 show wpAny M A (nsGet sd "read") _ E s
 refine wpAny_bind (wpAny_loadPart (k _ _ ho) ?_)
 rw [W.nsLook_of e]
 exact wpAny_pure (wpAny_bind (wpAny_rule (wpAny_pure q)))
theorem YNl {a sd:Addr} {fd:FuncData} {m:Str→Option Value} {v:Value} {Q:Value→Shared→Prop} (h1:s.heap.get? a=some { cls:=.type "function",dict:=some sd,data:=.func fd }) (h2:s.heap.Ns sd m) (hm:m "read"=some v) (hv:W.handedIn v=true)
  (h:∀ tk,Q v { s with toks:=tk }):wpAny (model prog w) A (getAttr (.ref a) "read") Q E s:=by
 obtain ⟨hp,g,d,tk,os⟩:=s
 have hT:∀ tk',(⟨hp,g,d,tk',os⟩:Shared).TypeIs (.ref a) "function":=fun _=>⟨_,h1,rfl⟩
 have f3:=YBO.lookup
 have f4:=YBO.bind (.ref a)
 have f5:=YDs
 unfold getAttr getAttrBy
 repeat (any_goals (first | assumption | exact hT _ | ((with_reducible show wpAny _ _ (call (Value.builtin "object.__getattribute__") _ _) _ _ _); refine wpAny_call_entry YBO (hT _) F.entry_object_getattribute ?_ (F.args_object_getattribute_2 _ _)) | wp_step))
 refine wpAny_of_eq YGX (wpAny_bind (wpAny_pure (wpAny_bind (wpAny_pure ?_))))
 refine (YQg h1 h2 hm) _ _ _ _ (fun _ _ e=>e) (wpAny_pure ⟨v,rfl,?_⟩)
 show wpAny _ _ (handedOut v) _ _ _
 rw [W.handedOut_of hv]
 exact wpAny_pure (h _)
theorem YJX {a sd:Addr} {fd:FuncData} {m:Str→Option Value} {v:Value} {pl:Sem Bool} {Q:Value×List Value→Shared→Prop} (h1:s.heap.get? a=some { cls:=.type "function",dict:=some sd,data:=.func fd }) (h2:s.heap.Ns sd m) (hm:m "read"=some v) (hv:W.handedIn v=true)
  (h:∀ tk,Q (v,[]) { s with toks:=tk }):wpAny (model prog w) A (getMethod (.ref a) "read" pl) Q E s:=by
 have hT:s.TypeIs (.ref a) "function":=⟨_,h1,rfl⟩
 unfold getMethod
 refine wpAny_bind (wpAny_specialOf hT YBO.lookup ?_)
 dsimp only
 rw [F.canon_object_ga,if_neg (by decide)]
 refine wpAny_bind (wpAny_specialOf hT YDs ?_)
 refine wpAny_bind (wpAny_specialOf hT YGX ?_)
 exact wpAny_bind (YNl h1 h2 hm hv fun tk=>wpAny_pure (h tk))
end
end Mine
end
section
open PySem
namespace Mine
noncomputable def YDt:List Str:=["heap","lastelt","returnitem"]
noncomputable def YCE:Ss:=
  (.cons (.asg 1 (.me .pop (.var 0) .nil))
  (.cons (.ite (.val (.var 0)) (.cons (.asg 2 (.sub (.var 0) (.int 0)))
  (.cons (.sset (.var 0) (.int 0) (.var 1))
  (.cons (.expr (.call 49 (.cons (.var 0) (.cons (.int 0) .nil))))
  (.cons (.ret (.var 2))
  .nil)))) .nil)
  (.cons (.ret (.var 1))
  .nil)))
noncomputable def YBS:List Str:=["heap","item","returnitem"]
noncomputable def YAa:Ss:=
  (.cons (.asg 2 (.sub (.var 0) (.int 0)))
  (.cons (.sset (.var 0) (.int 0) (.var 1))
  (.cons (.expr (.call 49 (.cons (.var 0) (.cons (.int 0) .nil))))
  (.cons (.ret (.var 2))
  .nil))))
noncomputable def YDf:List Str:=["x","n","i"]
noncomputable def YCL:Ss:=
  (.cons (.asg 1 (.bi .len (.cons (.var 0) .nil)))
  (.cons (.forr 2 (.bin .FloorDiv (.var 1) (.int 2)) (.cons (.expr (.call 49 (.cons (.var 0) (.cons (.var 2) .nil))))
  .nil))
  .nil))
noncomputable def YDM:List Str:=["heap","startpos","pos","newitem","parentpos","parent"]
noncomputable def YBm:Ss:=
  (.cons (.asg 3 (.sub (.var 0) (.var 2)))
  (.cons (.whl 100 (.cmp .Gt (.var 2) (.var 1)) (.cons (.asg 4 (.bin .RShift (.bin .Sub (.var 2) (.int 1)) (.int 1)))
  (.cons (.asg 5 (.sub (.var 0) (.var 4)))
  (.cons (.ite (.cmp .Lt (.var 3) (.var 5)) (.cons (.sset (.var 0) (.var 2) (.var 5))
  (.cons (.asg 2 (.var 4))
  (.cons .cont
  .nil))) .nil)
  (.cons .brk
  .nil)))))
  (.cons (.sset (.var 0) (.var 2) (.var 3))
  .nil)))
noncomputable def YFc:List Str:=["heap","pos","endpos","startpos","newitem","childpos","rightpos"]
noncomputable def YCw:Ss:=
  (.cons (.asg 2 (.bi .len (.cons (.var 0) .nil)))
  (.cons (.asg 3 (.var 1))
  (.cons (.asg 4 (.sub (.var 0) (.var 1)))
  (.cons (.asg 5 (.bin .Add (.bin .Mult (.int 2) (.var 1)) (.int 1)))
  (.cons (.whl 100 (.cmp .Lt (.var 5) (.var 2)) (.cons (.asg 6 (.bin .Add (.var 5) (.int 1)))
  (.cons (.ite (.and (.cons (.cmp .Lt (.var 6) (.var 2)) (.cons (.not (.cmp .Lt (.sub (.var 0) (.var 5)) (.sub (.var 0) (.var 6)))) .nil))) (.cons (.asg 5 (.var 6))
  .nil) .nil)
  (.cons (.sset (.var 0) (.var 1) (.sub (.var 0) (.var 5)))
  (.cons (.asg 1 (.var 5))
  (.cons (.asg 5 (.bin .Add (.bin .Mult (.int 2) (.var 1)) (.int 1)))
  .nil))))))
  (.cons (.sset (.var 0) (.var 1) (.var 4))
  (.cons (.expr (.call 42 (.cons (.var 0) (.cons (.var 3) (.cons (.var 1) .nil)))))
  .nil)))))))
noncomputable def YCQ:List Str:=["self","ch"]
noncomputable def YAX:Ss:=
  (.cons (.asg 1 (.readch (.var 0)))
  (.cons (.ite (.cmp .Eq (.var 1) (.str [10])) (.cons (.augline (.var 0) (.int 1))
  .nil) .nil)
  (.cons (.ret (.var 1))
  .nil)))
noncomputable def YCY:List Str:=["self","token","fiter","ch"]
noncomputable def YAL:Ss:=
  (.cons (.ite (.val (.pushb (.var 0))) (.cons (.ret (.me .pop0 (.pushb (.var 0)) (.cons (.int 0) .nil)))
  .nil) .nil)
  (.cons (.asg 1 (.str []))
  (.cons (.asg 2 (.iterread (.var 0)))
  (.cons (.forc 3 (.var 2) (.cons (.ite (.cmp .In (.var 3) (.white (.var 0))) (.cons .cont
  .nil) .nil)
  (.cons (.ite (.cmp .Eq (.var 3) (.str [34])) (.cons (.forc 3 (.var 2) (.cons (.ite (.cmp .Eq (.var 3) (.str [34])) (.cons (.ret (.var 1))
  .nil) (.cons (.ite (.cmp .Eq (.var 3) (.str [92])) (.cons (.asg 3 (.lm 70 (.var 0) .nil))
  .nil) .nil)
  .nil))
  (.cons (.aug 1 .Add (.var 3))
  .nil)))
  .nil) (.cons (.ite (.cmp .Eq (.var 3) (.str [92])) (.cons (.asg 3 (.lm 70 (.var 0) .nil))
  .nil) .nil)
  (.cons (.aug 1 .Add (.var 3))
  (.cons (.forc 3 (.var 2) (.cons (.ite (.cmp .In (.var 3) (.white (.var 0))) (.cons (.ret (.var 1))
  .nil) (.cons (.ite (.cmp .Eq (.var 3) (.str [92])) (.cons (.asg 3 (.lm 70 (.var 0) .nil))
  .nil) .nil)
  .nil))
  (.cons (.aug 1 .Add (.var 3))
  .nil)))
  .nil))))
  .nil)))
  (.cons (.ret (.var 1))
  .nil)))))
noncomputable def YBq:List Str:=["self","token"]
noncomputable def YAj:Ss:=
  (.cons (.expr (.me .append (.pushb (.var 0)) (.cons (.var 1) .nil)))
  .nil)
noncomputable def YAM:List Str:=["ch_a","ch_b"]
noncomputable def Yr:Ss:=
  (.cons (.ite (.cmp .Eq (.var 0) (.var 1)) (.cons (.ret (.int 0))
  .nil) .nil)
  (.cons (.ite (.cmp .Eq (.me .lower (.var 0) .nil) (.me .lower (.var 1) .nil)) (.cons (.ret (.gint "_CASE_COST" 1))
  .nil) .nil)
  (.cons (.ret (.gint "_MOVE_COST" 2))
  .nil)))
noncomputable def Yw:List Str:=["a","b","max_cost","pre","post","row","result","bindex","bchar","distance","minimum","index","substitute","insert_delete"]
noncomputable def Yj:Ss:=
  (.cons (.ite (.cmp .Eq (.var 0) (.var 1)) (.cons (.ret (.int 0))
  .nil) .nil)
  (.cons (.asg 3 (.int 0))
  (.cons (.whl 100 (.and (.cons (.val (.sli (.var 0) (.var 3) .none .none)) (.cons (.val (.sli (.var 1) (.var 3) .none .none)) (.cons (.cmp .Eq (.sub (.var 0) (.var 3)) (.sub (.var 1) (.var 3))) .nil)))) (.cons (.aug 3 .Add (.int 1))
  .nil))
  (.cons (.asg 0 (.sli (.var 0) (.var 3) .none .none))
  (.cons (.asg 1 (.sli (.var 1) (.var 3) .none .none))
  (.cons (.asg 4 (.int 0))
  (.cons (.whl 100 (.and (.cons (.val (.sli (.var 0) .none (.orv (.var 4) .none) .none)) (.cons (.val (.sli (.var 1) .none (.orv (.var 4) .none) .none)) (.cons (.cmp .Eq (.sub (.var 0) (.bin .Sub (.var 4) (.int 1))) (.sub (.var 1) (.bin .Sub (.var 4) (.int 1)))) .nil)))) (.cons (.aug 4 .Sub (.int 1))
  .nil))
  (.cons (.asg 0 (.sli (.var 0) .none (.orv (.var 4) .none) .none))
  (.cons (.asg 1 (.sli (.var 1) .none (.orv (.var 4) .none) .none))
  (.cons (.ite (.or (.cons (.not (.val (.var 0))) (.cons (.not (.val (.var 1))) .nil))) (.cons (.ret (.bin .Mult (.gint "_MOVE_COST" 2) (.bin .Add (.bi .len (.cons (.var 0) .nil)) (.bi .len (.cons (.var 1) .nil)))))
  .nil) .nil)
  (.cons (.ite (.or (.cons (.cmp .Gt (.bi .len (.cons (.var 0) .nil)) (.gint "_MAX_STRING_SIZE" 40)) (.cons (.cmp .Gt (.bi .len (.cons (.var 1) .nil)) (.gint "_MAX_STRING_SIZE" 40)) .nil))) (.cons (.ret (.bin .Add (.var 2) (.int 1)))
  .nil) .nil)
  (.cons (.ite (.cmp .Lt (.bi .len (.cons (.var 1) .nil)) (.bi .len (.cons (.var 0) .nil))) (.cons (.swap 0 1 (.tup (.cons (.var 1) (.cons (.var 0) .nil))))
  .nil) .nil)
  (.cons (.ite (.cmp .Gt (.bin .Mult (.bin .Sub (.bi .len (.cons (.var 1) .nil)) (.bi .len (.cons (.var 0) .nil))) (.gint "_MOVE_COST" 2)) (.var 2)) (.cons (.ret (.bin .Add (.var 2) (.int 1)))
  .nil) .nil)
  (.cons (.asg 5 (.mrange (.cons (.bi .range (.cons (.gint "_MOVE_COST" 2) (.cons (.bin .Mult (.gint "_MOVE_COST" 2) (.bin .Add (.bi .len (.cons (.var 0) .nil)) (.int 1))) (.cons (.gint "_MOVE_COST" 2) .nil)))) .nil)))
  (.cons (.asg 6 (.int 0))
  (.cons (.for_ 7 (.bi .range (.cons (.bi .len (.cons (.var 1) .nil)) .nil)) (.cons (.asg 8 (.sub (.var 1) (.var 7)))
  (.cons (.asg2 9 6 (.bin .Mult (.var 7) (.gint "_MOVE_COST" 2)))
  (.cons (.asg 10 (.int 9223372036854775807))
  (.cons (.for_ 11 (.bi .range (.cons (.bi .len (.cons (.var 0) .nil)) .nil)) (.cons (.asg 12 (.bin .Add (.var 9) (.call 98 (.cons (.var 8) (.cons (.sub (.var 0) (.var 11)) .nil)))))
  (.cons (.asg 9 (.sub (.var 5) (.var 11)))
  (.cons (.asg 13 (.bin .Add (.bi .min (.cons (.var 6) (.cons (.var 9) .nil))) (.gint "_MOVE_COST" 2)))
  (.cons (.asg 6 (.bi .min (.cons (.var 13) (.cons (.var 12) .nil))))
  (.cons (.sset (.var 5) (.var 11) (.var 6))
  (.cons (.ite (.cmp .Lt (.var 6) (.var 10)) (.cons (.asg 10 (.var 6))
  .nil) .nil)
  .nil)))))))
  (.cons (.ite (.cmp .Gt (.var 10) (.var 2)) (.cons (.ret (.bin .Add (.var 2) (.int 1)))
  .nil) .nil)
  .nil))))))
  (.cons (.ret (.var 6))
  .nil)))))))))))))))))
noncomputable def YCv:List Str:=["n","signs"]
noncomputable def YBe:Ss:=
  (.cons (.asg 1 (.str [97,65,98,32,34,92]))
  (.cons (.ret (.me .join (.str []) (.cons (.comp false (.sub (.var 1) (.bin .Mod (.bin .FloorDiv (.bin .FloorDiv (.var 0) (.int 3)) (.bin .Pow (.int 6) (.var 2))) (.int 6))) (.bi .range (.cons (.bin .Add (.bin .Mod (.var 0) (.int 3)) (.int 1)) .nil)) .nil) .nil)))
  .nil))
noncomputable def YBV:List Str:=["word","n","gap"]
noncomputable def YAb:Ss:=
  (.cons (.asg 2 (.ife (.cmp .Eq (.bin .Mod (.bin .FloorDiv (.var 1) (.int 1296)) (.int 2)) (.int 0)) (.str [32]) (.str [10])))
  (.cons (.ite (.cmp .Eq (.bin .Mod (.bin .FloorDiv (.var 1) (.int 648)) (.int 2)) (.int 0)) (.cons (.ret (.bin .Add (.bin .Add (.bin .Add (.str [34]) (.me .join (.str []) (.cons (.comp false (.ife (.cmp .In (.var 3) (.str [34,92])) (.bin .Add (.str [92]) (.var 3)) (.var 3)) (.var 0) .nil) .nil))) (.str [34])) (.var 2)))
  .nil) .nil)
  (.cons (.ret (.bin .Add (.me .join (.str []) (.cons (.comp false (.bin .Add (.str [92]) (.var 3)) (.var 0) .nil) .nil)) (.var 2)))
  .nil)))
noncomputable def YCP:List Str:=["words","lines","heap","posts","asked","price","i","token","other","told"]
noncomputable def YAY:Ss:=
  (.cons (.asg 1 (.comp false (.call 112 (.cons (.str []) .nil)) (.var 0) .nil))
  (.cons (.asg 2 (.comp true (.tup (.cons (.neg (.int 9)) (.cons (.var 10) .nil))) (.bi .range (.cons (.bi .len (.cons (.var 0) .nil)) .nil)) .nil))
  (.cons (.expr (.call 35 (.cons (.var 2) .nil)))
  (.cons (.asg 3 (.lst true .nil))
  (.cons (.asg 4 (.lst true .nil))
  (.cons (.whl 100 (.cmp .NotEq (.var 2) (.lst false .nil)) (.cons (.unp 5 6 (.sub (.var 2) (.int 0)))
  (.cons (.asg 7 (.lm 77 (.sub (.var 1) (.var 6)) .nil))
  (.cons (.ite (.cmp .Eq (.var 7) (.str [])) (.cons (.expr (.call 21 (.cons (.var 2) .nil)))
  (.cons (.expr (.me .append (.var 3) (.cons (.tup (.cons (.neg (.var 5)) (.cons (.var 6) .nil))) .nil)))
  (.cons (.for_ 8 (.var 2) (.cons (.expr (.lm 84 (.sub (.var 1) (.sub (.var 8) (.int 1))) (.cons (.sub (.var 0) (.var 6)) .nil)))
  .nil))
  .nil))) (.cons (.expr (.me .append (.var 4) (.cons (.tup (.cons (.sub (.var 0) (.var 6)) (.cons (.var 7) .nil))) .nil)))
  (.cons (.asg 9 (.call 105 (.cons (.sub (.var 0) (.var 6)) (.cons (.var 7) (.cons (.bin .Sub (.neg (.var 5)) (.int 1)) .nil)))))
  (.cons (.ite (.cmp .LtE (.var 9) (.bin .Sub (.neg (.var 5)) (.int 1))) (.cons (.expr (.call 28 (.cons (.var 2) (.cons (.tup (.cons (.neg (.var 9)) (.cons (.var 6) .nil))) .nil))))
  .nil) .nil)
  .nil))))
  .nil))))
  (.cons (.ret (.tup (.cons (.var 3) (.cons (.var 4) .nil))))
  .nil)))))))
noncomputable def YCS:List Str:=["word","parts","mask","part"]
noncomputable def YAK:Ss:=
  (.cons (.asg 1 (.lst true (.cons (.lst true .nil) (.cons (.lst true .nil) (.cons (.lst true .nil) (.cons (.lst true .nil) .nil))))))
  (.cons (.for_ 2 (.bi .range (.cons (.bin .Pow (.int 2) (.bi .len (.cons (.var 0) .nil))) .nil)) (.cons (.asg 3 (.comp false (.sub (.var 0) (.var 4)) (.bi .range (.cons (.bi .len (.cons (.var 0) .nil)) .nil)) (.cons (.cmp .Eq (.bin .Mod (.bin .FloorDiv (.var 2) (.bin .Pow (.int 2) (.var 4))) (.int 2)) (.int 1)) .nil)))
  (.cons (.expr (.me .append (.sub (.var 1) (.bi .len (.cons (.var 3) .nil))) (.cons (.var 3) .nil)))
  .nil)))
  (.cons (.ret (.var 1))
  .nil)))
noncomputable def YDx:List Str:=["x","y"]
noncomputable def YBR:Ss:=
  (.cons (.ret (.ife (.cmp .Eq (.var 0) (.var 1)) (.int 0) (.ife (.cmp .In (.bin .Add (.var 0) (.var 1)) (.tup (.cons (.str [97,65]) (.cons (.str [65,97]) .nil)))) (.int 1) (.int 2))))
  .nil)
noncomputable def YCV:List Str:=["words","parts","table","i","j","ways","size","rest"]
noncomputable def YAI:Ss:=
  (.cons (.asg 1 (.comp false (.call 132 (.cons (.var 8) .nil)) (.var 0) .nil))
  (.cons (.asg 2 (.comp true (.comp true (.int 0) (.var 0) .nil) (.var 0) .nil))
  (.cons (.for_ 3 (.bi .range (.cons (.bi .len (.cons (.var 0) .nil)) .nil)) (.cons (.for_ 4 (.bi .range (.cons (.var 3) .nil)) (.cons (.asg 5 (.lst true .nil))
  (.cons (.for_ 6 (.bi .range (.cons (.int 4) .nil)) (.cons (.asg 7 (.bin .Mult (.int 2) (.bin .Sub (.bin .Add (.bi .len (.cons (.sub (.var 0) (.var 3)) .nil)) (.bi .len (.cons (.sub (.var 0) (.var 4)) .nil))) (.bin .Mult (.int 2) (.var 6)))))
  (.cons (.expr (.me .extend (.var 5) (.cons (.comp2 false (.bin .Add (.var 7) (.bi .sum (.cons (.comp false (.call 139 (.cons (.sub (.var 8) (.var 10)) (.cons (.sub (.var 9) (.var 10)) .nil))) (.bi .range (.cons (.var 6) .nil)) .nil) .nil))) (.sub (.sub (.var 1) (.var 3)) (.var 6)) (.sub (.sub (.var 1) (.var 4)) (.var 6))) .nil)))
  .nil)))
  (.cons (.sset (.sub (.var 2) (.var 3)) (.var 4) (.bi .min (.cons (.var 5) .nil)))
  (.cons (.sset (.sub (.var 2) (.var 4)) (.var 3) (.sub (.sub (.var 2) (.var 3)) (.var 4)))
  .nil)))))
  .nil))
  (.cons (.ret (.var 2))
  .nil))))
noncomputable def YAz:List Str:=["prices","due","left","far","i"]
noncomputable def Yv:Ss:=
  (.cons (.asg 1 (.lst true .nil))
  (.cons (.asg 2 (.lst false (.cons (.int 0) (.cons (.int 1) (.cons (.int 2) (.cons (.int 3) (.cons (.int 4) .nil)))))))
  (.cons (.whl 100 (.cmp .NotEq (.var 2) (.lst false .nil)) (.cons (.asg 3 (.comp false (.bi .min (.cons (.bin .Add (.lst false (.cons (.int 9) .nil)) (.comp false (.sub (.sub (.var 0) (.var 5)) (.sub (.var 6) (.int 1))) (.var 1) .nil)) .nil)) (.var 2) .nil))
  (.cons (.asg 4 (.sub (.var 2) (.me .index (.var 3) (.cons (.bi .max (.cons (.var 3) .nil)) .nil))))
  (.cons (.expr (.me .append (.var 1) (.cons (.tup (.cons (.bi .max (.cons (.var 3) .nil)) (.cons (.var 4) .nil))) .nil)))
  (.cons (.asg 2 (.comp false (.var 5) (.var 2) (.cons (.cmp .NotEq (.var 5) (.var 4)) .nil)))
  .nil)))))
  (.cons (.ret (.var 1))
  .nil))))
noncomputable def YDO:List Str:=["prices","best","mask","some","reach"]
noncomputable def YAk:Ss:=
  (.cons (.asg 1 (.lst true (.cons (.int 9) (.cons (.int 9) (.cons (.int 9) (.cons (.int 9) (.cons (.int 9) (.cons (.int 9) .nil))))))))
  (.cons (.for_ 2 (.bi .range (.cons (.int 1) (.cons (.int 32) .nil))) (.cons (.asg 3 (.comp false (.var 5) (.bi .range (.cons (.int 5) .nil)) (.cons (.cmp .Eq (.bin .Mod (.bin .FloorDiv (.var 2) (.bin .Pow (.int 2) (.var 5))) (.int 2)) (.int 1)) .nil)))
  (.cons (.asg 4 (.bi .max (.cons (.comp false (.bi .min (.cons (.comp false (.sub (.sub (.var 0) (.var 5)) (.var 6)) (.var 3) .nil) .nil)) (.bi .range (.cons (.int 5) .nil)) .nil) .nil)))
  (.cons (.sset (.var 1) (.bi .len (.cons (.var 3) .nil)) (.bi .min (.cons (.sub (.var 1) (.bi .len (.cons (.var 3) .nil))) (.cons (.var 4) .nil))))
  .nil))))
  (.cons (.ret (.var 1))
  .nil)))
noncomputable def YNJ:List Str:=["script","fixed","drawn","words","text","line","read","posts","asked","prices","due","best","reach"]
noncomputable def YHW:Ss:=
  (.cons (.asg 1 (.lst false (.cons (.int 19) (.cons (.int 1950) (.cons (.int 1345) (.cons (.int 920) (.cons (.int 3) .nil)))))))
  (.cons (.asg 2 (.comp false (.bin .Add (.sub (.var 1) (.var 13)) (.bi .sum (.cons (.comp false (.bin .Mod (.var 14) (.int 1000000)) (.sli (.sli (.var 0) .none (.int 15) .none) (.var 13) .none (.int 5)) .nil) .nil))) (.bi .range (.cons (.int 5) .nil)) .nil))
  (.cons (.asg 3 (.comp false (.call 117 (.cons (.var 13) .nil)) (.var 2) .nil))
  (.cons (.asg 4 (.me .join (.str []) (.cons (.comp false (.call 122 (.cons (.sub (.var 3) (.var 13)) (.cons (.sub (.var 2) (.var 13)) .nil))) (.bi .range (.cons (.int 5) .nil)) .nil) .nil)))
  (.cons (.asg 5 (.call 112 (.cons (.var 4) .nil)))
  (.cons (.asg 6 (.comp false (.lm 77 (.var 5) .nil) (.bi .range (.cons (.int 6) .nil)) .nil))
  (.cons (.ite (.or (.cons (.cmp .NotEq (.var 6) (.bin .Add (.var 3) (.lst false (.cons (.str []) .nil)))) (.cons (.cmp .NotEq (.lineno (.var 5)) (.bin .Add (.int 1) (.me .count (.var 4) (.cons (.str [10]) .nil)))) .nil))) (.cons (.ret (.bool false))
  .nil) .nil)
  (.cons (.unp 7 8 (.call 127 (.cons (.sli (.var 6) .none (.int 5) .none) .nil)))
  (.cons (.asg 9 (.call 144 (.cons (.var 3) .nil)))
  (.cons (.asg 10 (.call 149 (.cons (.var 9) .nil)))
  (.cons (.ite (.cmp .NotEq (.var 7) (.var 10)) (.cons (.ret (.bool false))
  .nil) .nil)
  (.cons (.ite (.cmp .NotEq (.bi .sorted (.cons (.var 8) .nil)) (.bi .sorted (.cons (.comp2 false (.tup (.cons (.sub (.var 3) (.sub (.sub (.var 10) (.var 13)) (.int 1))) (.cons (.sub (.var 3) (.sub (.sub (.var 10) (.var 14)) (.int 1))) .nil))) (.bi .range (.cons (.int 5) .nil)) (.bi .range (.cons (.var 13) .nil))) .nil))) (.cons (.ret (.bool false))
  .nil) .nil)
  (.cons (.asg 11 (.call 154 (.cons (.var 9) .nil)))
  (.cons (.asg 12 (.bin .Add (.comp false (.sub (.var 13) (.int 0)) (.sli (.var 7) (.int 1) .none .none) .nil) (.lst false (.cons (.int 0) .nil))))
  (.cons (.ret (.cmp .Eq (.comp false (.var 13) (.bi .range (.cons (.int 1) (.cons (.int 6) .nil))) (.cons (.not (.cmp2 .LtE .LtE (.sub (.var 11) (.var 13)) (.sub (.var 12) (.bin .Sub (.var 13) (.int 1))) (.bin .Mult (.int 2) (.sub (.var 11) (.var 13))))) .nil)) (.lst false .nil)))
  .nil)))))))))))))))
abbrev Fn:=List AV→List AO→Option (AV×List AO)
noncomputable def Yn:List (Nat×Fn)→Tab
 | [],_=>fun _ _=>none
 | (a,F)::r,f=>if f=a then F else Yn r f
noncomputable def YAS:Fn:=fun as σ=>match as with
 | [.str text]=>if text.length≤lim then (match (σ[0]?:Option AO) with
  | some (.codes _)=>some (.loc (σ.length+1),σ.set 0 (AO.codes true)++[AO.list [],AO.lexer text 0 1 σ.length])
  | _=>none) else none
 | _=>none
noncomputable def YBP:Fn:=runF (Yn []) 3 6 YBm
noncomputable def Yp:Fn:=runF (Yn [(42,YBP)]) 2 7 YCw
noncomputable def YBH:Fn:=runF (Yn [(49,Yp)]) 1 3 YCE
noncomputable def Yz:Fn:=runF (Yn [(49,Yp)]) 2 3 YAa
noncomputable def YBF:Fn:=runF (Yn [(49,Yp)]) 1 3 YCL
noncomputable def YAB:Fn:=runF (Yn []) 1 2 YAX
noncomputable def YS:Fn:=runF (Yn [(70,YAB)]) 1 4 YAL
noncomputable def YAJ:Fn:=runF (Yn []) 2 2 YAj
noncomputable def YDA:Fn:=runF (Yn []) 2 2 Yr
noncomputable def YIY:Fn:=runF (Yn [(98,YDA)]) 3 14 Yj
noncomputable def YFB:Fn:=runF (Yn []) 1 2 YBe
noncomputable def YAy:Fn:=runF (Yn []) 2 3 YAb
noncomputable def YCl:Fn:=runF (Yn [(112,YAS),(35,YBF),(77,YS),(21,YBH),(84,YAJ),(105,YIY),(28,Yz)]) 1 10 YAY
noncomputable def YCq:Fn:=runF (Yn []) 1 4 YAK
noncomputable def YJa:Fn:=runF (Yn []) 2 2 YBR
noncomputable def YDS:Fn:=runF (Yn [(132,YCq),(139,YJa)]) 1 8 YAI
noncomputable def YAd:Fn:=runF (Yn []) 1 5 Yv
noncomputable def YFF:Fn:=runF (Yn []) 1 5 YAk
noncomputable def YPD:Fn:=runF (Yn [(117,YFB),(122,YAy),(112,YAS),(77,YS),(127,YCl),(144,YDS),(149,YAd),(154,YFF)]) 1 13 YHW
end Mine
end
section
open PySem PySem.Spec
namespace Mine
theorem YEh {α β:Type} (f:α→β):∀ l:List α,l.flatMap (fun v=>[f v])=l.map f
 | []=>rfl
 | a::r=>by rw [List.flatMap_cons,YEh f r]; rfl
set_option genInjectivity false in
structure Ym (σ:List AO) (it:AV) (l:List AV):Prop where
 nth:∀ i,nthA σ it i=some l[i]?
 tn:turns σ it=l.length+1
theorem Yl (σ:List AO) (vs:List AV):Ym σ (.lst vs) vs:=⟨fun _=>rfl,rfl⟩
theorem YJz {σ:List AO} {n:Nat} {vs:List AV} (h:σ[n]?=some (.list vs)):items σ (.loc n)=some vs:=by
 rw [show items σ (.loc n)=(match σ[n]? with | some (.list vs)=>some vs | _=>none) from rfl,h]
theorem YOz {σ:List AO} {n:Nat}:turns σ (.loc n)=(match items σ (.loc n) with | some vs=>vs.length+1 | none=>0):=rfl
theorem YDH {σ:List AO} {n:Nat} {vs:List AV} (h:σ[n]?=some (.list vs)):Ym σ (.loc n) vs:=
 ⟨fun i=>congrArg (Option.map (·[i]?)) (YJz h),by rw [YOz,YJz h]⟩
theorem YFk {σ:List AO} {s:List Nat} (h:asciiL s=true):Ym σ (.str s) (s.map fun c=>.str [c]):=
 ⟨fun i=>if_pos h |>.trans (congrArg some List.getElem?_map.symm),congrArg (·+1) (List.length_map ..).symm⟩
theorem YIc {σ:List AO} {a b c:Int}:Ym σ (.rng a b c) ((List.range (rlen a b c)).map fun (i:Nat)=>.int (a+c*i)):=
 ⟨fun i=>by
  rw [List.getElem?_map]
  by_cases h:i<rlen a b c
  ·rw [List.getElem?_range h]; exact congrArg some (if_pos h)
  ·rw [List.getElem?_eq_none (by rw [List.length_range]; exact Nat.le_of_not_lt h)]; exact congrArg some (if_neg h),by rw [List.length_map,List.length_range]; rfl⟩
theorem YNn {a b:Int}:rlen a b 1=(b-a).toNat:=by
 unfold rlen Builtin.Range.rangeSize
 simp only [show (0:Int)<1 by decide,if_true,gt_iff_lt]
 split
 ·rw [Int.ediv_one]; congr 1; lia
 ·simp; lia
theorem YEf {σ:List AO} (a:Int) (n:Nat):Ym σ (.rng a (a+n) 1) ((List.range n).map fun (i:Nat)=>.int (a+i)):=by
 have h:=YIc (σ:=σ) (a:=a) (b:=a+n) (c:=1)
 rw [YNn,show (a+(n:Int)-a).toNat=n by lia] at h
 simpa using h
theorem YDB {σ:List AO} (n:Nat):Ym σ (.rng 0 n 1) ((List.range n).map fun (i:Nat)=>.int i):=by
 have h:=YEf (σ:=σ) 0 n
 simpa using h
theorem bs {α β:Type} {o:Option α} {a:α} {f:α→Option β} {r:Option β} (h:o=some a) (k:f a=r):o.bind f=r:=by subst h; exact k
theorem ms {α β:Type} {o:Option α} {a:α} {f:α→β} (h:o=some a):o.map f=some (f a):=by subst h; rfl
section
variable {f:AV→List AO→Option (List AV×List AO)} {F:AV→YF→List AO→Option (Fl×YF×List AO)} {it v:AV} {k i:Nat} {ρ:YF} {σ σ1 σ2:List AO}
theorem YKg (h:nthA σ it i=some none):mapGo f it (k+1) i σ=some ([],σ):=by
 rw [show mapGo f it (k+1) i σ=(match nthA σ it i with
  | some none=>some ([],σ)
  | some (some v)=>(f v σ).bind fun p=>(mapGo f it k (i+1) p.2).map fun q=>(p.1++q.1,q.2)
  | none=>none) from rfl,h]
theorem YJy {a b:List AV} (h:nthA σ it i=some (some v)) (h1:f v σ=some (a,σ1)) (h2:mapGo f it k (i+1) σ1=some (b,σ2)):mapGo f it (k+1) i σ=some (a++b,σ2):=by
 rw [show mapGo f it (k+1) i σ=(match nthA σ it i with
  | some none=>some ([],σ)
  | some (some v)=>(f v σ).bind fun p=>(mapGo f it k (i+1) p.2).map fun q=>(p.1++q.1,q.2)
  | none=>none) from rfl,h]
 exact bs h1 (ms h2)
noncomputable def forK (f:AV→YF→List AO→Option (Fl×YF×List AO)) (it:AV) (k i:Nat) (p:Fl×YF×List AO):Option (Fl×YF×List AO):=match p.1 with
   | .next | .cont=>forGo f it k (i+1) p.2.1 p.2.2
   | .brk=>some (.next,p.2)
   | .ret v=>some (.ret v,p.2)
theorem YIb (h:nthA σ it i=some none):forGo F it (k+1) i ρ σ=some (.next,ρ,σ):=by
 rw [show forGo F it (k+1) i ρ σ=(match nthA σ it i with
  | some none=>some (.next,ρ,σ)
  | some (some v)=>(F v ρ σ).bind (forK F it k i)
  | none=>none) from rfl,h]
theorem YKk {p:Fl×YF×List AO} {r:Option (Fl×YF×List AO)} (h:nthA σ it i=some (some v)) (h1:F v ρ σ=some p) (h2:forK F it k i p=r):forGo F it (k+1) i ρ σ=r:=by
 rw [show forGo F it (k+1) i ρ σ=(match nthA σ it i with
  | some none=>some (.next,ρ,σ)
  | some (some v)=>(F v ρ σ).bind (forK F it k i)
  | none=>none) from rfl,h]
 exact bs h1 h2
noncomputable def whlK (t:YF→List AO→Option (Bool×List AO)) (f:YF→List AO→Option (Fl×YF×List AO)) (k:Nat) (p:Fl×YF×List AO):Option (Fl×YF×List AO):=match p.1 with
   | .next | .cont=>whlGo t f k p.2.1 p.2.2
   | .brk=>some (.next,p.2)
   | .ret v=>some (.ret v,p.2)
theorem YIn {t:YF→List AO→Option (Bool×List AO)} {f:YF→List AO→Option (Fl×YF×List AO)} {p:Fl×YF×List AO} {r:Option (Fl×YF×List AO)} (h:t ρ σ=some (true,σ1)) (h1:f ρ σ1=some p) (h2:whlK t f k p=r):whlGo t f (k+1) ρ σ=r:=bs h (bs h1 h2)
end
theorem YIw {α:Type} {f:AV→List AO→Option (List AV×List AO)} {it:AV} {xs:List α} {e:α→AV} {σ:List AO} {g:α→List AV} (hI:Ym σ it (xs.map e)) (hf:∀ x∈xs,f (e x) σ=some (g x,σ)):
  ∀ (k i:Nat),i+k=xs.length→mapGo f it (k+1) i σ=some ((xs.drop i).flatMap g,σ)
 | 0,i,h=>by
  rw [List.drop_eq_nil_of_le (show xs.length≤i from Ze41 h)]
  exact YKg ((hI.nth i).trans (congrArg some (List.getElem?_eq_none (by rw [List.length_map]; exact Ze41 h))))
 | k+1,i,h=>by
  have hi:i<xs.length:=Ze42 h
  rw [List.drop_eq_getElem_cons hi]
  exact YJy ((hI.nth i).trans (congrArg some (List.getElem?_map.trans (congrArg _ (List.getElem?_eq_getElem hi))))) (hf _ (List.getElem_mem hi)) (YIw hI hf k (i+1) (Ze43 h))
theorem YCg {α:Type} {f:AV→List AO→Option (List AV×List AO)} {it:AV} {xs:List α} {e:α→AV} {σ:List AO} {g:α→List AV} (hI:Ym σ it (xs.map e)) (hf:∀ x∈xs,f (e x) σ=some (g x,σ)):
  mapGo f it (turns σ it) 0 σ=some (xs.flatMap g,σ):=by
 rw [hI.tn,List.length_map]
 exact YIw hI hf xs.length 0 (Nat.zero_add _)
section
variable {Φ:Tab} {ρ:YF} {σ:List AO}
theorem Yc {α:Type} {m:Bool} {elt it:E} {itv:AV} {l:List α} {e h:α→AV} (h1:evE Φ it ρ σ=some (itv,σ)) (hI:Ym σ itv (l.map e)) (h2:∀ x∈l,evE Φ elt (ρ++[some (e x)]) σ=some (h x,σ)):
  evE Φ (.comp m elt it .nil) ρ σ=newL m σ (l.map h):=
 bs h1 (bs (YCg (g:=fun x=>[h x]) hI fun x hx=>ms (h2 x hx)) (congrArg (newL m σ) (YEh h l)))
theorem YX {σ:List AO} {vs:List AV} (h:vs.length≤lim):newL false σ vs=some (.lst vs,σ):=by simp [newL,h]
theorem YBU {σ:List AO} {vs:List AV} (h:vs.length≤lim):newL true σ vs=some (.loc σ.length,σ++[.list vs]):=by simp [newL,h]
theorem YEw {f:AV→YF→List AO→Option (Fl×YF×List AO)} {it:AV} {l:List AV} (hn:∀ σ i,nthA σ it i=some l[i]?) (I:Nat→YF→List AO→Prop) (R:AV→YF→List AO→Prop)
  (step:∀ i v ρ σ,l[i]?=some v→I i ρ σ→∃ fl ρ' σ',f v ρ σ=some (fl,ρ',σ')∧((fl=.next∧I (i+1) ρ' σ')∨(fl=.cont∧I (i+1) ρ' σ')∨∃ v,fl=.ret v∧R v ρ' σ')):
  ∀ (k i:Nat) (ρ:YF) (σ:List AO),i+k=l.length→I i ρ σ→∃ fl ρ' σ',forGo f it (k+1) i ρ σ=some (fl,ρ',σ')∧((fl=.next∧I l.length ρ' σ')∨∃ v,fl=.ret v∧R v ρ' σ')
 | 0,i,ρ,σ,h,hI=>by
  cases (show i=l.length from h)
  exact ⟨_,_,_,YIb ((hn _ _).trans (congrArg some (List.getElem?_eq_none (Nat.le_refl _)))),.inl ⟨rfl,hI⟩⟩
 | k+1,i,ρ,σ,h,hI=>by
  have hi:i<l.length:=by exact Ze42 h
  have hv:=List.getElem?_eq_getElem hi
  obtain ⟨fl,ρ',σ',e,z⟩:=step i _ ρ σ hv hI
  have g:=fun k=>YKk (F:=f) (k:=k) ((hn σ i).trans (congrArg some hv)) e rfl
  rcases z with ⟨rfl,z⟩ | ⟨rfl,z⟩ | ⟨v,rfl,z⟩
  ·exact g _▸YEw hn I R step k (i+1) ρ' σ' (Ze43 h) z
  ·exact g _▸YEw hn I R step k (i+1) ρ' σ' (Ze43 h) z
  ·exact ⟨_,_,_,g _,.inr ⟨v,rfl,z⟩⟩
theorem YKT {f:AV→YF→List AO→Option (Fl×YF×List AO)} {it:AV} {l:List AV} (hn:∀ σ i,nthA σ it i=some l[i]?) (I:Nat→YF→List AO→Prop)
  (step:∀ i v ρ σ,l[i]?=some v→I i ρ σ→∃ ρ' σ',f v ρ σ=some (.next,ρ',σ')∧I (i+1) ρ' σ') {ρ:YF} {σ:List AO} (h0:I 0 ρ σ) {k:Nat} (hk:k=l.length+1):∃ ρ' σ',forGo f it k 0 ρ σ=some (.next,ρ',σ')∧I l.length ρ' σ':=by
 subst hk
 obtain ⟨fl,ρ',σ',e,z⟩:=YEw hn I (fun _ _ _=>False) (fun i v ρ σ hv hI=>by
  obtain ⟨ρ',σ',a,b⟩:=step i v ρ σ hv hI
  exact ⟨_,_,_,a,.inl ⟨rfl,b⟩⟩) l.length 0 ρ σ (by exact Ze44) h0
 rcases z with ⟨rfl,z⟩ | ⟨v,_,z⟩
 ·exact ⟨_,_,e,z⟩
 ·exact z.elim
end
theorem YZ {σ:List AO} {n k:Nat} {v:AV} (h:noLoc n v=true):fz σ n k v=some v:=by
 cases k <;> exact if_pos h
theorem YFU {n:Nat} {v v':AV} {σ:List AO} (h1:n≤σ.length) (h2:(σ.take n).all (aoOk n)=true) (h3:fz σ n 6 v=some v'):popA n v σ=some (v',σ.take n):=by
 simp [popA,h1,h2,h3]
theorem Yg {n:Nat}:∀ {vs:List AV},noLocs n vs=vs.all (noLoc n)
 | []=>rfl
 | v::r=>congrArg (noLoc n v&&·) (Yg (vs:=r))
theorem YDw:∀ l:List Int,intsOf (l.map .int)=some l
 | []=>rfl
 | a::r=>congrArg (Option.map (a::·)) (YDw r)
theorem YDo:∀ l:List (List Nat),strsOf (l.map .str)=some l
 | []=>rfl
 | a::r=>congrArg (Option.map (a::·)) (YDo r)
theorem Yt {Φ:Tab} {np k:Nat} {body:Ss} {as:List AV} {σ σ1:List AO} {ρ1:YF} {v v':AV} (ρ0:YF) (h0:as.length=np) (hρ:as.map some++List.replicate (k-np) none=ρ0) (h1:exSs Φ body ρ0 σ=some (.ret v,ρ1,σ1)) (h2:σ.length≤σ1.length)
  (h3:(σ1.take σ.length).all (aoOk σ.length)=true) (h4:fz σ1 σ.length 6 v=some v'):runF Φ np k body as σ=some (v',σ1.take σ.length):=by
 subst hρ
 refine (if_pos h0).trans (bs h1 ?_)
 exact YFU h2 h3 h4
theorem YFQ {Φ:Tab} {np k:Nat} {body:Ss} {as:List AV} {σ σ1:List AO} {ρ1:YF} (ρ0:YF) (h0:as.length=np) (hρ:as.map some++List.replicate (k-np) none=ρ0) (h1:exSs Φ body ρ0 σ=some (.next,ρ1,σ1)) (h2:σ.length≤σ1.length)
  (h3:(σ1.take σ.length).all (aoOk σ.length)=true):runF Φ np k body as σ=some (.none,σ1.take σ.length):=by
 subst hρ
 refine (if_pos h0).trans (bs h1 ?_)
 exact YFU h2 h3 (YZ rfl)
section
variable {Φ:Tab} {ρ:YF} {σ:List AO}
theorem YCu {β:Type} {o:Option AO} {a:List Nat} {b:Nat} {c:Int} {d:Nat} {f:List Nat→Nat→Int→Nat→Option β} (h:o=some (.lexer a b c d)):onLex o f=f a b c d:=by rw [h]; rfl
theorem YFN {β:Type} {o:Option AO} {n:Nat} {f:Nat→Option β} (h:o=some (.citer n true)):onCit o f=f n:=by rw [h]; rfl
theorem YGA {β:Type} {o:Option (Option AV)} {v:AV} {f:AV→Option β} (h:o=some (some v)):onVal o f=f v:=by rw [h]; rfl
theorem YHa :evE Φ .none ρ σ=some (.none,σ):=rfl
theorem YRL {b:Bool}:evE Φ (.bool b) ρ σ=some (.bool b,σ):=rfl
theorem YTh {i:Int}:evE Φ (.int i) ρ σ=some (.int i,σ):=rfl
theorem YTm {s:List Nat}:evE Φ (.str s) ρ σ=some (.str s,σ):=rfl
theorem YTF {x:String} {i:Int}:evE Φ (.gint x i) ρ σ=some (.int i,σ):=rfl
theorem YRu {m:Bool} {es:Es}:evE Φ (.lst m es) ρ σ=(evEs Φ es ρ σ).bind fun x=>newL m x.2 x.1:=rfl
theorem YKK :evEs Φ .nil ρ σ=some ([],σ):=rfl
theorem YOg {e:E} {r:Es}:evEs Φ (.cons e r) ρ σ=(evE Φ e ρ σ).bind fun x=>(evEs Φ r ρ x.2).map fun y=>(x.1::y.1,y.2):=rfl
theorem YQr :evTs Φ .nil ρ σ=some (true,σ):=rfl
theorem YQb :evTo Φ .nil ρ σ=some (false,σ):=rfl
theorem YDT {i:Nat} {e:E}:exS Φ (.asg i e) ρ σ=(evE Φ e ρ σ).map fun x=>(.next,ρ.set i (some x.1),x.2):=rfl
theorem YRc {t:T} {a b:Ss}:exS Φ (.ite t a b) ρ σ=(evT Φ t ρ σ).bind fun x=>if x.1 then exSs Φ a ρ x.2 else exSs Φ b ρ x.2:=rfl
theorem YHk {n:Nat} {t:T} {b:Ss}:exS Φ (.whl n t b) ρ σ=whlGo (evT Φ t) (exSs Φ b) n ρ σ:=rfl
theorem YRE {i:Nat} {it:E} {b:Ss}:exS Φ (.for_ i it b) ρ σ=(evE Φ it ρ σ).bind fun x=>forGo (fun v ρ σ=>exSs Φ b (ρ.set i (some v)) σ) x.1 (turns x.2 x.1) 0 ρ x.2:=rfl
theorem YUF :exS Φ .brk ρ σ=some (.brk,ρ,σ):=rfl
theorem YSI :exS Φ .cont ρ σ=some (.cont,ρ,σ):=rfl
theorem YBp :exSs Φ .nil ρ σ=some (.next,ρ,σ):=rfl
theorem YTT {i:Nat}:evE Φ (.var i) ρ σ=onVal ρ[i]? fun v=>some (v,σ):=rfl
theorem YQz {i:Nat} {it:E} {b:Ss}:exS Φ (.forc i it b) ρ σ=(evE Φ it ρ σ).bind fun x=>onLoc x.1 fun n=>onCit x.2[n]? fun lx=>forcGo Φ (fun v ρ σ=>exSs Φ b (ρ.set i (some v)) σ) n lx (room x.2 lx) ρ x.2:=rfl
theorem YGj {s:S} {r:Ss}:exSs Φ (.cons s r) ρ σ=(exS Φ s ρ σ).bind fun p=>match p.1 with
  | .next=>exSs Φ r p.2.1 p.2.2
  | f=>some (f,p.2):=rfl
end
section
variable {σ:List AO} {a b:Int} {s t:List Nat}
theorem YAo:binA σ .Add (.int a) (.int b)=some (.int (a+b)):=rfl
theorem YEt:binA σ .Sub (.int a) (.int b)=some (.int (a-b)):=rfl
theorem YLI (h:(fits a&&fits b)=true):binA σ .Mult (.int a) (.int b)=some (.int (a*b)):=YO (Bool.and_eq_true_iff.mp h) rfl
theorem YGm (h:0<b):a.fdiv b=a/b:=Int.fdiv_eq_ediv_of_nonneg _ (Int.le_of_lt h)
theorem YDe (h:0<b) (h2:b<1000000000):binA σ .FloorDiv (.int a) (.int b)=some (.int (a/b)):=YGm (a:=a) h▸YO ⟨h,h2⟩ rfl
theorem YJU (h:0<b):binA σ .Mod (.int a) (.int b)=some (.int (a%b)):=Int.fmod_eq_emod_of_nonneg a (Int.le_of_lt h)▸YO (p:=¬b=0) (fun e=>Int.lt_irrefl _ (e▸h)) rfl
theorem YSA {k:Nat} (h:k≤16) (h0:0≤a) (h1:a≤16):binA σ .Pow (.int a) (.int (k:Int))=some (.int (a ^ k)):=YO ⟨Int.natCast_nonneg k,Int.ofNat_le.mpr h,h0,h1⟩ rfl
theorem YRy:binA σ .RShift (.int a) (.int 1)=some (.int (a/2)):=YGm (a:=a) (b:=2) (by decide)▸YO rfl rfl
theorem YIv (h:s.length+t.length≤lim):binA σ .Add (.str s) (.str t)=some (.str (s++t)):=YO h rfl
theorem YJe {xs ys:List AV} (h:xs.length+ys.length≤lim):binA σ .Add (.lst xs) (.lst ys)=some (.lst (xs++ys)):=YO h rfl
theorem YMC:cmpA σ .Lt (.int a) (.int b)=some (decide (a<b)):=rfl
theorem YTx:cmpA σ .LtE (.int a) (.int b)=some (decide (a≤b)):=rfl
theorem YPO:cmpA σ .Gt (.int a) (.int b)=some (decide (b<a)):=rfl
theorem YSs {r t:List AV}:cmpA σ .Lt (.tup (.int a::r)) (.tup (.int b::t))=if a=b then cmpA σ .Lt (.tup r) (.tup t) else some (decide (a<b)):=by
 show ((if hk:a=b then _ else _:Crt _).map _:Crt _).map _=_
 by_cases h:a=b
 ·rw [dif_pos h,if_pos h]
  show _=((ltC r t).map _:Crt _).map _
  cases ltC r t <;> rfl
 ·rw [dif_neg h,if_neg h]; rfl
theorem YSB {x:Nat}:cmpA σ .In (.str [x]) (.str t)=some (t.contains x):=rfl
theorem YMz:truthA σ (.int a)=some (a != 0):=rfl
theorem YMp (h:s.length≤lim):truthA σ (.str s)=some (!s.isEmpty):=YO h rfl
theorem YHL {n:Nat} {vs:List AV} (h:σ[n]?=some (.list vs)):items σ (.loc n)=some vs:=by
 show (match σ[n]? with | some (.list vs)=>some vs | _=>none)=_
 rw [h]
theorem YIW {n:Nat} {vs:List AV} (h:σ[n]?=some (.list vs)) (hl:vs.length≤lim):truthA σ (.loc n)=some (!vs.isEmpty):=YG (YHL h) (YO hl rfl)
theorem YCs (h:s.length≤lim):biA σ .len [.str s]=some (.int s.length):=YO h rfl
theorem YKz {vs:List AV} (h:vs.length≤lim):biA σ .len [.lst vs]=some (.int vs.length):=YO h rfl
theorem YSQ {n:Nat} {vs:List AV} (h:σ[n]?=some (.list vs)) (hl:vs.length≤lim):biA σ .len [.loc n]=some (.int vs.length):=YG (YHL h) (YO hl rfl)
theorem YCK (h:fits b=true):biA σ .range [.int b]=some (.rng 0 b 1):=YO h rfl
theorem YRD (h:(fits a&&fits b)=true):biA σ .range [.int a,.int b]=some (.rng a b 1):=YO (Bool.and_eq_true_iff.mp h) rfl
theorem YTO:biA σ .min [.int a,.int b]=some (.int (min a b)):=by
 show some (AV.int (if b<a then b else a))=_
 congr 2
 by_cases h:b<a
 ·rw [if_pos h]; exact Zi153 h
 ·rw [if_neg h]; exact Zi154 h
theorem YGx {i:Nat} (h:i≤1000000000):fits (i:Int)=true:=Bool.and_eq_true_iff.mpr ⟨decide_eq_true (by exact Zi64),decide_eq_true (by exact Zi155 h)⟩
theorem YOZ {i n:Nat} (hi:i<n):seqIndex? (i:Int) n=some i:=YBh (Int.natCast_nonneg i) hi
theorem YFd {i:Nat} {c:Nat} (h:s[i]?=some c) (hs:s.length≤lim):subA σ (.str s) (.int (i:Int))=some (.str [c]):=
 have hi:=(List.getElem?_eq_some_iff.mp h).1
 YO (YGx (Nat.le_of_lt (Nat.lt_of_lt_of_le hi (Nat.le_trans hs (by decide))))) (YG (YOZ hi) (YG h rfl))
theorem YMr {i:Nat} {c:Nat} (h0:0<i) (h:s[s.length-i]?=some c) (hi:i≤s.length) (hs:s.length≤lim):subA σ (.str s) (.int (-(i:Int)))=some (.str [c]):=by
 have hl:s.length≤1000000:=hs
 refine YO (p:=fits (-(i:Int))=true) (Bool.and_eq_true_iff.mpr ⟨decide_eq_true (by exact Zi156 hl hi),decide_eq_true (by exact Zi157)⟩) (YG (a:=s.length-i) ?_ (YG h rfl))
 unfold seqIndex?
 rw [if_pos (show (-(i:Int)<0) by exact Zi158 h0)]
 show (if _ then _ else _)=_
 rw [if_pos (Bool.and_eq_true_iff.mpr ⟨decide_eq_true (by exact Zi159 hi),decide_eq_true (by exact Zi160 h0)⟩)]
 congr 1; exact Zi161
theorem YGR {α:Type} {P:α→Prop} {o:Option α} {f:∀ a,o=some a→P a}:(optC o fun a h=>some ⟨a,f a h⟩:Crt P).val=o:=by cases o <;> rfl
theorem YFX {vs:List AV}:items σ (.lst vs)=some vs:=rfl
theorem in60 {i:Nat} (h:i<1000000000):0≤(i:Int)∧(i:Int)<2 ^ 60:=⟨Int.natCast_nonneg i,by exact Zi162 h⟩
theorem YQN {vs:List AV} {i:Nat} (h:i<1000000000):subA σ (.tup vs) (.int (i:Int))=vs[i]?:=by
 rw [←Int.toNat_natCast i]
 exact YO (in60 h) YGR
theorem YBv {vs:List AV} {i:Nat} (h:i<1000000000):subA σ (.lst vs) (.int (i:Int))=vs[i]?:=by
 rw [←Int.toNat_natCast i]
 unfold subA sbC
 exact YG YFX (YO (in60 h) YGR)
theorem YGd {n:Nat} {vs:List AV} {i:Nat} (hn:σ[n]?=some (.list vs)) (h:i<1000000000):subA σ (.loc n) (.int (i:Int))=vs[i]?:=by
 rw [←Int.toNat_natCast i]
 unfold subA sbC
 exact YG (YHL hn) (YO (in60 h) YGR)
theorem YIo {n:Nat} {vs:List AV} {i:Nat} {v:AV} (hn:σ[n]?=some (.list vs)) (h:i<vs.length) (hl:vs.length≤lim):ssetA σ (.loc n) (.int (i:Int)) v=some (σ.set n (.list (vs.set i v))):=YDE hn (YO ⟨Int.natCast_nonneg i,Int.ofNat_lt.mpr h,hl⟩ rfl)
theorem YIl {n:Nat} {vs:List AV} {v:AV} (hn:σ[n]?=some (.list vs)) (hl:vs.length≤lim):meA σ .append (.loc n) [v]=some (.none,σ.set n (.list (vs++[v]))):=YDE hn (YO hl rfl)
theorem YTS {n:Nat} {vs:List AV} {v:AV} (hn:σ[n]?=some (.list (vs++[v]))) (hl:vs.length<lim):meA σ .pop (.loc n) []=some (v,σ.set n (.list vs)):=
 (YDE hn (YG (a:=v) List.getLast?_concat (YO (by rw [List.length_append]; exact hl) rfl))).trans (congrArg (fun l=>some (v,σ.set n (AO.list l))) List.dropLast_concat)
theorem YRd {n:Nat} {vs:List AV} {v:AV} (hn:σ[n]?=some (.list (v::vs))) (hl:vs.length≤lim):meA σ .pop0 (.loc n) [.int 0]=some (v,σ.set n (.list vs)):=YDE hn (YO hl rfl)
theorem YTi {n:Nat} {vs ws:List AV} (hn:σ[n]?=some (.list vs)) (hl:vs.length+ws.length≤lim):meA σ .extend (.loc n) [.lst ws]=some (.none,σ.set n (.list (vs++ws))):=YDE hn (YO hl rfl)
theorem YKj {ss:List (List Nat)} (hl:(ss.map List.length).sum≤lim):meA σ .join (.str []) [.lst (ss.map .str)]=some (.str ss.flatten,σ):=by
 unfold meA meC
 exact YG (o:=items σ (.lst (ss.map .str))) rfl (YG (YDo ss) (YO hl rfl))
theorem YEW {c:Nat} (h:c<128):meA σ .lower (.str [c]) []=some (.str [lowerC c],σ):=YO h rfl
theorem YCO {n:Nat} {vs:List AV} {m:Me} (hm:m=.append∨m=.pop∨m=.pop0∨m=.extend∨m=.index) (h:σ[n]?=some (.list vs)):meOk σ m (.loc n)=true:=by
 have e:(items σ (.loc n)).isSome=true:=by rw [YHL h]; rfl
 rcases hm with rfl | rfl | rfl | rfl | rfl <;> exact e
end
section
variable {σ:List AO}
theorem YCD {i:Int} (h:fits i=true):optI (.int i)=some (some i):=YO h rfl
theorem YIa {x:List Nat} {lo hi:AV} {l h:Option Int} (h1:optI lo=some l) (h2:optI hi=some h) (hl:x.length≤lim):sliA σ (.str x) lo hi .none=some (.str (slA x l h none)):=YG h1 (YG h2 (YG (show optI .none=some none from rfl) (YO ⟨hl,rfl⟩ rfl)))
theorem YEM {vs:List AV} {lo hi st:AV} {l h s:Option Int} (h1:optI lo=some l) (h2:optI hi=some h) (h3:optI st=some s) (h0:s≠some 0) (hl:vs.length≤lim):sliA σ (.lst vs) lo hi st=some (.lst (slA vs l h s)):=
 YG h1 (YG h2 (YG h3 (YO h0 (YG YFX (YO hl rfl)))))
theorem YNG {l:List Int} {vs:List AV} (h:intsOf vs=some l):biA σ .sum [.lst vs]=some (.int l.sum):=by
 unfold biA biC
 exact YG YFX (YG h rfl)
theorem YOY {a b c:Int} (h:fits a=true∧fits b=true∧fits c=true∧c≠0):biA σ .range [.int a,.int b,.int c]=some (.rng a b c):=YO h rfl
theorem YTu {a b c:Int} (h:rlen a b c≤lim):mrA [.rng a b c]=some ((List.range (rlen a b c)).map fun (i:Nat)=>.int (a+c*i)):=YO h rfl
theorem YRJ {a b:Int}:augA .Add (.int a) (.int b)=some (.int (a+b)):=rfl
theorem YTQ {s t:List Nat} (h:s.length+t.length≤lim):augA .Add (.str s) (.str t)=some (.str (s++t)):=YO h rfl
theorem YJg {n pos p:Nat} {text:List Nat} {line:Int} (h:σ[n]?=some (.lexer text pos line p)) (h1:pos≤text.length) (h2:text.length≤lim):readA σ (.loc n)=some (.str ((text.drop pos).take 1),σ.set n (.lexer text (pos+((text.drop pos).take 1).length) line p)):=(YCu h).trans (if_pos ⟨h1,h2⟩)
end
noncomputable def SOk (s:List Nat):Bool:=s.all (·<0x110000)
noncomputable def gd:Nat→AV→Bool
 | _,.none=>true
 | _,.bool _=>true
 | _,.int _=>true
 | _,.str s=>SOk s
 | k+1,.tup vs=>vs.all fun v=>gd k v
 | k+1,.lst vs=>vs.all fun v=>gd k v
 | _,_=>false
theorem YAc {f:PyData→Prop} (hf:∀ d,f d→PyData.eqv d d=true):∀ l:List PyData,(∀ d∈l,f d)→PyData.eqvAll l l=true
 | [],_=>by simp [PyData.eqvAll]
 | d::r,h=>by simp [PyData.eqvAll,hf d (h d (by simp)),YAc hf r fun x hx=>h x (by simp [hx])]
theorem YCe {P:PyData→Prop} {k:Nat} (h:∀ v,gd k v=true→∃ d,dataOf v=some d∧P d):∀ vs:List AV,(vs.all fun v=>gd k v)=true→∃ ds,Yd vs=some ds∧∀ d∈ds,P d
 | [],_=>⟨[],rfl,fun _ q=>(nomatch q)⟩
 | v::r,hv=>by
  have hv:=Bool.and_eq_true_iff.mp hv
  obtain ⟨d,e,p⟩:=h v hv.1
  obtain ⟨ds,e',p'⟩:=YCe h r hv.2
  refine ⟨d::ds,bs e (ms e'),fun x hx=>?_⟩
  rcases List.mem_cons.mp hx with rfl | hx
  ·exact p
  ·exact p' x hx
set_option genInjectivity false in
structure PGood (k:Nat) (d:PyData):Prop where
 lay:PyData.canLay0 d=true
 dep:PyData.depth d≤k
 refl:PyData.eqv d d=true
theorem lays {k:Nat}:∀ ds:List PyData,(∀ d∈ds,PGood k d)→PyData.canLayAll0 ds=true∧PyData.depthAll ds≤k
 | [],_=>by simp [PyData.canLayAll0,PyData.depthAll]
 | d::r,h=>by
  have h1:=h d (by simp)
  have h2:=lays r fun x hx=>h x (by simp [hx])
  simp only [PyData.canLayAll0,PyData.depthAll,h1.lay,h2.1,Bool.and_self,true_and]
  have:=h1.dep
  have:=h2.2
  exact Ze247 ‹_› h2.2
theorem YEc:∀ (k:Nat) (v:AV),gd k v=true→∃ d,dataOf v=some d∧PGood k d
 | k,.none,_=>⟨.none,rfl,by simp [PyData.canLay0],by simp [PyData.depth],by simp [PyData.eqv]⟩
 | k,.bool b,_=>⟨.bool b,rfl,by simp [PyData.canLay0],by simp [PyData.depth],by simp [PyData.eqv]⟩
 | k,.int i,_=>⟨.int i,rfl,by simp [PyData.canLay0],by simp [PyData.depth],by simp [PyData.eqv]⟩
 | k,.str s,h=>⟨.str ⟨s.toArray⟩,rfl,by (have h:SOk s=true:=(by cases k <;> exact h)); simp [PyData.canLay0,PyData.strOk]; simpa [SOk] using h,by simp [PyData.depth],by simp [PyData.eqv]⟩
 | k+1,.tup vs,h=>by
  obtain ⟨ds,e,p⟩:=YCe (YEc k) vs h
  obtain ⟨l1,l2⟩:=lays ds p
  exact ⟨.tuple ds,congrArg (Option.map PyData.tuple) e,by simpa [PyData.canLay0] using l1,by simp [PyData.depth]; lia,by simp only [PyData.eqv]; exact YAc (fun d hd=>hd.refl) ds p⟩
 | k+1,.lst vs,h=>by
  obtain ⟨ds,e,p⟩:=YCe (YEc k) vs h
  obtain ⟨l1,l2⟩:=lays ds p
  exact ⟨.list ds,congrArg (Option.map PyData.list) e,by simpa [PyData.canLay0] using l1,by simp [PyData.depth]; lia,by simp only [PyData.eqv]; exact YAc (fun d hd=>hd.refl) ds p⟩
 | 0,.tup _,h=>by cases h
 | 0,.lst _,h=>by cases h
 | 0,.rng ..,h=>by cases h
 | _+1,.rng ..,h=>by cases h
 | 0,.loc _,h=>by cases h
 | _+1,.loc _,h=>by cases h
theorem YU {k:Nat} {d:PyData} (h:PGood k d) (hk:k≤64):SeqAt.shaped d=true:=by
 unfold SeqAt.shaped
 rw [h.lay,Bool.true_and]
 have:=h.dep
 exact decide_eq_true (by exact Ze248 hk this)
theorem YKZ {σ:List AO} {v:AV} {k:Nat} (h:gd k v=true):dataAt σ v=dataOf v:=by
 cases v with
 | loc n=>cases k <;> cases h
 | _=>rfl
theorem YOc {σ:List AO} {x y:AV} {a b:PyData} (h1:dataAt σ x=some a) (h2:dataAt σ y=some b) (g1:SeqAt.shaped a=true) (g2:SeqAt.shaped b=true):cmpA σ .Eq x y=some (PyData.eqv a b):=YG h1 (YG h2 (YO ⟨g1,g2⟩ rfl))
theorem YNx {σ:List AO} {x y:AV} {a b:PyData} (h1:dataAt σ x=some a) (h2:dataAt σ y=some b) (g1:SeqAt.shaped a=true) (g2:SeqAt.shaped b=true):cmpA σ .NotEq x y=some (!PyData.eqv a b):=YG h1 (YG h2 (YO ⟨g1,g2⟩ rfl))
theorem YCC {σ:List AO} {v:AV} {k:Nat} (h:gd k v=true) (hk:k≤64):cmpA σ .NotEq v v=some false:=by
 obtain ⟨d,e,g⟩:=YEc k v h
 have q:=(YKZ (σ:=σ) h).trans e
 exact (YNx q q (YU g hk) (YU g hk)).trans (congrArg (fun b=>some (!b)) g.refl)
theorem YKl {σ:List AO} {v:AV} {k:Nat} (h:gd k v=true) (hk:k≤64):cmpA σ .Eq v v=some true:=by
 obtain ⟨d,e,g⟩:=YEc k v h
 have q:=(YKZ (σ:=σ) h).trans e
 exact (YOc q q (YU g hk) (YU g hk)).trans (congrArg some g.refl)
theorem YNO (s t:List Nat):PyData.eqv (.str ⟨s.toArray⟩) (.str ⟨t.toArray⟩)=decide (s=t):=by
 simp only [PyData.eqv]
 by_cases h:s=t
 ·subst h; simp
 ·rw [decide_eq_false h]
  refine beq_eq_false_iff_ne.mpr fun q=>h ?_
  injection q with q
  simpa using q
theorem YRB {σ:List AO} {s:List Nat}:dataAt σ (.str s)=some (.str ⟨s.toArray⟩):=rfl
theorem YMM {σ:List AO} {a:Int}:dataAt σ (.int a)=some (.int a):=rfl
theorem YUD {σ:List AO}:dataAt σ (.lst [])=some (.list []):=rfl
theorem YFi {σ:List AO} {s t:List Nat} (h1:SOk s=true) (h2:SOk t=true):cmpA σ .Eq (.str s) (.str t)=some (decide (s=t)):=by
 have g1:SeqAt.shaped (.str ⟨s.toArray⟩)=true:=by obtain ⟨d,e,g⟩:=YEc 0 (.str s) h1; cases e; exact YU g (by decide)
 have g2:SeqAt.shaped (.str ⟨t.toArray⟩)=true:=by obtain ⟨d,e,g⟩:=YEc 0 (.str t) h2; cases e; exact YU g (by decide)
 exact (YOc YRB YRB g1 g2).trans (congrArg some (YNO s t))
theorem YEI {σ:List AO} {a b:Int}:cmpA σ .Eq (.int a) (.int b)=some (decide (a=b)):=by
 have g1:∀ a:Int,SeqAt.shaped (.int a)=true:=fun a=>by obtain ⟨d,e,g⟩:=YEc 0 (.int a) rfl; cases e; exact YU g (by decide)
 have g2:PyData.eqv (.int a) (.int b)=decide (a=b):=by
  simp only [PyData.eqv]
  by_cases h:a=b
  ·subst h; simp
  ·rw [decide_eq_false h]; exact beq_eq_false_iff_ne.mpr h
 exact (YOc YMM YMM (g1 a) (g1 b)).trans (congrArg some g2)
theorem YUJ {σ:List AO} {a b:Int}:cmpA σ .NotEq (.int a) (.int b)=some (!decide (a=b)):=by
 have g1:∀ a:Int,SeqAt.shaped (.int a)=true:=fun a=>by obtain ⟨d,e,g⟩:=YEc 0 (.int a) rfl; cases e; exact YU g (by decide)
 have g2:PyData.eqv (.int a) (.int b)=decide (a=b):=by
  simp only [PyData.eqv]
  by_cases h:a=b
  ·subst h; simp
  ·rw [decide_eq_false h]; exact beq_eq_false_iff_ne.mpr h
 exact (YNx YMM YMM (g1 a) (g1 b)).trans (congrArg (fun b=>some (!b)) g2)
theorem YMK {σ:List AO} {v:AV} {vs:List AV} {k:Nat} (hv:v=.lst vs∨∃ n,v=.loc n∧σ[n]?=some (.list vs)) (h:(vs.all fun v=>gd k v)=true) (hk:k≤60):cmpA σ .NotEq v (.lst [])=some (!vs.isEmpty):=by
 obtain ⟨ds,e,p⟩:=YCe (YEc k) vs h
 obtain ⟨l1,l2⟩:=lays ds p
 have hd:dataAt σ v=some (.list ds):=by
  rcases hv with rfl | ⟨n,rfl,hn⟩
  ·exact congrArg (Option.map PyData.list) e
  ·show (match σ[n]? with
    | some (AO.list vs)=>(Yd vs).map PyData.list
    | _=>none)=_
   rw [hn]
   exact congrArg (Option.map PyData.list) e
 have g1:SeqAt.shaped (.list ds)=true:=by
  unfold SeqAt.shaped
  simp only [PyData.canLay0,l1,PyData.depth,Bool.true_and]
  exact decide_eq_true (by exact Ze249 hk l2)
 have g2:SeqAt.shaped (.list [])=true:=by decide
 refine (YNx hd YUD g1 g2).trans (congrArg (fun b=>some (!b)) (a₂:=vs.isEmpty) ?_)
 simp only [PyData.eqv]
 cases vs with
 | nil=>cases e; rfl
 | cons v r=>
  obtain ⟨d,_,e⟩:=Option.bind_eq_some_iff.mp (show ((dataOf v).bind fun d=>(Yd r).map (d::·))=some ds from e)
  obtain ⟨ds',_,rfl⟩:=Option.map_eq_some_iff.mp e
  rfl
section
variable {β:Type}
end
noncomputable def pVal (o:Option (Option AV)) (f:AV→Prop):Prop:=match o with
 | some (some v)=>f v
 | _=>True
theorem YNF {o:Option (Option AV)} {f:AV→Prop} (k:∀ v,o=some (some v)→f v):pVal o f:=by
 cases o with
 | none=>trivial
 | some o=>cases o with
  | none=>trivial
  | some v=>exact k v rfl
noncomputable def pInt (v:AV) (f:Int→Prop):Prop:=match v with
 | .int i=>f i
 | _=>True
theorem YRF {v:AV} {f:Int→Prop} (k:∀ i,v=.int i→f i):pInt v f:=by
 cases v with
 | int i=>exact k i rfl
 | _=>trivial
noncomputable def pLoc (v:AV) (f:Nat→Prop):Prop:=match v with
 | .loc i=>f i
 | _=>True
theorem YFK {v:AV} {f:Nat→Prop} (k:∀ i,v=.loc i→f i):pLoc v f:=by
 cases v with
 | loc i=>exact k i rfl
 | _=>trivial
noncomputable def pB (b:Bool) (p q:Prop):Prop:=match b with
 | true=>p
 | false=>q
theorem YPc {b:Bool} {p q:Prop} (h1:b=true→p) (h2:b=false→q):pB b p q:=by
 cases b with
 | true=>exact h1 rfl
 | false=>exact h2 rfl
section
variable (Φ:Tab)
mutual
noncomputable def syE:E→YF→List AO→(AV→List AO→Prop)→Prop
 | .none,_,σ,k=>k .none σ
 | .bool b,_,σ,k=>k (.bool b) σ
 | .int i,_,σ,k=>k (.int i) σ
 | .str s,_,σ,k=>k (.str s) σ
 | .var i,ρ,σ,k=>pVal ρ[i]? fun v=>k v σ
 | .gint _ i,_,σ,k=>k (.int i) σ
 | .bin op a b,ρ,σ,k=>syE a ρ σ fun x σ=>syE b ρ σ fun y σ=>∀ ⦃v⦄,binA σ op x y=some v→k v σ
 | .neg a,ρ,σ,k=>syE a ρ σ fun x σ=>pInt x fun i=>k (.int (-i)) σ
 | .orv a b,ρ,σ,k=>syE a ρ σ fun x σ=>∀ ⦃t⦄,truthA σ x=some t→pB t (k x σ) (syE b ρ σ k)
 | .ife t a b,ρ,σ,k=>syT t ρ σ fun c σ=>pB c (syE a ρ σ k) (syE b ρ σ k)
 | .cmp op a b,ρ,σ,k=>syE a ρ σ fun x σ=>syE b ρ σ fun y σ=>∀ ⦃c⦄,cmpA σ op x y=some c→k (.bool c) σ
 | .call f as,ρ,σ,k=>syEs as ρ σ fun xs σ=>∀ ⦃v σ'⦄,Φ f xs σ=some (v,σ')→k v σ'
 | .bi b as,ρ,σ,k=>syEs as ρ σ fun xs σ=>∀ ⦃v⦄,biA σ b xs=some v→k v σ
 | .mrange as,ρ,σ,k=>syEs as ρ σ fun xs σ=>∀ ⦃vs v σ'⦄,mrA xs=some vs→newL true σ vs=some (v,σ')→k v σ'
 | .me m o as,ρ,σ,k=>syE o ρ σ fun x σ=>meOk σ m x=true→syEs as ρ σ fun xs σ=>∀ ⦃v σ'⦄,meA σ m x xs=some (v,σ')→k v σ'
 | .lm f o as,ρ,σ,k=>syE o ρ σ fun x σ=>pLoc x fun n=>∀ ⦃a b c d⦄,σ[n]?=some (.lexer a b c d)→syEs as ρ σ fun xs σ=>∀ ⦃v σ'⦄,Φ f (.loc n::xs) σ=some (v,σ')→k v σ'
 | .sub o i,ρ,σ,k=>syE o ρ σ fun x σ=>syE i ρ σ fun y σ=>∀ ⦃v⦄,subA σ x y=some v→k v σ
 | .sli o lo hi st,ρ,σ,k=>syE o ρ σ fun x σ=>syE lo ρ σ fun l σ=>syE hi ρ σ fun h σ=>syE st ρ σ fun s σ=>∀ ⦃v⦄,sliA σ x l h s=some v→k v σ
 | .lst m es,ρ,σ,k=>syEs es ρ σ fun xs σ=>∀ ⦃v σ'⦄,newL m σ xs=some (v,σ')→k v σ'
 | .tup es,ρ,σ,k=>syEs es ρ σ fun xs σ=>xs.length≤lim→k (.tup xs) σ
 | .comp m elt it cs,ρ,σ,k=>∀ ⦃v σ'⦄,evE Φ (.comp m elt it cs) ρ σ=some (v,σ')→k v σ'
 | .comp2 m elt it1 it2,ρ,σ,k=>∀ ⦃v σ'⦄,evE Φ (.comp2 m elt it1 it2) ρ σ=some (v,σ')→k v σ'
 | .pushb o,ρ,σ,k=>syE o ρ σ fun x σ=>pLoc x fun n=>∀ ⦃a b c d⦄,σ[n]?=some (.lexer a b c d)→k (.loc d) σ
 | .lineno o,ρ,σ,k=>syE o ρ σ fun x σ=>pLoc x fun n=>∀ ⦃a b c d⦄,σ[n]?=some (.lexer a b c d)→k (.int c) σ
 | .white o,ρ,σ,k=>syE o ρ σ fun x σ=>pLoc x fun n=>∀ ⦃a b c d⦄,σ[n]?=some (.lexer a b c d)→k (.str [10,9,13,32]) σ
 | .readch o,ρ,σ,k=>syE o ρ σ fun x σ=>∀ ⦃v σ'⦄,readA σ x=some (v,σ')→k v σ'
 | .iterread o,ρ,σ,k=>syE o ρ σ fun x σ=>pLoc x fun n=>∀ ⦃a b c d⦄,σ[n]?=some (.lexer a b c d)→k (.loc σ.length) (σ++[.citer n true])
noncomputable def syEs:Es→YF→List AO→(List AV→List AO→Prop)→Prop
 | .nil,_,σ,k=>k [] σ
 | .cons e r,ρ,σ,k=>syE e ρ σ fun x σ=>syEs r ρ σ fun y σ=>k (x::y) σ
noncomputable def syT:T→YF→List AO→(Bool→List AO→Prop)→Prop
 | .val e,ρ,σ,k=>syE e ρ σ fun x σ=>∀ ⦃t⦄,truthA σ x=some t→k t σ
 | .cmp op a b,ρ,σ,k=>syE a ρ σ fun x σ=>syE b ρ σ fun y σ=>∀ ⦃c⦄,cmpA σ op x y=some c→k c σ
 | .not t,ρ,σ,k=>syT t ρ σ fun c σ=>pB c (k false σ) (k true σ)
 | .and ts,ρ,σ,k=>syTs ts ρ σ k
 | .or ts,ρ,σ,k=>syTo ts ρ σ k
 | .cmp2 op1 op2 a b c,ρ,σ,k=>syE a ρ σ fun x σ=>syE b ρ σ fun y σ=>∀ ⦃t⦄,cmpA σ op1 x y=some t→pB t (syE c ρ σ fun z σ=>∀ ⦃u⦄,cmpA σ op2 y z=some u→k u σ) (k false σ)
noncomputable def syTs:Ts→YF→List AO→(Bool→List AO→Prop)→Prop
 | .nil,_,σ,k=>k true σ
 | .cons t r,ρ,σ,k=>syT t ρ σ fun c σ=>pB c (syTs r ρ σ k) (k false σ)
noncomputable def syTo:Ts→YF→List AO→(Bool→List AO→Prop)→Prop
 | .nil,_,σ,k=>k false σ
 | .cons t r,ρ,σ,k=>syT t ρ σ fun c σ=>pB c (k true σ) (syTo r ρ σ k)
end
mutual
noncomputable def syS:S→YF→List AO→(Fl→YF→List AO→Prop)→Prop
 | .expr e,ρ,σ,k=>syE Φ e ρ σ fun _ σ=>k .next ρ σ
 | .asg i e,ρ,σ,k=>syE Φ e ρ σ fun x σ=>k .next (ρ.set i (some x)) σ
 | .asg2 i j e,ρ,σ,k=>syE Φ e ρ σ fun x σ=>k .next ((ρ.set i (some x)).set j (some x)) σ
 | .unp i j e,ρ,σ,k=>syE Φ e ρ σ fun x σ=>∀ ⦃a b⦄,x=.tup [a,b]→k .next ((ρ.set i (some a)).set j (some b)) σ
 | .swap i j e,ρ,σ,k=>syE Φ e ρ σ fun x σ=>∀ ⦃a b⦄,x=.tup [a,b]→k .next ((ρ.set j (some b)).set i (some a)) σ
 | .sset o i e,ρ,σ,k=>syE Φ e ρ σ fun x σ=>syE Φ o ρ σ fun y σ=>syE Φ i ρ σ fun z σ=>∀ ⦃σ'⦄,ssetA σ y z x=some σ'→k .next ρ σ'
 | .aug i op e,ρ,σ,k=>pVal ρ[i]? fun v=>syE Φ e ρ σ fun x σ=>∀ ⦃y⦄,augA op v x=some y→k .next (ρ.set i (some y)) σ
 | .augline o e,ρ,σ,k=>∀ ⦃fl ρ' σ'⦄,exS Φ (.augline o e) ρ σ=some (fl,ρ',σ')→k fl ρ' σ'
 | .ite t a b,ρ,σ,k=>syT Φ t ρ σ fun c σ=>pB c (sySs a ρ σ k) (sySs b ρ σ k)
 | .whl n t b,ρ,σ,k=>∀ ⦃fl ρ' σ'⦄,exS Φ (.whl n t b) ρ σ=some (fl,ρ',σ')→k fl ρ' σ'
 | .for_ i it b,ρ,σ,k=>∀ ⦃fl ρ' σ'⦄,exS Φ (.for_ i it b) ρ σ=some (fl,ρ',σ')→k fl ρ' σ'
 | .forr i n b,ρ,σ,k=>∀ ⦃fl ρ' σ'⦄,exS Φ (.forr i n b) ρ σ=some (fl,ρ',σ')→k fl ρ' σ'
 | .forc i it b,ρ,σ,k=>∀ ⦃fl ρ' σ'⦄,exS Φ (.forc i it b) ρ σ=some (fl,ρ',σ')→k fl ρ' σ'
 | .ret e,ρ,σ,k=>syE Φ e ρ σ fun x σ=>k (.ret x) ρ σ
 | .brk,ρ,σ,k=>k .brk ρ σ
 | .cont,ρ,σ,k=>k .cont ρ σ
noncomputable def sySs:Ss→YF→List AO→(Fl→YF→List AO→Prop)→Prop
 | .nil,ρ,σ,k=>k .next ρ σ
 | .cons s r,ρ,σ,k=>syS s ρ σ fun fl ρ σ=>match fl with
  | .next=>sySs r ρ σ k
  | f=>k f ρ σ
end
mutual
theorem YL:∀ (e:E) (ρ:YF) (σ:List AO) {k:AV→List AO→Prop},(∀ v σ',evE Φ e ρ σ=some (v,σ')→k v σ')→syE Φ e ρ σ k
 | .none,ρ,σ,k,H=>H _ _ YHa
 | .bool b,ρ,σ,k,H=>H _ _ YRL
 | .int i,ρ,σ,k,H=>H _ _ YTh
 | .str s,ρ,σ,k,H=>H _ _ YTm
 | .var i,ρ,σ,k,H=>YNF fun v h=>H _ _ (YGA h)
 | .gint x i,ρ,σ,k,H=>H _ _ YTF
 | .bin op a b,ρ,σ,k,H=>YL a ρ σ fun x σ1 ha=>YL b ρ σ1 fun y σ2 hb=>fun v h=>H _ _ (bs ha (bs hb (ms h)))
 | .neg a,ρ,σ,k,H=>YL a ρ σ fun x σ1 ha=>YRF fun i h=>H _ _ (bs ha (by subst h; rfl))
 | .orv a b,ρ,σ,k,H=>YL a ρ σ fun x σ1 ha=>fun t h=>YPc (fun q=>H _ _ (bs ha (bs h (if_pos q)))) fun q=>YL b ρ σ1 fun v σ' hb=>H _ _ (bs ha (bs h ((if_neg (by rw [q]; exact Bool.false_ne_true)).trans hb)))
 | .ife t a b,ρ,σ,k,H=>YDZ t ρ σ fun c σ1 ha=>YPc (fun q=>YL a ρ σ1 fun v σ' hb=>H _ _ (bs ha ((if_pos q).trans hb))) fun q=>YL b ρ σ1 fun v σ' hb=>H _ _ (bs ha ((if_neg (by rw [q]; exact Bool.false_ne_true)).trans hb))
 | .cmp op a b,ρ,σ,k,H=>YL a ρ σ fun x σ1 ha=>YL b ρ σ1 fun y σ2 hb=>fun v h=>H _ _ (bs ha (bs hb (ms h)))
 | .call f as,ρ,σ,k,H=>YBJ as ρ σ fun xs σ1 ha=>fun v σ' h=>H _ _ (bs ha h)
 | .bi b as,ρ,σ,k,H=>YBJ as ρ σ fun xs σ1 ha=>fun v h=>H _ _ (bs ha (ms h))
 | .mrange as,ρ,σ,k,H=>YBJ as ρ σ fun xs σ1 ha=>fun vs v σ' h1 h2=>H _ _ (bs ha (bs h1 h2))
 | .me m o as,ρ,σ,k,H=>YL o ρ σ fun x σ1 ha=>fun h1=>YBJ as ρ σ1 fun xs σ2 hb=>fun v σ' h=>H _ _ (bs ha ((if_pos h1).trans (bs hb h)))
 | .lm f o as,ρ,σ,k,H=>YL o ρ σ fun x σ1 ha=>YFK fun n q=>fun a b c d h1=>YBJ as ρ σ1 fun xs σ2 hb=>fun v σ' h=>H _ _ (bs ha (by subst q; exact (YCu h1).trans (bs hb h)))
 | .sub o i,ρ,σ,k,H=>YL o ρ σ fun x σ1 ha=>YL i ρ σ1 fun y σ2 hb=>fun v h=>H _ _ (bs ha (bs hb (ms h)))
 | .sli o lo hi st,ρ,σ,k,H=>YL o ρ σ fun x σ1 ha=>YL lo ρ σ1 fun y σ2 hb=>YL hi ρ σ2 fun z σ3 hc=>YL st ρ σ3 fun w σ4 hd=>fun v h=>H _ _ (bs ha (bs hb (bs hc (bs hd (ms h)))))
 | .lst m es,ρ,σ,k,H=>YBJ es ρ σ fun xs σ1 ha=>fun v σ' h=>H _ _ (bs ha h)
 | .tup es,ρ,σ,k,H=>YBJ es ρ σ fun xs σ1 ha=>fun h=>H _ _ (bs ha (if_pos h))
 | .comp m elt it cs,ρ,σ,k,H=>fun _ _ h=>H _ _ h
 | .comp2 m elt it1 it2,ρ,σ,k,H=>fun _ _ h=>H _ _ h
 | .pushb o,ρ,σ,k,H=>YL o ρ σ fun x σ1 ha=>YFK fun n q=>fun a b c d h=>H _ _ (bs ha (by subst q; exact YCu h))
 | .lineno o,ρ,σ,k,H=>YL o ρ σ fun x σ1 ha=>YFK fun n q=>fun a b c d h=>H _ _ (bs ha (by subst q; exact YCu h))
 | .white o,ρ,σ,k,H=>YL o ρ σ fun x σ1 ha=>YFK fun n q=>fun a b c d h=>H _ _ (bs ha (by subst q; exact YCu h))
 | .readch o,ρ,σ,k,H=>YL o ρ σ fun x σ1 ha=>fun v σ' h=>H _ _ (bs ha h)
 | .iterread o,ρ,σ,k,H=>YL o ρ σ fun x σ1 ha=>YFK fun n q=>fun a b c d h=>H _ _ (bs ha (by subst q; exact YCu h))
theorem YBJ:∀ (e:Es) (ρ:YF) (σ:List AO) {k:List AV→List AO→Prop},(∀ v σ',evEs Φ e ρ σ=some (v,σ')→k v σ')→syEs Φ e ρ σ k
 | .nil,ρ,σ,k,H=>H _ _ YKK
 | .cons e r,ρ,σ,k,H=>YL e ρ σ fun x σ1 ha=>YBJ r ρ σ1 fun y σ2 hb=>H _ _ (bs ha (ms hb))
theorem YDZ:∀ (e:T) (ρ:YF) (σ:List AO) {k:Bool→List AO→Prop},(∀ v σ',evT Φ e ρ σ=some (v,σ')→k v σ')→syT Φ e ρ σ k
 | .val e,ρ,σ,k,H=>YL e ρ σ fun x σ1 ha=>fun t h=>H _ _ (bs ha (ms h))
 | .cmp op a b,ρ,σ,k,H=>YL a ρ σ fun x σ1 ha=>YL b ρ σ1 fun y σ2 hb=>fun v h=>H _ _ (bs ha (bs hb (ms h)))
 | .not t,ρ,σ,k,H=>YDZ t ρ σ fun c σ1 ha=>YPc (fun q=>H _ _ ((ms ha).trans (by rw [q]; rfl))) fun q=>H _ _ ((ms ha).trans (by rw [q]; rfl))
 | .and ts,ρ,σ,k,H=>YJd ts ρ σ fun v σ' h=>H _ _ h
 | .or ts,ρ,σ,k,H=>YJY ts ρ σ fun v σ' h=>H _ _ h
 | .cmp2 op1 op2 a b c,ρ,σ,k,H=>YL a ρ σ fun x σ1 ha=>YL b ρ σ1 fun y σ2 hb=>fun t h=>YPc (fun q=>YL c ρ σ2 fun z σ3 hc=>fun u h2=>H _ _ (bs ha (bs hb (bs h ((if_pos q).trans (bs hc (ms h2))))))) fun q=>H _ _ (bs ha (bs hb (bs h (if_neg (by rw [q]; exact Bool.false_ne_true)))))
theorem YJd:∀ (e:Ts) (ρ:YF) (σ:List AO) {k:Bool→List AO→Prop},(∀ v σ',evTs Φ e ρ σ=some (v,σ')→k v σ')→syTs Φ e ρ σ k
 | .nil,ρ,σ,k,H=>H _ _ YQr
 | .cons t r,ρ,σ,k,H=>YDZ t ρ σ fun c σ1 ha=>YPc (fun q=>YJd r ρ σ1 fun v σ' hb=>H _ _ (bs ha ((if_pos q).trans hb))) fun q=>H _ _ (bs ha (if_neg (by rw [q]; exact Bool.false_ne_true)))
theorem YJY:∀ (e:Ts) (ρ:YF) (σ:List AO) {k:Bool→List AO→Prop},(∀ v σ',evTo Φ e ρ σ=some (v,σ')→k v σ')→syTo Φ e ρ σ k
 | .nil,ρ,σ,k,H=>H _ _ YQb
 | .cons t r,ρ,σ,k,H=>YDZ t ρ σ fun c σ1 ha=>YPc (fun q=>H _ _ (bs ha (if_pos q))) fun q=>YJY r ρ σ1 fun v σ' hb=>H _ _ (bs ha ((if_neg (by rw [q]; exact Bool.false_ne_true)).trans hb))
end
mutual
theorem YNA:∀ (e:S) (ρ:YF) (σ:List AO) {k:Fl→YF→List AO→Prop},(∀ fl ρ' σ',exS Φ e ρ σ=some (fl,ρ',σ')→k fl ρ' σ')→syS Φ e ρ σ k
 | .expr e,ρ,σ,k,H=>YL Φ e ρ σ fun x σ1 h=>H _ _ _ (ms h)
 | .asg i e,ρ,σ,k,H=>YL Φ e ρ σ fun x σ1 h=>H _ _ _ (ms h)
 | .asg2 i j e,ρ,σ,k,H=>YL Φ e ρ σ fun x σ1 h=>H _ _ _ (ms h)
 | .unp i j e,ρ,σ,k,H=>YL Φ e ρ σ fun x σ1 h=>fun a b q=>H _ _ _ (bs h (by subst q; rfl))
 | .swap i j e,ρ,σ,k,H=>YL Φ e ρ σ fun x σ1 h=>fun a b q=>H _ _ _ (bs h (by subst q; rfl))
 | .sset o i e,ρ,σ,k,H=>YL Φ e ρ σ fun x σ1 ha=>YL Φ o ρ σ1 fun y σ2 hb=>YL Φ i ρ σ2 fun z σ3 hc=>fun σ' h=>H _ _ _ (bs ha (bs hb (bs hc (ms h))))
 | .aug i op e,ρ,σ,k,H=>YNF fun v h=>YL Φ e ρ σ fun x σ1 ha=>fun y q=>H _ _ _ ((YGA h).trans (bs ha (ms q)))
 | .augline o e,ρ,σ,k,H=>fun _ _ _ h=>H _ _ _ h
 | .ite t a b,ρ,σ,k,H=>YDZ Φ t ρ σ fun c σ1 ha=>YPc (fun q=>YEa a ρ σ1 fun fl ρ' σ' hb=>H _ _ _ (bs ha ((if_pos q).trans hb))) fun q=>YEa b ρ σ1 fun fl ρ' σ' hb=>H _ _ _ (bs ha ((if_neg (by rw [q]; exact Bool.false_ne_true)).trans hb))
 | .whl n t b,ρ,σ,k,H=>fun _ _ _ h=>H _ _ _ h
 | .for_ i it b,ρ,σ,k,H=>fun _ _ _ h=>H _ _ _ h
 | .forr i n b,ρ,σ,k,H=>fun _ _ _ h=>H _ _ _ h
 | .forc i it b,ρ,σ,k,H=>fun _ _ _ h=>H _ _ _ h
 | .ret e,ρ,σ,k,H=>YL Φ e ρ σ fun x σ1 h=>H _ _ _ (ms h)
 | .brk,ρ,σ,k,H=>H _ _ _ YUF
 | .cont,ρ,σ,k,H=>H _ _ _ YSI
theorem YEa:∀ (e:Ss) (ρ:YF) (σ:List AO) {k:Fl→YF→List AO→Prop},(∀ fl ρ' σ',exSs Φ e ρ σ=some (fl,ρ',σ')→k fl ρ' σ')→sySs Φ e ρ σ k
 | .nil,ρ,σ,k,H=>H _ _ _ YBp
 | .cons s r,ρ,σ,k,H=>YNA s ρ σ fun fl ρ1 σ1 h=>match fl,h with
  | .next,h=>YEa r ρ1 σ1 fun fl ρ' σ' hb=>H _ _ _ (bs h hb)
  | .brk,h=>H _ _ _ (bs h rfl)
  | .cont,h=>H _ _ _ (bs h rfl)
  | .ret _,h=>H _ _ _ (bs h rfl)
end
end
section
variable {Φ:Tab} {ρ:YF} {σ:List AO}
theorem wE {e:E} {r:Option (AV×List AO)} (f:syE Φ e ρ σ (fun v σ'=>evE Φ e ρ σ=some (v,σ'))→evE Φ e ρ σ=r):evE Φ e ρ σ=r:=f (YL Φ e ρ σ fun _ _ h=>h)
theorem wT {e:T} {r:Option (Bool×List AO)} (f:syT Φ e ρ σ (fun v σ'=>evT Φ e ρ σ=some (v,σ'))→evT Φ e ρ σ=r):evT Φ e ρ σ=r:=f (YDZ Φ e ρ σ fun _ _ h=>h)
theorem wS {e:S} {r:Option (Fl×YF×List AO)} (f:syS Φ e ρ σ (fun v ρ' σ'=>exS Φ e ρ σ=some (v,ρ',σ'))→exS Φ e ρ σ=r):exS Φ e ρ σ=r:=f (YNA Φ e ρ σ fun _ _ _ h=>h)
theorem wSs {e:Ss} {r:Option (Fl×YF×List AO)} (f:sySs Φ e ρ σ (fun v ρ' σ'=>exSs Φ e ρ σ=some (v,ρ',σ'))→exSs Φ e ρ σ=r):exSs Φ e ρ σ=r:=f (YEa Φ e ρ σ fun _ _ _ h=>h)
end
end Mine
end
section
open PySem PySem.Spec PyProof.Rows
open PySem.W (Frag InstAt findIn hasDictIn isFn plainOver takerIn instObj methodObj fnMade fnX)
namespace Mine
noncomputable def YGB:List Str:=["text","at","size","sign"]
noncomputable def YMD:Ss:=
 .cons (.asg 3 (.sli (.var 0) (.sub (.var 1) (.int 0)) (.bin .Add (.sub (.var 1) (.int 0)) (.var 2)) .none))
 (.cons (.sset (.var 1) (.int 0) (.bin .Add (.sub (.var 1) (.int 0)) (.bi .len (.cons (.var 3) .nil))))
 (.cons (.ret (.var 3)) .nil))
set_option genInjectivity false in
structure RdOk (rd:YE):Prop where
 ck:ckSs false YMD ⟨YGB,rd.scope.names⟩ rd.body=true
 kind:rd.scope.kind=.function
 co:rd.scope.isCoroutine=false
 gen:rd.scope.isGenerator=false
 nocell:∀ x∈rd.scope.names,x.2≠.cell
 free:∀ x,rd.scope.names.lookup x=some .free→x = "text"∨x = "at"
 size:rd.scope.names.lookup ("size":Str)=some NameKind.local
 tx:rd.scope.names.lookup ("text":Str)=some NameKind.free
 at_:rd.scope.names.lookup ("at":Str)=some NameKind.free
 bind:∀ (doc pm ctv v:Value) (c':Addr) (clos:List (Str×Addr)),bindArgs (fnX "_law_read_on" Yq rd.params rd.body rd.scope clos .none .none doc pm none (.ref c') ctv) ⟨[v],[]⟩=pure [(("size":Str),v)]
theorem YTc {text:List Nat} {pos:Nat} (hp:pos≤text.length):slA text (some (pos:Int)) (some ((pos:Int)+1)) none=(text.drop pos).take 1:=by
 rw [YCM]
 have b1:(sliceBounds (some (pos:Int)) (some ((pos:Int)+1)) none text.length).1=pos:=by
  simp only [sliceBounds,Option.getD_none]
  simp
  lia
 have b2:(sliceBounds (some (pos:Int)) (some ((pos:Int)+1)) none text.length).2.1=min ((pos:Int)+1) text.length:=by
  simp only [sliceBounds,Option.getD_none]
  simp
  lia
 rw [b1,b2,Int.toNat_natCast]
 rcases Nat.lt_or_ge pos text.length with h | h
 ·rw [show (min ((pos:Int)+1) text.length-pos).toNat=1 by exact Zi63 h]
 ·rw [List.drop_eq_nil_of_le h]; simp
theorem YRv {text:List Nat} {pos:Nat} (hp:pos≤text.length) (hl:text.length≤lim):fits (pos:Int)=true∧fits ((pos:Int)+1)=true:=by
 rw [YAl,YAl]; unfold lim at hl; exact ⟨⟨Zi64,Zi65 hl hp⟩,⟨Zi66,Zi67 hl hp⟩⟩
theorem YTA {text:List Nat} {pos:Nat}:((text.drop pos).take 1).length≤lim:=by
 have hk:((text.drop pos).take 1).length≤1:=by simp; exact Ze23
 unfold lim; exact Nat.le_trans (by assumption) (by decide)
theorem YNN {Φ:Tab} {text:List Nat} {pos:Nat} (hp:pos≤text.length) (hl:text.length≤lim):
  exSs Φ YMD [some (.str text),some (.loc 0),some (.int 1),none] [.list [.int pos]] =
   some (.ret (.str ((text.drop pos).take 1)),[some (.str text),some (.loc 0),some (.int 1),some (.str ((text.drop pos).take 1))],[.list [.int (pos+((text.drop pos).take 1).length:Nat)]]):=by
 obtain ⟨hf,hf1⟩:=YRv hp hl
 have h2:=YIa (σ:=[.list [.int pos]]) (YCD hf) (YCD hf1) hl
 rw [YTc hp] at h2
 have h3:=YCs (σ:=[.list [.int pos]]) (@YTA text pos)
 generalize (text.drop pos).take 1=sg at h2 h3 ⊢
 have h1:subA [.list [.int pos]] (.loc 0) (.int 0)=some (.int pos):=rfl
 exact wSs fun k=>k h1 h1 YAo h2 h1 h3 YAo (YIo (vs:=[.int pos]) (i:=0) rfl (Nat.lt_succ_self 0) (show 1≤lim by decide))
section
variable {prog:Program} {w:World} {rd:YE} {H₀:Heap} {A:Around} {Φ:Tab} {E:Value→Shared→Prop} {s:Shared} {μ:Own} {σ:List AO} {K:Frag}
noncomputable def noTab:Tab:=fun _ _ _=>none
theorem YLr {A:Around} (B:Base H₀) (hA:Calm A) (O:RdOk rd):OkSs prog w rd H₀ A noTab YMD ⟨YGB,rd.scope.names⟩ rd.body:=YRo O.ck ⟨B,hA,fun f as σ v σ' h=>nS h⟩ fun h=>nomatch h
theorem FR.cell {env:Env} {nm:List Str} {ρ:List (Option AV)} {h:Heap} {y:Str} {i:Nat} {v:AV} {c:Addr} (F:FR H₀ env nm ρ μ h) (hs:slot nm y=some i) (hρ:ρ[i]?=some (some v)) (hk:env.kindOf y=some .free) (hc:env.cells.lookup y=some c):∃ rv,h.IsCell c (some rv)∧RV μ h v rv:=by
 obtain ⟨rx,q1,q2⟩:=F.vars y i v hs hρ (.inr (.inr hk))
 rcases q1 with ⟨q1,_⟩ | ⟨_,c',q1,q3⟩
 ·rw [hk] at q1; cases q1
 ·exact ⟨rx,Option.some.inj (hc.symm.trans q1)▸q3,q2⟩
theorem YNS {n d:Nat} {r:LexR} {text:List Nat} {pos:Nat} {line:Int} {push:Nat} {t:Tok} {Q:Value→Shared→Prop} (B:Base H₀) (O:RdOk rd) (hA:Fits A (d+1)) (hp:pos≤text.length) (hl:text.length≤lim)
  (H:HS rd H₀ μ σ s.heap) (hμ:μ.os[n]?=some r.l) (hpp:μ.os[push]?=some [r.p]) (hcc:r.c∉μ.all) (P:LexP rd s.heap text pos line r)
  (h:∀ s' rv,Ev [] μ s μ s'→HS rd H₀ μ (σ.set n (.lexer text (pos+((text.drop pos).take 1).length) line push)) s'.heap→RV μ s'.heap (.str ((text.drop pos).take 1)) rv→Q rv s'):
  wpAny (model prog w) A (call (.ref r.rf) [.int 1 t]) Q E s:=by
 have nd:=H.ownNd hμ
 have mem:∀ {i:Nat} {a:Addr},r.l[i]?=some a→a∈μ.os.flatten:=fun e=>YAC hμ (List.mem_of_getElem? e)
 have hroom:A.depth<recursionLimit:=by have:=hA.depth; show A.depth<1000; exact Ze21 this
 refine wpAny_call (codeAny_call_function (fd:=fnX "_law_read_on" Yq rd.params rd.body rd.scope [("text",r.ct),("at",r.ca)] .none .none r.doc r.pm none (.ref r.c) r.ctv) (body:=rd.body) hroom P.h6 rfl O.co O.gen rfl P.h7 ?_)
 rw [O.bind]
 refine wpAny_pure ?_
 refine wpAny_newFunctionEnv O.nocell (fun y hy=>by rw [List.mem_singleton.mp hy]; exact O.size) (fun h' hns hsb=>?_) O.kind
 have kk:∀ a o,s.heap.get? a=some o→h'.get? a=some o:=fun a o e=>hsb.extBut a o (Nat.ne_of_lt (Heap.lt_size e)) (Heap.get?_push_of_some _ e)
 generalize henv:newEnv rd.scope s.heap.objs.size _ _ _ _ _ _ _=env
 have es':env.scope=rd.scope:=henv▸rfl
 have el:env.locals=s.heap.objs.size:=henv▸rfl
 have eg:env.globals=mainGlobals:=henv▸rfl
 have ebl:env.builtins=builtinsNs:=henv▸rfl
 have ec:env.cells=[(("text":Str),r.ct),(("at":Str),r.ca)]:=henv▸rfl
 clear henv
 have ek:∀ y,env.kindOf y=rd.scope.names.lookup y:=fun y=>congrArg (fun z:Scope=>z.names.lookup y) es'
 refine ⟨B.nolim.keeps fun b o e=>kk b o (H.base b o e),codeAny_func ?_⟩
 have fA:YA env=[s.heap.objs.size,r.ct,r.ca]:=by unfold YA; rw [el,ec]; rfl
 have l1:env.cells.lookup ("text":Str)=some r.ct:=ec▸rfl
 have l2:env.cells.lookup ("at":Str)=some r.ca:=by
  rw [ec,List.lookup_cons,beq_eq_false_iff_ne.mpr (show ("at":Str) ≠ "text" by decide +kernel)]; rfl
 have k1:=(ek "text").trans O.tx
 have k2:=(ek "at").trans O.at_
 have one:∀ {a:Addr},a∈(⟨[],[[r.la]]⟩:Own).all→a=r.la:=fun q=>List.mem_singleton.mp q
 -- the view of the reader alone
 have H2:HS rd H₀ ⟨[],[[r.la]]⟩ [.list [.int pos]] h':=
  ⟨fun a o e=>kk a o (H.base a o e),fun a ha=>one ha▸H.new _ (Own.os_all (mem (i:=7) rfl)),fun a ha=>one ha▸⟨_,kk _ _ P.h10⟩,(List.pairwise_singleton ..:[r.la].Nodup),rfl,fun m o l' e1 e2=>by
   cases m with
   | zero=>
    obtain rfl:=Option.some.inj (show some (AO.list [AV.int pos])=some o from e1)
    obtain rfl:=Option.some.inj (show some [r.la]=some l' from e2)
    exact ⟨r.la,_,rfl,⟨r.k,kk _ _ P.h10⟩,.cons (.int _ _) .nil⟩
   | succ m=>exact nS e1⟩
 have nla:∀ {i:Nat} {a:Addr},i≠7→r.l[i]?=some a→a∉(⟨[],[[r.la]]⟩:Own).all∧H₀.get? a=none:=fun {i} {a} hi ha=>⟨fun q=>YEq nd ha (j:=7) rfl hi (one q),H.new _ (Own.os_all (mem ha))⟩
 have F2:FR H₀ env YGB [some (.str text),some (.loc 0),some (.int 1),none] ⟨[],[[r.la]]⟩ h':=by
  refine ⟨(congrArg Scope.kind es').trans O.kind,eg,ebl,⟨_,by rw [el]; exact hns⟩,?_,?_,?_,rfl,fun y i v q1 q2 q3=>?_⟩
  ·rw [ec]
   intro y c hc
   rcases List.mem_cons.mp hc with q | q
   ·exact ⟨_,(Prod.mk.inj q).2▸Yx P.h8 (kk _)⟩
   ·exact ⟨_,(Prod.mk.inj (List.mem_singleton.mp q)).2▸Yx P.h9 (kk _)⟩
  ·rw [fA]
   refine List.forall_mem_cons.mpr ⟨⟨fun q=>?_,(YKP H (YN _)).2⟩,List.forall_mem_cons.mpr ⟨nla (i:=5) (by decide) rfl,List.forall_mem_cons.mpr ⟨nla (i:=6) (by decide) rfl,fun _ q=>nomatch q⟩⟩⟩
   have z:=P.h10
   rw [←one q,YN] at z; cases z
  ·rw [ec]
   exact List.pairwise_cons.mpr ⟨fun z hz=>by rw [List.mem_singleton.mp hz]; exact YEq nd (i:=5) (j:=6) rfl rfl (by decide),List.pairwise_singleton ..⟩
  ·have hy:=YBr q1
   rcases i with _ | _ | _ | _ | i
   ·obtain rfl:=Option.some.inj (show some ("text":Str)=some y from hy)
    obtain rfl:=Option.some.inj (Option.some.inj (show some (some (AV.str text))=some (some v) from q2))
    exact ⟨_,.inr ⟨.inr k1,r.ct,l1,Yx P.h8 (kk _)⟩,.str _ _⟩
   ·obtain rfl:=Option.some.inj (show some ("at":Str)=some y from hy)
    obtain rfl:=Option.some.inj (Option.some.inj (show some (some (AV.loc 0))=some (some v) from q2))
    exact ⟨.ref r.la,.inr ⟨.inr k2,r.ca,l2,Yx P.h9 (kk _)⟩,.loc (l:=[]) rfl⟩
   ·obtain rfl:=Option.some.inj (show some ("size":Str)=some y from hy)
    obtain rfl:=Option.some.inj (Option.some.inj (show some (some (AV.int 1))=some (some v) from q2))
    exact ⟨_,.inl ⟨(ek _).trans O.size,_,by rw [el]; exact hns,rfl⟩,.int _ _⟩
   ·exact nS (Option.some.inj (show some none=some (some v) from q2))
   ·exact nS q2
 have O2:EnvOk env ⟨YGB,rd.scope.names⟩:=⟨fun y=>.inl (ek y),fun y q=>by
  rcases q with q | q
  ·exact absurd rfl (O.nocell _ (Ye q))
  ·rcases O.free y q with rfl | rfl
   ·rw [l1]; rfl
   ·rw [l2]; rfl⟩
 refine YLr B (hA.deeper env).calm O (s:={ s with heap:=h',toks:=s.toks+[(("size":Str),Value.int 1 t)].length }) ⟨F2,H2,O2⟩ (YNN hp hl) fun μ3 s3 f v3 st3 R=>?_
 obtain ⟨rv,rfl,R⟩:=R
 show Q rv s3
 obtain ⟨ν,rfl,hν⟩:=v3.ext
 obtain ⟨⟨hh,tk,hs3⟩,-,keep3,alive3⟩:=v3
 have keepO:∀ a,a≠r.la→a≠r.ct→a≠r.ca→∀ o,s.heap.get? a=some o→s3.heap.get? a=some o:=fun a q1 q2 q3 o e=>by
  refine keep3 a o (kk a o e) (fun q=>q1 (List.mem_singleton.mp q)) ?_
  rw [fA]
  intro q
  rcases List.mem_cons.mp q with q | q
  ·rw [q,YN] at e; cases e
  ·exact (List.mem_cons.mp q).elim q2 fun q=>q3 (List.mem_singleton.mp q)
 have keepS:∀ a o,s.heap.get? a=some o→a∉r.l→s3.heap.get? a=some o:=fun a o e hn=>keepO a (fun q=>hn (at_ 7 (congrArg some q.symm))) (fun q=>hn (at_ 5 (congrArg some q.symm))) (fun q=>hn (at_ 6 (congrArg some q.symm))) o e
 have ki:∀ {i:Nat} {a:Addr},i<5→r.l[i]?=some a→∀ o,s.heap.get? a=some o→s3.heap.get? a=some o:=fun {i a} hi ha=>
  keepO a (YEq nd ha (j:=7) rfl (by exact Ze24 hi)) (YEq nd ha (j:=5) rfl (by exact Ze25 hi)) (YEq nd ha (j:=6) rfl (by exact Ze26 hi))
 have aliveS:∀ a,s3.heap.get? a=none→s.heap.get? a=none:=fun a e=>by
  have:=alive3 a e
  cases q:s.heap.get? a with
  | none=>rfl
  | some o=>rw [show h'.get? a=_ from kk a o q] at this; cases this
 have ev:Ev [] μ s μ s3:=⟨⟨hh,tk,by rw [hs3]⟩,⟨[],(Own.add_nil _).symm,fun _ q=>nomatch q⟩,fun a o e hn _=>keepS a o e fun q=>hn (YAC hμ q),aliveS⟩
 obtain ⟨rx,cT,rT⟩:=st3.fr.cell (y := "text") (i:=0) (v:=.str text) (show slot YGB "text"=some 0 by decide +kernel) rfl k1 l1
 obtain ⟨ry,cA,rA⟩:=st3.fr.cell (y := "at") (i:=1) (v:=.loc 0) (show slot YGB "at"=some 1 by decide +kernel) rfl k2 l2
 obtain ⟨t3,rfl⟩:=rT.inv
 obtain ⟨la,l0,rfl,e0⟩:=rA.inv
 obtain rfl:r.la=la:=(List.cons.inj (Option.some.inj (show some [r.la]=some (la::l0) from e0))).1
 obtain ⟨b,xs,q1,⟨k4,q2⟩,q3⟩:=st3.hs.objs 0 _ [r.la] rfl rfl
 obtain rfl:r.la=b:=(List.cons.inj q1).1
 obtain ⟨y,rfl,q4⟩:=q3.one
 obtain ⟨t4,rfl⟩:=q4.inv
 have h7':s3.heap.CodeRec (.ref r.c) Yq:=by
  obtain ⟨c2,oc,vs,tq,e,ho,hd,hq⟩:=P.h7
  cases e
  exact ⟨r.c,oc,vs,tq,rfl,keepS _ _ ho fun q=>hcc (Own.os_all (YAC hμ q)),hd,hq⟩
 exact h s3 rv ev (H.set hμ keepS aliveS ⟨{ r with t3:=t3,t4:=t4,k:=k4 },rfl,hpp,hcc,⟨ki (i:=0) (by decide) rfl _ P.h1,YMl P.h2 (ki (i:=1) (by decide) rfl),ki (i:=2) (by decide) rfl _ P.h3,ki (i:=3) (by decide) rfl _ P.h4,YET P.h5 (ki (i:=3) (by decide) rfl),ki (i:=4) (by decide) rfl _ P.h6,h7',cT,cA,q2⟩⟩) (R.str_ fun t=>.str _ _)
end
section
variable {prog:Program} {w:World} {rd:YE} {H₀:Heap} {A:Around} {Φ:Tab} {E:Value→Shared→Prop} {s:Shared} {μ:Own} {σ:List AO} {K:Frag}
theorem YJp {o:Mine.E} {c:Cx} {po:PySem.Expr} {p1 apos p kp:Pos} {k:Nat} (B:Base H₀) (O:RdOk rd) (hA:Fits A 1) (L:Yo K H₀) (hb:YT po=true) (hl:(apos.endLine==p.line)=true) (ho:OkE prog w rd H₀ A Φ o c po):
  OkE prog w rd H₀ A Φ (.readch o) c (.Call (.Attribute (.Attribute po "instream" p1) "read" apos) [.Constant (.int 1) k kp] [] p):=
 ⟨rfl,fun {env ρ μ σ s r Q E} st he h=>YI he fun x e1 he=>YAg he fun n en he=>YBK he fun text pos line push hσ he=>YBD he fun hlim he=>by
  revert h; refine Ys he fun h=>?_
  have hse:OkEs prog w rd H₀ A Φ (.cons (.int 1) .nil) c [.Constant (.int 1) k kp]:=YEA YJJ YGe
  refine YFZ rfl hse.np (show 1<30 by decide) hl (YCt hb (ho.run st e1 fun μ1 s1 r1 v1 H1 R1=>?_))
  rw [en] at R1
  obtain ⟨d,rfl,hμ,hp,hcc,Z⟩:=YDd H1 hσ R1
  refine YEO L H1 Z.h1 Z.h2.ns L.instr YFy rfl fun pl=>?_
  refine YJX (s:={ s1 with toks:=s1.toks+1 }) Z.h3 Z.h5 (if_pos rfl) rfl fun tk=>?_
  have v2:Ev [] μ1 s1 μ1 { s1 with toks:=tk }:=(Ev.refl [] μ1 s1).tok _
  refine YAT (P:=fun hp=>∃ o fd,hp.get? d.rf=some o∧o.data=.func fd) hse ((st.ev v1 H1).ev v2 H1) (r:=([.int 1],x.2)) rfl (YEm fun _ z=>z) fun μ3 s3 xs v3 H3 R3=>R3.one_ fun y R4=>R4.int_ fun t=>?_
  have hμ3:=YBk (v3.ext.imp fun _ q=>q.1) hμ
  obtain ⟨d3,e3,hp3,hcc3,Z3⟩:=H3.objs _ _ _ hσ hμ3
  rw [show d.rf=d3.rf from Option.some.inj (congrArg (fun l:List Addr=>l[4]?) e3)]
  exact ⟨⟨_,_,Z3.h6,rfl⟩,YNS B O hA hlim.1 hlim.2 H3 (e3▸hμ3) hp3 hcc3 Z3 fun s5 rv v5 H5 R5=>h _ _ _ (v1.trans (v2.trans (v3.trans v5))) H5 R5⟩⟩
end
theorem YIF (a b:Value):argsOk "iter" ⟨[a,b],[]⟩:=by unfold argsOk; kernel_rfl
theorem YDG:typeLookup (.type "method") "__call__"=pure (some (.builtin "method.__call__")):=by rw [typeLookup_type,builtinLookup_eq_fast]; kernel_rfl
section
variable {prog:Program} {w:World} {rd:YE} {H₀:Heap} {A:Around} {Φ:Tab} {E:Value→Shared→Prop} {s:Shared} {μ:Own} {σ:List AO} {K:Frag}
theorem YIJ {q:Addr} {f self:Value} {t:Tok} {Q:Value→Shared→Prop} (hq:s.heap.get? q=some (methodObj f self))
  (h:Q (.ref s.heap.objs.size) { s with heap:=s.heap.push { cls:=.type "callable_iterator",data:=.fields #[.ref q,.str "" t,.bool false] } }):wpAny (model prog w) A (call (.builtin "iter") [.ref q,.str "" t]) Q E s:=by
 refine Calls.call_function_entry (by decide +kernel) (by decide +kernel) W.kdk_entry_iter (YIF _ _) ?_
 unfold Builtin.«iter»
 refine wpAny_bind (m:=someArgs "iter" 1 2 _) (wpAny_of_eq (a:=[Value.ref q,Value.str "" t]) (by first | rfl | kernel_rfl!) ?_)
 show wpAny _ _ (specialOf (.ref q) "__call__" >>= _) _ _ _
 refine wpAny_bind (wpAny_specialOf ⟨_,hq,rfl⟩ YDG ?_)
 show wpAny _ _ (rule "iter.sentinel" >>= fun _=>newFields "callable_iterator" [.ref q,.str "" t,.bool false] >>= fun v=>ret v) _ _ _
 refine wpAny_bind (wpAny_rule (wpAny_bind ?_))
 exact wpAny_newObj_type (wpAny_pure ⟨_,rfl,h⟩)
theorem YJc {c:Cx} {env:Env} {ρ:List (Option AV)} {x:Str} {pos:Pos} {Q:Value→Shared→Prop} (B:Base H₀) (st:St rd H₀ c env ρ μ σ s) (hg:c.gl x=true) (hx:x = "iter") (h:Q (.builtin "iter") s):wpAny (model prog w) A (eval (.Name x pos) env) Q E s:=by
 obtain ⟨mg,h1,_,_,_,_,h2⟩:=B.glob
 obtain ⟨mb,h3,_,_,h4⟩:=B.blt
 subst hx
 exact Calls.Name_function_global st.fr.kind (st.en.gl hg) (Calls.loadGlobal_builtin (by rw [st.fr.glob]; exact YBI st.hs h1) h2 (by rw [st.fr.blt]; exact YBI st.hs h3) h4 h) (YFa hg)
theorem YJi {x dx:Addr} {m:Str→Option Value} {expr:Bool} {Q:Value→Shared→Prop} (L:Yo K H₀) (H:HS rd H₀ μ σ s.heap) (h1:s.heap.get? x=some (instObj 87 dx)) (h2:s.heap.Ns dx m) (hm:m "_read_char"=none)
  (h:Q (.ref s.heap.objs.size) { s with heap:=s.heap.push (methodObj (.ref 70) (.ref x)),toks:=s.toks+1 }):wpAny (model prog w) A (getAttr (.ref x) "_read_char" expr) Q E s:=by
 obtain ⟨od,I,hl⟩:=YDL h1 h2
 exact W.get_bind (YRK L H) I L.ga (W.findObj_fn L.dict L.m70.1 L.get70.1 L.get70.2 (by decide +kernel) (by rw [hl,hm])) L.gat
  (wpAny_call (W.fn_get (s:={ s with toks:=s.toks+1 }) (YRK L H) (beq_iff_eq.mp L.m70.2) (W.handed_on rfl h)))
theorem YLs {line:Int} {t t2:Tok} {sf p:Addr}:lexMap line t sf t2 p "_read_char"=none:=by
 have:=@YMy 70 line t t2 sf p
 exact this
theorem YGV {o:Mine.E} {c:Cx} {po:PySem.Expr} {x:Str} {xp p1 p kp:Pos} {k:Nat} (B:Base H₀) (L:Yo K H₀) (hg:c.gl x=true) (hx:x = "iter") (hb:YT po=true) (ho:OkE prog w rd H₀ A Φ o c po):
  OkE prog w rd H₀ A Φ (.iterread o) c (.Call (.Name x xp) [.Attribute po "_read_char" p1,.Constant (.str (Str.ofString "")) k kp] [] p):=
 ⟨rfl,fun {env ρ μ σ s r Q E} st he h=>YI he fun xv e1 he=>YAg he fun n en he=>YBK he fun text pos line push hσ he=>by
  revert h; refine Ys he fun h=>?_
  refine wpAny_Call_NameR (YJc B st hg hx ?_)
  refine W.callWith_of (P:=fun _=>True) rfl YEP (PySem.Calls.evalArgs_plain (wpAny_items_cons (YCt hb (ho.run st e1 fun μ1 s1 r1 v1 H1 R1=>?_))))
  rw [en] at R1
  obtain ⟨d,rfl,hμ,hp,hcc,Z⟩:=YDd H1 hσ R1
  refine YJi L H1 Z.h1 Z.h2.ns YLs ?_
  refine wpAny_items_cons (wpAny_Constant_str (wpAny_items_nil ?_))
  refine ⟨trivial,?_⟩
  have q1:s1.heap.get? s1.heap.objs.size=none:=YN _
  generalize hq:s1.heap.objs.size=q at q1 ⊢
  have hget:(s1.heap.push (methodObj (.ref 70) (.ref d.x))).get? q=some (methodObj (.ref 70) (.ref d.x)):=by rw [←hq]; exact Heap.get?_push_size _ rfl
  refine YIJ (s:={ s1 with heap:=s1.heap.push (methodObj (.ref 70) (.ref d.x)),toks:=s1.toks+1+1 }) hget ?_
  have k1':∀ a o,s1.heap.get? a=some o→(s1.heap.push (methodObj (.ref 70) (.ref d.x))).get? a=some o:=fun a o e=>Heap.get?_push_of_some _ e
  have hsz:(s1.heap.push (methodObj (.ref 70) (.ref d.x))).objs.size=q+1:=by rw [Heap.size_push,hq]
  generalize s1.heap.push (methodObj (.ref 70) (.ref d.x))=h2 at hget k1' hsz ⊢
  have q2:h2.get? h2.objs.size=none:=YN _
  show Q (.ref h2.objs.size) { s1 with heap:=h2.push { cls:=.type "callable_iterator",data:=.fields #[.ref q,.str "" (s1.toks+1),.bool false] },toks:=s1.toks+1+1 }
  generalize hob:({ cls:=.type "callable_iterator",data:=.fields #[.ref q,.str "" (s1.toks+1),.bool false] }:Obj)=ob
  have k2':∀ a o,h2.get? a=some o→(h2.push ob).get? a=some o:=fun a o e=>Heap.get?_push_of_some _ e
  have hI:(h2.push ob).get? h2.objs.size=some ob:=Heap.get?_push_size _ (hob▸rfl)
  generalize h2.push ob=h3 at k2' hI ⊢
  have kk:∀ a o,s1.heap.get? a=some o→h3.get? a=some o:=fun a o e=>k2' a o (k1' a o e)
  have qI:s1.heap.get? h2.objs.size=none:=by
   cases z:s1.heap.get? h2.objs.size with
   | none=>rfl
   | some o=>rw [k1' _ _ z] at q2; cases q2
  have hnew:∀ a∈[h2.objs.size,q],s1.heap.get? a=none:=List.forall_mem_cons.mpr ⟨qI,List.forall_mem_cons.mpr ⟨q1,fun _ q=>nomatch q⟩⟩
  have ev2:Ev [] μ1 s1 (μ1.add [[h2.objs.size,q]]) { s1 with heap:=h3,toks:=s1.toks+1+1 }:=Ev.more hnew kk
  have hμ':=YBk (ev2.ext.imp fun _ z=>z.1) hμ
  have H3:HS rd H₀ (μ1.add [[h2.objs.size,q]]) (xv.2++[.citer n true]) h3:=
   H1.more (List.nodup_cons.mpr ⟨fun z=>Nat.succ_ne_self q (hsz.symm.trans (List.mem_singleton.mp z)),List.pairwise_singleton ..⟩) hnew kk (List.forall_mem_cons.mpr ⟨⟨_,hI⟩,List.forall_mem_cons.mpr ⟨⟨_,k2' _ _ hget⟩,fun _ q=>nomatch q⟩⟩) ⟨h2.objs.size,q,rfl,fun _=>⟨d.x,_,_,hμ',hob▸hI,k2' _ _ hget⟩⟩
  refine h _ _ _ (v1.trans ev2) H3 (.loc (l:=[q]) ?_)
  show (μ1.os++[[h2.objs.size,q]])[xv.2.length]?=_
  rw [H1.len]
  exact List.getElem?_concat_length⟩
end
theorem YBE:Slot "callable_iterator" "__next__" "callable_iterator.__next__":=
 .of (owner := "callable_iterator") (n := "__next__") (by rw [typeLookup_type,builtinLookup_eq_fast]; kernel_rfl) (by decide +kernel) (by decide +kernel) (by decide +kernel)
  (by first | exact .inl (by decide +kernel) | exact .inr (by decide +kernel)) (by rw [isSubtype_type]; kernel_rfl)
theorem YCU:Slot "callable_iterator" "__iter__" "callable_iterator.__iter__":=
 .of (owner := "callable_iterator") (n := "__iter__") (by rw [typeLookup_type,builtinLookup_eq_fast]; kernel_rfl) (by decide +kernel) (by decide +kernel) (by decide +kernel)
  (by first | exact .inl (by decide +kernel) | exact .inr (by decide +kernel)) (by rw [isSubtype_type]; kernel_rfl)
theorem YEp:entryFor table "callable_iterator.__next__"=some Builtin.«callable_iterator.__next__»:=entryFor_of_tree (by kernel_rfl)
theorem YFJ (a:Value):argsOk "callable_iterator.__next__" ⟨[a],[]⟩:=by unfold argsOk; kernel_rfl
theorem YFH (a:Value):argsOk "callable_iterator.__iter__" ⟨[a],[]⟩:=by unfold argsOk; kernel_rfl
theorem YEB:entryFor table "callable_iterator.__iter__"=some Builtin.«dict_keyiterator.__iter__»:=
 entryFor_alias (id' := "dict_keyiterator.__iter__") (by kernel_rfl) (by first | rfl | decide +kernel | (unfold String.splitOn; simp +decide [String.splitOnAux])) (by decide +kernel) (by kernel_rfl)
section
variable {prog:Program} {w:World} {rd:YE} {H₀:Heap} {A:Around} {Φ:Tab} {E:Value→Shared→Prop} {s:Shared} {μ:Own} {σ:List AO} {K:Frag}
noncomputable def ciObj (q:Addr) (t:Tok):Obj:={ cls:=.type "callable_iterator",data:=.fields #[.ref q,.str "" t,.bool false] }
theorem YOM {I q:Addr} {t:Tok} {Q:Value→Shared→Prop} (h1:s.heap.get? I=some (ciObj q t)) (h:Q (.ref I) s):wpAny (model prog w) A (pyIter (.ref I)) Q E s:=by
 have hT:s.TypeIs (.ref I) "callable_iterator":=⟨_,h1,rfl⟩
 refine wpAny_pyIter_slot hT YCU (wpAny_call_entry YCU hT YEB ?_ (YFH _))
 show wpAny _ _ (ret (.ref I)) _ _ s
 exact wpAny_pure ⟨_,rfl,"callable_iterator",_,hT,YBE.lookup,h⟩
theorem borrows {I q:Addr} {of:Obj} {fd:FuncData} {x:Value} {Q:Bool→Shared→Prop} (h1:s.heap.get? q=some (methodObj (.ref 70) x)) (h2:s.heap.get? 70=some of) (h3:of.data=.func fd) (h:Q true s):wpAny (model prog w) A (borrowsExactly (.ref q)) Q E s:=by
 unfold borrowsExactly
 refine wpAny_bind (wpAny_load h1 ?_)
 show wpAny _ _ (load 70 >>= _) _ _ s
 refine wpAny_bind (wpAny_load h2 ?_)
 rw [h3]
 exact wpAny_pure h
theorem YCi {M:Model} {Γ:PySem.Ctx} {E:Value→Pos→Shared→Prop} {p:Pos} {s:Shared} (f:Value) (pos:List Value) (Q:Value→Pos→Shared→Prop):Sem.wp M Γ (callBorrowed f pos) Q E p s=Sem.wp M Γ (call f pos) Q E p s:=by
 rw [Sem.wp_cmd_call]
 unfold callBorrowed
 rw [Sem.wp_call]
 congr 1
 funext r s'
 cases r with
 | error e=>rfl
 | ok f=>cases f <;> rfl
theorem YDQ {f:Value} {pos:List Value} {Q:Value→Shared→Prop} (hc:codeAny (model prog w) A (.call f ⟨pos,[]⟩) (fun r s'=>match r with | .ok (.ret v)=>Q v s' | .ok _=>False | .error e=>E e s') s):wpAny (model prog w) A (callBorrowed f pos) Q E s:=fun Γ p hΓ=>by
 rw [YCi]
 exact wpAny_call hc Γ p hΓ
theorem YPA {n lx:Nat} {I:Addr} {l:List Addr} {c:List Nat} {σ':List AO} {Q:Option Value→Shared→Prop} (hh:A.handled=none) (hΦ:CallsIn prog w rd H₀ A.in1 Φ) (H:HS rd H₀ μ σ s.heap) (hσ:σ[n]?=some (.citer lx true)) (hμ:μ.os[n]?=some (I::l))
  (he:Φ 70 [.loc lx] σ=some (.str c,σ')) {lx':Nat} (hσ':σ'[n]?=some (.citer lx' true))
  (hit:c≠[]→∀ μ' s' rx,Ev [] μ s μ' s'→HS rd H₀ μ' σ' s'.heap→RV μ' s'.heap (.str c) rx→Q (some rx) s')
  (h:c=[]→∀ μ' s',Ev [] μ s μ' s'→HS rd H₀ μ' (σ'.set n (.citer lx false)) s'.heap→Q none s'):wpAny (model prog w) A (pyNext (.ref I)) Q E s:=by
 obtain ⟨I',q,hl,hlive⟩:=H.objs _ _ _ hσ hμ
 cases hl
 obtain ⟨x,l',t,g1,g2,g3⟩:=hlive rfl
 obtain ⟨⟨of,fd,f1,f2⟩,f3⟩:=hΦ _ _ _ _ _ he
 have hT:s.TypeIs (.ref I) "callable_iterator":=⟨_,g2,rfl⟩
 unfold pyNext
 refine wpAny_bind (wpAny_attempt (wpAny_callSpecial?_slot (name:=Str.ofString "__next__") hT YBE (wpAny_call_entry YBE hT YEp ?_ (YFJ _))))
 unfold Builtin.«callable_iterator.__next__»
 refine wpAny_bind (wpAny_of_eq (a:=(Value.ref I,[])) rfl ?_)
 dsimp only
 refine wpAny_bind (wpAny_field g2 rfl (x:=.bool false) rfl ?_)
 show wpAny _ _ (field (.ref I) 0 >>= _) _ _ s
 refine wpAny_bind (wpAny_field g2 rfl (x:=.ref q) rfl ?_)
 refine wpAny_bind (wpAny_attempt ?_)
 unfold callOutOfASlot
 refine wpAny_bind (borrows (I:=I) g3 (H.base _ _ f1) f2 ?_)
 rw [if_pos rfl]
 refine YDQ (W.method_call g3 ?_)
 refine f3 s μ [.ref x] (fun rv s'=>_) _ H (.cons (.loc g1) .nil) fun μ' s' rv ev H' R'=>?_
 have hμ':=YBk (ev.ext.imp fun _ z=>z.1) hμ
 obtain ⟨I',q',hl',hlive'⟩:=H'.objs _ _ _ hσ' hμ'
 cases hl'
 obtain ⟨x',l'',t',g1',g2',g3'⟩:=hlive' rfl
 obtain ⟨tv,rfl⟩:=R'.inv
 refine wpAny_bind (wpAny_field g2' rfl (x:=.bool false) rfl ?_)
 rw [if_neg (show ¬((Value.bool false==Value.bool true)=true) from Bool.false_ne_true)]
 refine wpAny_bind (wpAny_field g2' rfl (x:=.str "" t') rfl ?_)
 refine wpAny_bind (wpAny_holding (wpAny_eqBool_str ?_))
 by_cases hc:c=[]
 case neg=>
  rw [show decide (Str.ofString ""=(⟨c.toArray⟩:Str))=false from decide_eq_false fun q=>hc (congrArg (fun z:Str=>z.cps.toList) q).symm]
  exact wpAny_pure ⟨_,rfl,wpAny_pure (hit hc μ' s' _ ev H' (.str _ _))⟩
 subst hc
 rw [show decide (Str.ofString ""=(⟨([]:List Nat).toArray⟩:Str))=true from rfl]
 refine wpAny_bind (wpAny_rule (wpAny_bind ?_))
 show wpAny _ _ (field (.ref I) 0 >>= fun old=>slotLetsGo "callable_iterator.__next__" old _ >>= fun _=>setField (.ref I) 0 .none >>= fun _=>setField (.ref I) 1 .none >>= fun _=>setField (.ref I) 2 (.bool true)) _ _ s'
 refine wpAny_bind (wpAny_field g2' rfl (x:=.ref q) rfl ?_)
 have f1':=H'.base _ _ f1
 refine wpAny_bind (m:=slotLetsGo _ _ _) ?_
 unfold slotLetsGo
 refine wpAny_bind (borrows (I:=I) g3' f1' f2 ?_)
 refine wpAny_pure ?_
 refine wpAny_bind (wpAny_setField g2' rfl (by simp) ?_)
 have u1:=Heap.get?_update_self (Obj.mapFields (·.setIfInBounds 0 Value.none)) g2' rfl
 refine wpAny_bind (wpAny_setField u1 rfl (by simp [Obj.mapFields]) ?_)
 have u2:=Heap.get?_update_self (Obj.mapFields (·.setIfInBounds 1 Value.none)) u1 rfl
 refine wpAny_setField u2 rfl (by simp [Obj.mapFields]) ?_
 have u3:=Heap.get?_update_self (Obj.mapFields (·.setIfInBounds 2 (Value.bool true))) u2 rfl
 have hs3:=((Heap.SameBut.update s'.heap I (Obj.mapFields (·.setIfInBounds 0 Value.none))).trans (Heap.SameBut.update _ I (Obj.mapFields (·.setIfInBounds 1 Value.none)))).trans (Heap.SameBut.update _ I (Obj.mapFields (·.setIfInBounds 2 (Value.bool true))))
 generalize ((s'.heap.update I _).update I _).update I _=h3 at u3 hs3 ⊢
 refine wpAny_bind ?_
 show wpAny _ _ (newExc (.type "StopIteration") [] >>= _) _ _ _
 refine wpAny_bind ?_
 simp only [newExc,newTuple]
 refine wpAny_bind (wpAny_newObj_type ?_ (by size_fits))
 refine wpAny_bind (m:=firstArgMember _ _) (wpAny_of_eq (a:=Value.none) (by first | rfl | (simp only [firstArgMember]; rfl)) ?_)
 refine wpAny_newObj_type ?_ (by size_fits)
 simp only [raiseNew]
 refine wpAny_pure ?_
 refine wpAny_bind (wpAny_handled ?_)
 first | rw [show A.in1.handled=none from hh] | rw [hh]
 refine wpAny_bind (wpAny_pure (wpAny_throw ?_))
 refine wpAny_bind (wpAny_isInstance (T := "StopIteration") (b:=true) ⟨_,Heap.get?_push_size _ rfl,rfl⟩ isSubtype_stop ?_)
 refine wpAny_pure ?_
 have kI:∀ a o,h3.get? a=some o→∀ p1 p2:Obj,((h3.push p1).push p2).get? a=some o:=fun a o e p1 p2=>Heap.get?_push_of_some _ (Heap.get?_push_of_some _ e)
 have kp:∀ p1 p2:Obj,∀ b o,s'.heap.get? b=some o→b∉[I,q]→((h3.push p1).push p2).get? b=some o:=fun p1 p2 b o e hb=>kI b o ((hs3.2 b fun z=>hb (by simp [z])).trans e) p1 p2
 have al:∀ p1 p2:Obj,∀ b,((h3.push p1).push p2).get? b=none→s'.heap.get? b=none:=fun p1 p2=>YCb fun b o e=>by
  by_cases z:b=I
  ·exact ⟨_,kI b _ (z▸u3) p1 p2⟩
  ·exact ⟨o,kI b o ((hs3.2 b z).trans e) p1 p2⟩
 have evE:∀ p1 p2:Obj,∀ tk,Ev [] μ' s' μ' { s' with heap:=(h3.push p1).push p2,toks:=tk }:=fun p1 p2 tk=>Ev.set hμ' (kp p1 p2) (al p1 p2)
 have HE:∀ p1 p2:Obj,HS rd H₀ μ' (σ'.set n (.citer lx false)) ((h3.push p1).push p2):=fun p1 p2=>H'.set hμ' (kp p1 p2) (al p1 p2) ⟨I,q,rfl,fun z=>by cases z⟩
 exact h rfl _ _ (ev.trans (evE _ _ s'.toks)) (HE _ _)
end
section
variable {prog:Program} {w:World} {rd:YE} {H₀:Heap} {A:Around} {Φ:Tab} {E:Value→Shared→Prop} {s:Shared} {μ:Own} {σ:List AO} {K:Frag}
theorem YNt {i:Nat} {it:Mine.E} {b:Ss} {c:Cx} {x:Str} {px p:Pos} {pit:PySem.Expr} {pb:List Stmt} (C:Ctx prog w rd H₀ A Φ) (hΦ:CallsIn prog w rd H₀ A.in1 Φ) (hw:c.wr x i=true) (hi:OkE prog w rd H₀ A Φ it c pit) (hb:OkSs prog w rd H₀ A Φ b c pb):
  OkS prog w rd H₀ A Φ (.forc i it b) c (.For (.Name x px) pit pb [] p):=fun {env ρ μ σ s r Q E} st he h=>YI he fun xv e1 he=>YAg he fun n en he=>YDF he fun lx hσ hg=>by
 refine wpAny_For (hi.run st e1 fun μ1 s1 r1 v1 H1 R1=>?_) (YBu hi.np env)
 rw [en] at R1
 obtain ⟨I,l,rfl,hμ⟩:=R1.inv
 obtain ⟨I',q,hl,hlive⟩:=H1.objs _ _ _ hσ hμ
 cases hl
 obtain ⟨y,l',t,g1,g2,g3⟩:=hlive rfl
 refine YOM g2 ?_
 refine codeAny_forLoop (fun m s'=>∃ μk σk ρk,forcGo Φ (fun v ρ σ=>exSs Φ b (ρ.set i (some v)) σ) n lx m ρk σk=some r∧Ev (YA env) μ s μk s'∧St rd H₀ c env ρk μk σk s'∧μk.os[n]?=some [I,q]) ?_ _ ⟨μ1,xv.2,ρ,hg,v1.wide0,st.ev v1 H1,hμ⟩
 clear g1 g2 g3 hlive hμ hg H1 hσ
 rintro m s' ⟨μk,σk,ρk,hg,ev,st',hμk⟩
 cases m with
 | zero=>exact nS hg
 | succ m=>
  refine YDF hg fun lx2 hσk hg=>YBD hg fun hlx hg=>YI hg fun pv e2 hg=>YDF hg fun lx3 hσ2 hg=>YJR hg fun cs ecs hg=>?_
  subst hlx
  obtain ⟨rv,σ2⟩:=pv
  obtain rfl:rv=.str cs:=ecs
  refine YPA C.calm.1 hΦ st'.hs hσk hμk e2 hσ2 (fun hne μ2 s2 rx ev2 H2 R2=>?_) fun hn μ2 s2 ev2 H2=>wpAny_execs_nil ?_
  ·have hμ2:=YBk (ev2.ext.imp fun _ z=>z.1) hμk
   refine YI ((if_neg hne).symm.trans hg) fun fr e3 hg=>wpAny_assign_Name (YAN (st'.ev ev2 H2) hw R2 fun s3 ev3 st3=>hb st3 e3 fun μ4 s4 f ev4 st4 R=>?_)
   have hμ4:=YBk (ev4.ext.imp fun _ z=>z.1) hμ2
   have evA:=ev.trans (ev2.wide0.trans (ev3.trans ev4))
   have q:=YEX (J:=∃ k,k<m+1∧∃ μk σk ρk,forcGo Φ (fun v ρ σ=>exSs Φ b (ρ.set i (some v)) σ) n lx2 k ρk σk=some r∧Ev (YA env) μ s μk s4∧St rd H₀ c env ρk μk σk s4∧μk.os[n]?=some [I,q]) hg h evA st4 R fun e=>⟨m,Nat.lt_succ_self _,_,_,_,e,evA,st4,hμ4⟩
   cases f <;> exact q
  ·revert h
   exact Ys ((if_pos hn).symm.trans hg) fun h=>h _ _ _ (ev.trans ev2.wide0) (st'.ev ev2 H2) rfl
theorem lexOps (C:Ctx prog w rd H₀ A Φ) (hΦ:CallsIn prog w rd H₀ A.in1 Φ) (O:RdOk rd) (hA:Fits A 1) (L:Yo K H₀):LexOps prog w rd H₀ A Φ where
 lm:=YTM C L
 pushb:=YLD L
 lineno:=YJV L
 white:=YMN L
 readch:=YJp C.base O hA L
 iterread:=YGV C.base L
 augline:=YHz L
 forc:=YNt C hΦ
theorem YOo {d:Nat} (B:Base H₀) (hΦ:∀ A,Fits A d→CallsIn prog w rd H₀ A Φ) (O:RdOk rd) (L:Yo K H₀) (hA:Fits A (d+1)) {lx:Bool} {b:Ss} {c:Cx} {ps:List Stmt} (hc:ckSs lx b c ps=true):OkSs prog w rd H₀ A Φ b c ps:=by
 have hA1:Fits A.in1 d:=⟨hA.handled,by have:=hA.depth; show A.depth+d≤900; exact Ze27 this,by have:=hA.units; show A.units+1+_+_≤_; exact Ze28 this⟩
 have C:Ctx prog w rd H₀ A Φ:=⟨B,hA.calm,hΦ A (hA.less (Nat.le_succ _))⟩
 exact fun {_ _ _ _ _ _ _ _}=>YRo hc C fun _=>lexOps C (hΦ _ hA1) O (hA.less (Nat.le_add_left ..)) L
end
end Mine
end
section
open PySem PySem.Spec PyProof.Rows
open PySem.W (Frag)
namespace Mine
section
variable {prog:Program} {w:World} {rd:YE} {H₀:Heap} {K:Frag}
noncomputable def Yb (prog:Program) (w:World) (rd:YE) (H₀:Heap) (a:Nat) (F:Fn) (d:Nat):Prop:=
 ∀ A,Fits A d→∀ as σ v σ',F as σ=some (v,σ')→(∃ o fd,H₀.get? a=some o∧o.data=.func fd) ∧
  ∀ s μ xs (Q:Value→Shared→Prop) (E:Value→Shared→Prop),HS rd H₀ μ σ s.heap→RVs μ s.heap as xs→
   (∀ μ' s' rv,Ev [] μ s μ' s'→HS rd H₀ μ' σ' s'.heap→RV μ' s'.heap v rv→Q rv s')→
    codeAny (model prog w) A (.call (.ref a) ⟨xs,[]⟩) (fun r s'=>match r with | .ok (.ret v)=>Q v s' | .ok _=>False | .error e=>E e s') s
theorem Yb.less {a:Nat} {F:Fn} {d e:Nat} (g:Yb prog w rd H₀ a F d) (h:d≤e):Yb prog w rd H₀ a F e:=fun A hA=>g A (hA.less h)
noncomputable def TabGood (prog:Program) (w:World) (rd:YE) (H₀:Heap) (l:List (Nat×Fn)) (d:Nat):Prop:=∀ p∈l,Yb prog w rd H₀ p.1 p.2 d
theorem YKQ {l:List (Nat×Fn)} {d:Nat} (g:TabGood prog w rd H₀ l d):∀ A,Fits A d→CallsIn prog w rd H₀ A (Yn l):=by
 intro A hA
 induction l with
 | nil=>intro f as σ v σ' h; cases h
 | cons p r ih=>
  intro f as σ v σ' h
  obtain ⟨a,F⟩:=p
  unfold Yn at h
  by_cases e:f=a
  ·subst e
   simp only [if_true] at h
   exact g _ (List.mem_cons_self ..) A hA as σ v σ' h
  ·simp only [e,if_false] at h
   exact ih (fun q hq=>g q (List.mem_cons_of_mem _ hq)) f as σ v σ' h
theorem YOq {f np d:Nat} {nm:List Str} {body:List Stmt} {sc:Scope} {lx:Bool} {b:Ss} {l:List (Nat×Fn)} {k:Nat} (B:Base H₀) (O:RdOk rd) (L:Yo K H₀) (hf:FnAt H₀ f np nm body sc) (g:TabGood prog w rd H₀ l d)
  (hck:ckSs lx b ⟨nm,sc.names⟩ body=true) (hnp:np≤nm.length) (hk:nm.length=k):Yb prog w rd H₀ f (runF (Yn l) np k b) (d+2):=by
 subst hk
 intro A hA as σ v σ' he
 obtain ⟨o,fd,h1,h2,_⟩:=hf.ex
 refine ⟨⟨o,fd,h1,h2⟩,fun s μ xs Q E H R h=>?_⟩
 exact YOR B hf (fun A hA=>YOo B (YKQ g) O L hA hck) hA hnp he H R h
end
noncomputable def Bk (ns:List Str):Prop:=∀ (fd:FuncData) (ar:List Arg) (kd:List (Option PySem.Expr)) (df:List PySem.Expr) (xs:List Value),ar.map (·.arg)=ns→xs.length=ns.length→bindArgs { fd with params:=⟨[],ar,none,[],kd,none,df⟩,defaults:=.none } ⟨xs,[]⟩=pure (ns.zip xs)
theorem bk1 {a:Str} (h:∀ (fd:FuncData) n p kd df x,bindArgs { fd with params:=⟨[],[⟨a,n,p⟩],none,[],kd,none,df⟩,defaults:=.none } ⟨[x],[]⟩=pure [(a,x)]):Bk [a]:=fun fd ar kd df xs e e'=>by
 rcases xs with _ | ⟨x,_ | ⟨y,r⟩⟩
 ·exact nomatch e'
 ·rcases ar with _ | ⟨⟨a1,_,_⟩,_ | ⟨_,_⟩⟩
  ·exact nomatch e
  ·obtain rfl:a1=a:=(List.cons.inj e).1
   exact h fd _ _ kd df x
  ·exact nomatch (List.cons.inj e).2
 ·exact nomatch Nat.succ.inj e'
theorem bk2 {a b:Str} (h:∀ (fd:FuncData) n p n' p' kd df x y,bindArgs { fd with params:=⟨[],[⟨a,n,p⟩,⟨b,n',p'⟩],none,[],kd,none,df⟩,defaults:=.none } ⟨[x,y],[]⟩=pure [(a,x),(b,y)]):Bk [a,b]:=fun fd ar kd df xs e e'=>by
 rcases xs with _ | ⟨x,_ | ⟨y,_ | ⟨z,r⟩⟩⟩
 ·exact nomatch e'
 ·exact nomatch Nat.succ.inj e'
 ·rcases ar with _ | ⟨⟨a1,_,_⟩,_ | ⟨⟨b1,_,_⟩,_ | ⟨_,_⟩⟩⟩
  ·exact nomatch e
  ·exact nomatch (List.cons.inj e).2
  ·obtain rfl:a1=a:=(List.cons.inj e).1
   obtain rfl:b1=b:=(List.cons.inj (List.cons.inj e).2).1
   exact h fd _ _ _ _ kd df x y
  ·exact nomatch (List.cons.inj (List.cons.inj e).2).2
 ·exact nomatch Nat.succ.inj (Nat.succ.inj e')
theorem bk3 {a b c:Str} (h:∀ (fd:FuncData) n p n' p' n'' p'' kd df x y z,bindArgs { fd with params:=⟨[],[⟨a,n,p⟩,⟨b,n',p'⟩,⟨c,n'',p''⟩],none,[],kd,none,df⟩,defaults:=.none } ⟨[x,y,z],[]⟩=pure [(a,x),(b,y),(c,z)]):Bk [a,b,c]:=fun fd ar kd df xs e e'=>by
 rcases xs with _ | ⟨x,_ | ⟨y,_ | ⟨z,_ | ⟨u,r⟩⟩⟩⟩
 ·exact nomatch e'
 ·exact nomatch Nat.succ.inj e'
 ·exact nomatch Nat.succ.inj (Nat.succ.inj e')
 ·rcases ar with _ | ⟨⟨a1,_,_⟩,_ | ⟨⟨b1,_,_⟩,_ | ⟨⟨c1,_,_⟩,_ | ⟨_,_⟩⟩⟩⟩
  ·exact nomatch e
  ·exact nomatch (List.cons.inj e).2
  ·exact nomatch (List.cons.inj (List.cons.inj e).2).2
  ·obtain rfl:a1=a:=(List.cons.inj e).1
   obtain rfl:b1=b:=(List.cons.inj (List.cons.inj e).2).1
   obtain rfl:c1=c:=(List.cons.inj (List.cons.inj (List.cons.inj e).2).2).1
   exact h fd _ _ _ _ _ _ kd df x y z
  ·exact nomatch (List.cons.inj (List.cons.inj (List.cons.inj e).2).2).2
 ·exact nomatch Nat.succ.inj (Nat.succ.inj (Nat.succ.inj e'))
noncomputable def parNames:List (List Str):=[["heap"],["x"],["self"],["n"],["word"],["words"],["prices"],["script"],["text"],["size"],["heap","item"],["heap","pos"],["self","token"],["ch_a","ch_b"],["word","n"],["x","y"],["self","fp"],["heap","startpos","pos"],["a","b","max_cost"]]
theorem YSD:∀ ns∈parNames,Bk ns:=
 have c:∀ {l:List (List Str)} {a:List Str},Bk a→(∀ ns∈l,Bk ns)→∀ ns∈a::l,Bk ns:=fun h k=>List.forall_mem_cons.mpr ⟨h,k⟩
 c (bk1 fun _ _ _ _ _ _=>by kernel_rfl)<|c (bk1 fun _ _ _ _ _ _=>by kernel_rfl)<|c (bk1 fun _ _ _ _ _ _=>by kernel_rfl)<|c (bk1 fun _ _ _ _ _ _=>by kernel_rfl)<|c (bk1 fun _ _ _ _ _ _=>by kernel_rfl)<|c (bk1 fun _ _ _ _ _ _=>by kernel_rfl)<|c (bk1 fun _ _ _ _ _ _=>by kernel_rfl)<|c (bk1 fun _ _ _ _ _ _=>by kernel_rfl)<|c (bk1 fun _ _ _ _ _ _=>by kernel_rfl)<|c (bk1 fun _ _ _ _ _ _=>by kernel_rfl) <|
 c (bk2 fun _ _ _ _ _ _ _ _ _=>by kernel_rfl)<|c (bk2 fun _ _ _ _ _ _ _ _ _=>by kernel_rfl)<|c (bk2 fun _ _ _ _ _ _ _ _ _=>by kernel_rfl)<|c (bk2 fun _ _ _ _ _ _ _ _ _=>by kernel_rfl)<|c (bk2 fun _ _ _ _ _ _ _ _ _=>by kernel_rfl)<|c (bk2 fun _ _ _ _ _ _ _ _ _=>by kernel_rfl)<|c (bk2 fun _ _ _ _ _ _ _ _ _=>by kernel_rfl) <|
 c (bk3 fun _ _ _ _ _ _ _ _ _ _ _ _=>by kernel_rfl)<|c (bk3 fun _ _ _ _ _ _ _ _ _ _ _ _=>by kernel_rfl) fun _ q=>nomatch q
noncomputable def noneV (v:Value):Bool:=match v with
 | .none=>true
 | _=>false
theorem YMJ {v:Value} (h:noneV v=true):v=.none:=by
 cases v with
 | none=>rfl
 | _=>exact nomatch h
noncomputable def parCk (fd:FuncData) (names:List Str):Bool:=
 fd.params.posonlyargs.isEmpty&&fd.params.args.map (·.arg)==names&&fd.params.kwonlyargs.isEmpty&&fd.params.vararg.isNone&&fd.params.kwarg.isNone&&noneV fd.defaults&&parNames.contains names
theorem YLz {fd:FuncData} (h1:fd.params.posonlyargs=[]) (h3:fd.params.kwonlyargs=[]) (h4:fd.params.vararg=none) (h5:fd.params.kwarg=none) (h6:fd.defaults=.none):fd={ fd with params:=⟨[],fd.params.args,none,[],fd.params.kw_defaults,none,fd.params.defaults⟩,defaults:=.none }:=by
 obtain ⟨_,_,⟨_,_,_,_,_,_,_⟩,_,_,_,_,_,_,_,_,_,_,_,_⟩:=fd
 cases h1; cases h3; cases h4; cases h5; cases h6
 rfl
theorem YEu {fd:FuncData} {names:List Str} (h:parCk fd names=true) (xs:List Value) (hx:xs.length=names.length):bindArgs fd ⟨xs,[]⟩=pure (names.zip xs):=by
 unfold parCk at h
 simp only [Bool.and_eq_true,beq_iff_eq,List.isEmpty_iff,Option.isNone_iff_eq_none] at h
 obtain ⟨⟨⟨⟨⟨⟨h1,h2⟩,h3⟩,h4⟩,h5⟩,h6⟩,h7⟩:=h
 exact (congrArg (bindArgs · ⟨xs,[]⟩) (YLz h1 h3 h4 h5 (YMJ h6))).trans (YSD names (List.contains_iff_mem.mp h7) fd fd.params.args fd.params.kw_defaults fd.params.defaults xs h2 hx)
noncomputable def fnCk (K:Frag) (a np:Nat) (nm:List Str) (b:Ss):Bool:=match K.lookup a with
 | some o=>match o.data with
  | .func fd=>(match fd.body with
    | .stmts body=>ckSs true b ⟨nm,fd.scope.names⟩ body
    | _=>false)&&fnScope nm np fd.scope&&fd.closure.isEmpty&&fd.globals==mainGlobals&&fd.builtins==builtinsNs&&W.codeIn K fd.code fd.qualname&&parCk fd (nm.take np)&&decide (np≤nm.length)
  | _=>false
 | none=>false
section
variable {prog:Program} {w:World} {rd:YE} {H₀:Heap} {K:Frag}
theorem YUM {a np:Nat} {nm:List Str} {b:Ss} (X:K.In H₀) (h:fnCk K a np nm b=true):∃ body sc,FnAt H₀ a np nm body sc∧ckSs true b ⟨nm,sc.names⟩ body=true∧np≤nm.length:=by
 unfold fnCk at h
 split at h
 case h_2=>cases h
 rename_i o ho
 split at h
 case h_2=>cases h
 rename_i fd hd
 simp only [Bool.and_eq_true,beq_iff_eq,decide_eq_true_eq,List.isEmpty_iff] at h
 obtain ⟨⟨⟨⟨⟨⟨⟨h1,h2⟩,h3⟩,h4⟩,h5⟩,h6⟩,h7⟩,h8⟩:=h
 split at h1
 case h_2=>cases h1
 rename_i body hb
 refine ⟨body,fd.scope,⟨⟨o,fd,X _ _ ho,hd,rfl,hb,h3,h4,h5,W.codeRec_of X h6,fun xs hx=>?_⟩,h2⟩,h1,h8⟩
 exact YEu h7 xs (by rw [List.length_take,Nat.min_eq_left h8]; exact hx)
theorem Yh {a np d k:Nat} {nm:List Str} {b:Ss} {l:List (Nat×Fn)} (B:Base H₀) (O:RdOk rd) (L:Yo K H₀) (h:fnCk K a np nm b=true) (g:TabGood prog w rd H₀ l d) (hk:nm.length=k):Yb prog w rd H₀ a (runF (Yn l) np k b) (d+2):=by
 obtain ⟨body,sc,h1,h2,h3⟩:=YUM L.here h
 exact YOq B O L h1 g h2 h3 hk
end
set_option genInjectivity false in
structure Funs (K:Frag):Prop where
 siftdown:fnCk K 42 3 YDM YBm=true
 siftup:fnCk K 49 2 YFc YCw=true
 heappop:fnCk K 21 1 YDt YCE=true
 heapreplace:fnCk K 28 2 YBS YAa=true
 heapify:fnCk K 35 1 YDf YCL=true
 read_char:fnCk K 70 1 YCQ YAX=true
 get_token:fnCk K 77 1 YCY YAL=true
 push_token:fnCk K 84 2 YBq YAj=true
 subst:fnCk K 98 2 YAM Yr=true
 lev:fnCk K 105 3 Yw Yj=true
 word:fnCk K 117 1 YCv YBe=true
 dressed:fnCk K 122 2 YBV YAb=true
 posts:fnCk K 127 1 YCP YAY=true
 parts:fnCk K 132 1 YCS YAK=true
 sub:fnCk K 139 2 YDx YBR=true
 table:fnCk K 144 1 YCV YAI=true
 farthest:fnCk K 149 1 YAz Yv=true
 best:fnCk K 154 1 YDO YAk=true
 law:fnCk K 159 1 YNJ YHW=true
section
variable {prog:Program} {w:World} {rd:YE} {H₀:Heap} {K:Frag}
theorem Yk {d:Nat}:TabGood prog w rd H₀ [] d:=fun _ q=>(nomatch q)
theorem YM {a:Nat} {F:Fn} {l:List (Nat×Fn)} {d e:Nat} (g:Yb prog w rd H₀ a F e) (h:e≤d) (r:TabGood prog w rd H₀ l d):TabGood prog w rd H₀ ((a,F)::l) d:=fun p hp=>by
 rcases List.mem_cons.mp hp with rfl | hp
 ·exact g.less h
 ·exact r p hp
theorem YMB (B:Base H₀) (O:RdOk rd) (L:Yo K H₀) (f:Funs K) (hlex:Yb prog w rd H₀ 112 YAS 6):Yb prog w rd H₀ 159 YPD 10:=by
 have siftdown:Yb prog w rd H₀ 42 YBP 2:=Yh B O L f.siftdown Yk rfl
 have siftup:Yb prog w rd H₀ 49 Yp 4:=Yh B O L f.siftup (YM siftdown (Nat.le_refl _) Yk) rfl
 have heappop:Yb prog w rd H₀ 21 YBH 6:=Yh B O L f.heappop (YM siftup (Nat.le_refl _) Yk) rfl
 have heapreplace:Yb prog w rd H₀ 28 Yz 6:=Yh B O L f.heapreplace (YM siftup (Nat.le_refl _) Yk) rfl
 have heapify:Yb prog w rd H₀ 35 YBF 6:=Yh B O L f.heapify (YM siftup (Nat.le_refl _) Yk) rfl
 have read_char:Yb prog w rd H₀ 70 YAB 2:=Yh B O L f.read_char Yk rfl
 have get_token:Yb prog w rd H₀ 77 YS 4:=Yh B O L f.get_token (YM read_char (Nat.le_refl _) Yk) rfl
 have push_token:Yb prog w rd H₀ 84 YAJ 2:=Yh B O L f.push_token Yk rfl
 have subst:Yb prog w rd H₀ 98 YDA 2:=Yh B O L f.subst Yk rfl
 have lev:Yb prog w rd H₀ 105 YIY 4:=Yh B O L f.lev (YM subst (Nat.le_refl _) Yk) rfl
 have word:Yb prog w rd H₀ 117 YFB 2:=Yh B O L f.word Yk rfl
 have dressed:Yb prog w rd H₀ 122 YAy 2:=Yh B O L f.dressed Yk rfl
 have posts:Yb prog w rd H₀ 127 YCl 8:=Yh B O L f.posts (YM hlex (by decide) (YM heapify (by decide) (YM get_token (by decide) (YM heappop (by decide) (YM push_token (by decide) (YM lev (by decide) (YM heapreplace (by decide) Yk))))))) rfl
 have parts:Yb prog w rd H₀ 132 YCq 2:=Yh B O L f.parts Yk rfl
 have sub:Yb prog w rd H₀ 139 YJa 2:=Yh B O L f.sub Yk rfl
 have table:Yb prog w rd H₀ 144 YDS 4:=Yh B O L f.table (YM parts (Nat.le_refl _) (YM sub (Nat.le_refl _) Yk)) rfl
 have farthest:Yb prog w rd H₀ 149 YAd 2:=Yh B O L f.farthest Yk rfl
 have best:Yb prog w rd H₀ 154 YFF 2:=Yh B O L f.best Yk rfl
 exact Yh B O L f.law (YM word (by decide) (YM dressed (by decide) (YM hlex (by decide) (YM get_token (by decide) (YM posts (by decide) (YM table (by decide) (YM farthest (by decide) (YM best (by decide) Yk)))))))) rfl
end
end Mine
end
section
open PySem PySem.Spec PyProof.Rows
open PySem.W (Frag InstAt findIn hasDictIn isFn plainOver takerIn instObj methodObj fnMade fnX)
namespace Mine
theorem YMV:StoreFacts "function" [.type "function",.type "object"] "object.__setattr__" "object" where
 mro:=by kernel_rfl
 slot:=.of (owner := "object") (n := "__setattr__") (by rw [typeLookup_type,builtinLookup_eq_fast]; kernel_rfl) (by decide +kernel) (by decide +kernel) (by decide +kernel)
  (by first | exact .inl (by decide +kernel) | exact .inr (by decide +kernel)) (by rw [isSubtype_type]; kernel_rfl)
 entry:=F.entry_object_sa
 kind:=by decide +kernel
 split:=by decide +kernel
 hasOwner:=by decide +kernel
 args:=fun a b c=>by unfold argsOk; kernel_rfl
 passes:=fun self=>by kernel_rfl
theorem YSw:isSubtype (.type "function") (.type "object")=pure true:=by rw [isSubtype_type]; kernel_rfl
noncomputable def DObj (m:Str→Option Value) (k:Nat) (o:Obj):Prop:=∃ es ep,o={ cls:=.type "dict",data:=.dict es ep }∧StrKeys es∧(∀ x,nsFind es x=m x)∧es.size≤k
theorem DObj.new:DObj (fun _=>none) 0 { cls:=.type "dict",data:=.dict #[] }:=⟨#[],0,rfl,fun _ he=>by simp at he,fun _=>rfl,Nat.le_refl _⟩
theorem YOb {M:Model} {A:Around} {E:Value→Shared→Prop} {s:Shared} {a:Addr} {m:Str→Option Value} {name:Str} {v:Value} {n:Nat} {o:Obj} {Q:Unit→Shared→Prop}
  (ho:s.heap.get? a=some o) (hx:DObj m n o)
  (h:∀ h' o',h'.get? a=some o'→DObj (fun x=>if x=name then some v else m x) (n+1) o'→Heap.SameBut a s.heap h'→
   Q () { s with heap:=h',toks:=s.toks+1 }):wpAny M A (nsSet a name v) Q E s:=fun Γ p _=>by
 obtain ⟨es,ep,rfl,hk,hm,hz⟩:=hx
 simp only [nsSet,strHash,Sem.wp_bind',Sem.wp_cmd_ask,Sem.wp_pure',Sem.wp_cmd_mkText]
 rw [Sem.wp_loadPart_of M Γ (fun e _=>E e) p { s with toks:=s.toks+1 } _ ho]
 have hany:es.any (·.refKey)=false:=by
  rw [Array.any_eq_false']; intro e he; obtain ⟨n,t,h⟩:=hk e he; simp [DictEntry.refKey,h]
 simp only [aRefKeyMayBeTheName_eq,aRefKeyMayBeTheNameByArray,hany,Bool.and_false,Bool.false_eq_true,if_false,Sem.wp_cmd_updatePart]
 refine ⟨by rw [ho]; rfl,?_⟩
 cases hi:es.findIdx? (·.key.isStr name) with
 | some i=>
  refine h _ _ (Heap.get?_update_self _ ho (by simp only [Obj.putName_eq,Obj.putNameByArray,hi]; rfl)) ?_ (Heap.SameBut.update ..)
  simp only [Obj.putName_eq,Obj.putNameByArray,hi]
  exact ⟨_,_,rfl,hk.modify _ _,fun x=>by show nsFind _ x=if x=name then some v else m x; rw [←hm]; exact findBy_modify (fun n v=>v.isStr n) Value.isStr_inj es name x v i hi,by rw [Array.size_modify]; exact Ze29 hz⟩
 | none=>
  refine h _ _ (Heap.get?_update_self _ ho (by simp only [Obj.putName_eq,Obj.putNameByArray,hi]; rfl)) ?_ (Heap.SameBut.update ..)
  simp only [Obj.putName_eq,Obj.putNameByArray,hi]
  refine ⟨_,_,rfl,hk.push _ _ _ _,fun x=>?_,by rw [Array.size_push]; exact Ze30 hz⟩
  show nsFind _ x=if x=name then some v else m x
  rw [←hm]
  refine findBy_push (fun n v=>v.isStr n) es name x _ _ v (fun y=>?_) hi
  show (name==y)=_
  by_cases q:y=name
  ·subst q; simp
  ·rw [beq_eq_false_iff_ne.mpr (Ne.symm q),decide_eq_false q]
section
variable {prog:Program} {w:World} {A:Around} {E:Value→Shared→Prop} {s:Shared}
theorem YBT {P:Fin→Shared→Prop} {a:Addr} {m:Str→Option Value} {name:Str} {tk:Tok} {v:Value} {n:Nat} {o:Obj} (ho:s.heap.get? a=some o) (hx:DObj m n o) (hn:n≤1000)
  (h:∀ h' o',h'.get? a=some o'→DObj (fun x=>if x=name then some v else m x) (n+1) o'→Heap.SameBut a s.heap h'→P (.done (.ret .none)) { s with heap:=h',toks:=s.toks+1 }):
  wpAny (model prog w) A (Builtin.ObjectAttr.storeInDict a (.str name tk) name v) P E s:=by
 unfold Builtin.ObjectAttr.storeInDict Builtin.ObjectAttr.newKeyGuard
 refine wpAny_bind (wpAny_pure (wpAny_bind (YOb ho hx fun h' o' g1 g2 g3=>?_)))
 obtain ⟨es,ep,rfl,_,_,hz⟩:=id g2
 refine wpAny_bind (wpAny_lookBehind g1 (pastItsLine_dict (by rw [sizeLine_eq]; exact Ze31 hz hn)) ?_)
 exact wpAny_pure (h _ _ g1 g2 g3)
theorem YIC {a:Addr} {fd:FuncData} {v:Value} {Q:Unit→Shared→Prop} (h1:s.heap.get? a=some { cls:=.type "function",data:=.func fd })
  (h:∀ h' od tk,h'.get? a=some { cls:=.type "function",dict:=some s.heap.objs.size,data:=.func fd }→h'.get? s.heap.objs.size=some od→DObj (fun x=>if x = "read" then some v else none) 1 od→
   (∀ b o,b≠a→s.heap.get? b=some o→h'.get? b=some o)→Q () { s with heap:=h',toks:=tk }):wpAny (model prog w) A (setAttr (.ref a) "read" v) Q E s:=by
 obtain ⟨hh,g,d,t,os⟩:=s
 have SF:=YMV
 have hT:∀ tk',(⟨hh,g,d,tk',os⟩:Shared).TypeIs (.ref a) "function":=fun _=>⟨_,h1,rfl⟩
 have f1:=SF.slot.lookup
 have f2:=SF.slot.bind (.ref a)
 refine wpAny_bind (wpAny_mkText (wpAny_bind (wpAny_bind ?_)))
 refine wpAny_specialOf (hT _) f1 (wpAny_holding ?_)
 rw [f2]
 refine wpAny_bind (wpAny_pure (wpAny_bind (wpAny_call ?_)))
 have t1:W.Looks (model prog w) hh (typeOf (.ref a)) (.type "function"):=(W.Looks.ld h1).andThen .now
 have t2:W.Looks (model prog w) hh (isInstance (.ref a) (.type "object")) true:=t1.andThen (W.Looks.of_pure YSw)
 refine codeAny_call_builtin SF.slot.plain SF.entry (@W.check_slot (model prog w) _ _ _ "object.__setattr__" "object" "__setattr__" (.ref a) [.str "read" t,v] [] _ SF.kind SF.split t2 (SF.args _ _ _) ?_)
 show wpAny _ _ (Builtin.«object.__setattr__» ⟨[.ref a,.str "read" t,v],[]⟩) _ _ _
 rw [W.osa_eq,refuse_eq]
 refine wpAny_bind (wpAny_bind (t1.here (wpAny_bind ?_)))
 rw [SF.mro]
 refine wpAny_pure ?_
 rw [SF.passes]
 refine wpAny_pure (wpAny_bind (t1.here (wpAny_bind ?_)))
 rw [YGX]
 refine wpAny_pure (wpAny_bind (wpAny_pure ?_))
 show wpAny _ _ (Builtin.ObjectAttr.storeInOwnDict (.ref a) (.type "function") (.str "read" t) "read" v false) _ _ _
 unfold Builtin.ObjectAttr.storeInOwnDict
 refine wpAny_bind (wpAny_pure ?_)
 refine wpAny_bind ?_
 show wpAny _ _ (instanceDict a true) _ _ _
 unfold instanceDict
 refine wpAny_bind (wpAny_loadPart h1 ?_)
 dsimp only
 rw [if_neg (by decide +kernel)]
 have hx₁:(hh.push { cls:=.type "dict",data:=.dict #[] }).get? a=some { cls:=.type "function",data:=.func fd }:=Heap.get?_push_of_some _ h1
 have hne:a≠hh.objs.size:=Nat.ne_of_lt (Heap.lt_size h1)
 refine wpAny_bind (wpAny_alloc' (wpAny_bind (wpAny_update' hx₁ (wpAny_pure ?_))))
 have g1:((hh.push { cls:=.type "dict",data:=.dict #[] }).update a fun o=>{ o with dict:=some hh.objs.size }).get? hh.objs.size=some { cls:=.type "dict",data:=.dict #[] }:=
  (Heap.get?_update_ne _ _ _ _ hne.symm).trans (Heap.get?_push_at rfl rfl)
 have g2:((hh.push { cls:=.type "dict",data:=.dict #[] }).update a fun o=>{ o with dict:=some hh.objs.size }).get? a=some { cls:=.type "function",dict:=some hh.objs.size,data:=.func fd }:=
  Heap.get?_update_self _ hx₁ rfl
 refine YBT (name := "read") g1 DObj.new (by exact Ze32) fun h' o' k1 k2 k3=>?_
 refine wpAny_pure (wpAny_pure ?_)
 refine h h' o' _ ((k3.2 a hne).trans g2) k1 k2 fun b o hb e=>?_
 exact (k3.2 b (Nat.ne_of_lt (Heap.lt_size e))).trans ((Heap.get?_update_ne _ _ _ _ hb).trans (Heap.get?_push_of_some _ e))
end
end Mine
end
section
open PySem PySem.Spec PyProof.Rows
open PySem.W (Frag InstAt findIn hasDictIn isFn plainOver takerIn instObj methodObj fnMade fnX tabObj CodeHd)
namespace Mine
set_option genInjectivity false in
structure Led (h0:Heap) (P:Addr) (O:List Addr) (ps:Array Value) (L:List (Addr×(Obj→Prop))) (h:Heap):Prop where
 keep:∀ a o,h0.get? a=some o→a≠P→h.get? a=some o
 new:∀ p∈L,p.1∈O∨h0.get? p.1=none
 at_:∀ p∈L,∃ o,h.get? p.1=some o∧p.2 o
 nd:(L.map (·.1)).Nodup
 ne:∀ p∈L,p.1≠P
 tab:h.get? P=some (tabObj ps)
section
variable {h0 h h':Heap} {P:Addr} {O:List Addr} {ps:Array Value} {L:List (Addr×(Obj→Prop))}
theorem Led.get (D:Led h0 P O ps L h) (i:Nat) {a:Addr} {p:Obj→Prop} (e:L[i]?=some (a,p)):∃ o,h.get? a=some o∧p o:=D.at_ _ (List.mem_of_getElem? e)
theorem Led.keeps (D:Led h0 P O ps L h) (k:∀ b o,h.get? b=some o→h'.get? b=some o):Led h0 P O ps L h':=
 ⟨fun a o e n=>k _ _ (D.keep a o e n),D.new,fun p hp=>let ⟨o,a,b⟩:=D.at_ p hp; ⟨o,k _ _ a,b⟩,D.nd,D.ne,k _ _ D.tab⟩
theorem Led.add (D:Led h0 P O ps L h) (k:∀ b o,h.get? b=some o→h'.get? b=some o) {a:Addr} {o:Obj} {p:Obj→Prop} (hn:h.get? a=none) (ha:h'.get? a=some o) (hp:p o):Led h0 P O ps ((a,p)::L) h':=by
 have D':=D.keeps k
 refine ⟨D'.keep,fun q hq=>?_,fun q hq=>?_,?_,fun q hq=>?_,D'.tab⟩
 ·rcases List.mem_cons.mp hq with rfl | hq
  ·right
   by_cases hP:a=P
   ·subst hP; rw [D.tab] at hn; cases hn
   ·cases z:h0.get? a with
    | none=>rfl
    | some o=>rw [D.keep a o z hP] at hn; cases hn
  ·exact D'.new q hq
 ·rcases List.mem_cons.mp hq with rfl | hq
  ·exact ⟨o,ha,hp⟩
  ·exact D'.at_ q hq
 ·rw [List.map_cons,List.nodup_cons]
  refine ⟨fun q=>?_,D.nd⟩
  obtain ⟨r,hr,rfl⟩:=List.mem_map.mp q
  obtain ⟨o,e,_⟩:=D.at_ r hr
  rw [hn] at e; cases e
 ·rcases List.mem_cons.mp hq with rfl | hq
  ·rintro rfl
   rw [D.tab] at hn; cases hn
  ·exact D'.ne q hq
theorem Led.add' {h1:Heap} (D:Led h0 P O ps L h') (x:Heap.ExtBut P h1 h') {ps1:Array Value} {a:Addr} {o:Obj} {p:Obj→Prop} (D0:Led h0 P O ps1 L h1) (hn:h1.get? a=none) (ha:h'.get? a=some o) (hp:p o):Led h0 P O ps ((a,p)::L) h':=by
 refine ⟨D.keep,fun q hq=>?_,fun q hq=>?_,?_,fun q hq=>?_,D.tab⟩
 ·rcases List.mem_cons.mp hq with rfl | hq
  ·right
   by_cases hP:a=P
   ·subst hP; rw [D0.tab] at hn; cases hn
   ·cases z:h0.get? a with
    | none=>rfl
    | some o=>rw [D0.keep a o z hP] at hn; cases hn
  ·exact D.new q hq
 ·rcases List.mem_cons.mp hq with rfl | hq
  ·exact ⟨o,ha,hp⟩
  ·exact D.at_ q hq
 ·rw [List.map_cons,List.nodup_cons]
  refine ⟨fun q=>?_,D.nd⟩
  obtain ⟨r,hr,rfl⟩:=List.mem_map.mp q
  obtain ⟨o,e,_⟩:=D0.at_ r hr
  rw [hn] at e; cases e
 ·rcases List.mem_cons.mp hq with rfl | hq
  ·rintro rfl
   rw [D0.tab] at hn; cases hn
  ·exact D.ne q hq
theorem Led.push (D:Led h0 P O ps L h) (o:Obj) {p:Obj→Prop} (hf:o.isFreed=false) (hp:p o):Led h0 P O ps ((h.objs.size,p)::L) (h.push o):=
 D.add (fun _ _ e=>Heap.get?_push_of_some _ e) (YN _) (Heap.get?_push_size _ hf) hp
theorem Led.watch (D:Led h0 P O ps L h) {a:Addr} {o:Obj} {p:Obj→Prop} (hO:a∈O) (h1:∀ q∈L,q.1≠a) (hP:a≠P) (ha:h.get? a=some o) (hp:p o):Led h0 P O ps ((a,p)::L) h:=by
 refine ⟨D.keep,fun q hq=>?_,fun q hq=>?_,?_,fun q hq=>?_,D.tab⟩
 ·rcases List.mem_cons.mp hq with rfl | hq
  ·exact .inl hO
  ·exact D.new q hq
 ·rcases List.mem_cons.mp hq with rfl | hq
  ·exact ⟨o,ha,hp⟩
  ·exact D.at_ q hq
 ·rw [List.map_cons,List.nodup_cons]
  refine ⟨fun q=>?_,D.nd⟩
  obtain ⟨r,hr,e⟩:=List.mem_map.mp q
  exact h1 r hr e
 ·rcases List.mem_cons.mp hq with rfl | hq
  ·exact hP
  ·exact D.ne q hq
theorem Led.apart (D:Led h0 P O ps L h) {i j:Nat} {p q:Addr×(Obj→Prop)} (hi:L[i]?=some p) (hj:L[j]?=some q) (hne:i≠j):p.1≠q.1:=
 YEq D.nd (by rw [List.getElem?_map,hi]; rfl) (by rw [List.getElem?_map,hj]; rfl) hne
theorem Led.turn (D:Led h0 P O ps L h) (i:Nat) {a:Addr} {p p':Obj→Prop} {o:Obj} (e:L[i]?=some (a,p)) (hO:a∉O) (k:∀ b o,b≠a→h.get? b=some o→h'.get? b=some o) (ha:h'.get? a=some o) (hp:p' o):Led h0 P O ps (L.set i (a,p')) h':=by
 have hm:=List.mem_of_getElem? e
 have hsub:∀ q∈L.set i (a,p'),q=(a,p')∨(q∈L∧q.1≠a):=fun q hq=>by
  obtain ⟨j,hj⟩:=List.mem_iff_getElem?.mp hq
  by_cases hij:i=j
  ·subst hij
   rw [List.getElem?_set_self (List.getElem?_eq_some_iff.mp e).1] at hj
   exact .inl (Option.some.inj hj).symm
  ·rw [List.getElem?_set_ne hij] at hj
   exact .inr ⟨List.mem_of_getElem? hj,(D.apart hj e (Ne.symm hij))⟩
 have hmap:(L.set i (a,p')).map (·.1)=L.map (·.1):=by
  rw [List.map_set]
  refine List.ext_getElem? fun j=>?_
  by_cases hij:i=j
  ·subst hij
   rw [List.getElem?_set_self (by rw [List.length_map]; exact (List.getElem?_eq_some_iff.mp e).1),List.getElem?_map,e]; rfl
  ·rw [List.getElem?_set_ne hij]
 refine ⟨fun b o e' n=>k b o (fun q=>?_) (D.keep b o e' n),fun q hq=>?_,fun q hq=>?_,by rw [hmap]; exact D.nd,fun q hq=>?_,k _ _ (fun q=>D.ne _ hm q.symm) D.tab⟩
 ·subst q
  rcases D.new _ hm with z | z
  ·exact hO z
  ·rw [show h0.get? b=none from z] at e'; cases e'
 ·rcases hsub q hq with rfl | ⟨hq,_⟩
  ·exact D.new (a,p) hm
  ·exact D.new q hq
 ·rcases hsub q hq with rfl | ⟨hq,hn⟩
  ·exact ⟨o,ha,hp⟩
  ·obtain ⟨o',z,y⟩:=D.at_ q hq
   exact ⟨o',k _ _ hn z,y⟩
 ·rcases hsub q hq with rfl | ⟨hq,_⟩
  ·exact D.ne (a,p) hm
  ·exact D.ne q hq
theorem Led.grow {ps':Array Value} (D:Led h0 P O ps L h) (x:Heap.ExtBut P h h') (ht:h'.get? P=some (tabObj ps')):Led h0 P O ps' L h':=
 ⟨fun a o e n=>x _ _ n (D.keep a o e n),D.new,fun p hp=>let ⟨o,a,b⟩:=D.at_ p hp; ⟨o,x _ _ (D.ne p hp) a,b⟩,D.nd,D.ne,ht⟩
end
noncomputable def NsO (m:Str→Option Value) (o:Obj):Prop:=∃ es ep,o.data=.dict es ep∧StrKeys es∧∀ name,nsFind es name=m name
noncomputable def CellO (v:Option Value) (o:Obj):Prop:=o.data=.cell v
noncomputable def CodeO (q:Str) (o:Obj):Prop:=∃ vs t,o.data=.fields vs∧vs[1]?=some (.str q t)
noncomputable def ListO (xs:List Value) (o:Obj):Prop:=∃ n,o=seqObj "list" xs.toArray n
theorem NsO.ns {h:Heap} {a:Addr} {m:Str→Option Value} (x:∃ o,h.get? a=some o∧NsO m o):h.Ns a m:=let ⟨o,ho,es,ep,r⟩:=x; ⟨o,es,ep,ho,r⟩
theorem NsO.of {h:Heap} {a:Addr} {m:Str→Option Value} (x:h.Ns a m):∃ o,h.get? a=some o∧NsO m o:=let ⟨o,es,ep,ho,r⟩:=x; ⟨o,ho,es,ep,r⟩
theorem CodeO.of {h:Heap} {a:Addr} {q:Str} (x:h.CodeRec (.ref a) q):∃ o,h.get? a=some o∧CodeO q o:=by
 obtain ⟨c,oc,vs,t,e,ho,hd,hq⟩:=x
 cases e
 exact ⟨oc,ho,vs,t,hd,hq⟩
theorem CodeO.rec_ {h:Heap} {a:Addr} {q:Str} (x:∃ o,h.get? a=some o∧CodeO q o):h.CodeRec (.ref a) q:=by
 obtain ⟨o,ho,vs,t,hd,hq⟩:=x
 exact ⟨a,o,vs,t,rfl,ho,hd,hq⟩
end Mine
end
section
open PySem PySem.Spec PyProof.Rows
open PySem.W (Frag InstAt findIn hasDictIn isFn plainOver takerIn instObj methodObj fnMade fnX tabObj CodeHd makesIn typeIn)
namespace Mine
noncomputable def rdParams (p:Pos):Arguments:=⟨[],[⟨"size",none,p⟩],none,[],[],none,[]⟩
noncomputable def laParams:Arguments:=⟨[],[],none,[],[],none,[]⟩
inductive LexBody:List Stmt→YE→Scope→Prop
 | mk (rbody:List Stmt) (rsc lsc:Scope) (k1 k2:Nat) (p0 p1 p2 p3 p4 p5 p6 p7 p8 p9 p10 p11 p12 p13 p14 p15 e1 e2:Pos) (h1:e1.line=140) (h2:e1.col=4) (h3:e2.line=144) (h4:e2.col=13):
   LexBody [.Assign [.Name "at" p0] (.List [.Constant (.int 0) k1 p1] p2) p3,
    .FunctionDef "_law_read_on" (rdParams p4) rbody [] none [] rsc none "_law_read_on" e1,
    .Assign [.Name "stream" p5] (.Lambda laParams (.Constant .none k2 p6) lsc e2) p7,
    .Assign [.Attribute (.Name "stream" p8) "read" p9] (.Name "_law_read_on" p10) p11,
    .Return (some (.Call (.Name "_netrclex" p12) [.Name "stream" p13] [] p14)) p15] ⟨rdParams p4,rbody,rsc⟩ lsc
set_option genInjectivity false in
structure LexD where
 rbody:List Stmt
 rsc:Scope
 lsc:Scope
 k:Nat×Nat
 p:List Pos
noncomputable def LexD.q (d:LexD) (i:Nat):Pos:=d.p.getD i default
noncomputable def lexMk (d:LexD):List Stmt:=
 [.Assign [.Name "at" (d.q 0)] (.List [.Constant (.int 0) d.k.1 (d.q 1)] (d.q 2)) (d.q 3),
  .FunctionDef "_law_read_on" (rdParams (d.q 4)) d.rbody [] none [] d.rsc none "_law_read_on" (d.q 16),
  .Assign [.Name "stream" (d.q 5)] (.Lambda laParams (.Constant .none d.k.2 (d.q 6)) d.lsc (d.q 17)) (d.q 7),
  .Assign [.Attribute (.Name "stream" (d.q 8)) "read" (d.q 9)] (.Name "_law_read_on" (d.q 10)) (d.q 11),
  .Return (some (.Call (.Name "_netrclex" (d.q 12)) [.Name "stream" (d.q 13)] [] (d.q 14))) (d.q 15)]
noncomputable def lexExt:List Stmt→LexD
 | [.Assign [.Name _ p0] (.List [.Constant _ k1 p1] p2) p3,
   .FunctionDef _ ⟨_,[⟨_,_,p4⟩],_,_,_,_,_⟩ rbody _ _ _ rsc _ _ e1,
   .Assign [.Name _ p5] (.Lambda _ (.Constant _ k2 p6) lsc e2) p7,
   .Assign [.Attribute (.Name _ p8) _ p9] (.Name _ p10) p11,
   .Return (some (.Call (.Name _ p12) [.Name _ p13] _ p14)) p15]=>⟨rbody,rsc,lsc,(k1,k2),[p0,p1,p2,p3,p4,p5,p6,p7,p8,p9,p10,p11,p12,p13,p14,p15,e1,e2]⟩
 | _=>⟨[],default,default,(0,0),[]⟩
noncomputable def LexD.ok (d:LexD):Bool:=(d.q 16).line==140&&(d.q 16).col==4&&(d.q 17).line==144&&(d.q 17).col==13
theorem YLQ {d:LexD} (h:d.ok=true):LexBody (lexMk d) ⟨rdParams (d.q 4),d.rbody,d.rsc⟩ d.lsc:=by
 unfold LexD.ok at h
 simp only [Bool.and_eq_true,beq_iff_eq] at h
 exact .mk _ _ _ _ _ _ _ _ _ _ _ _ _ _ _ _ _ _ _ _ _ _ _ h.1.1.1 h.1.1.2 h.1.2 h.2
inductive InitBody:List Stmt→Prop
 | mk (k1 k2:Nat) (p0 p1 p2 p3 p4 p5 p6 p7 p8 p9 p10 p11 p12 p13 p14 p15:Pos):
   InitBody [.Assign [.Attribute (.Name "self" p0) "lineno" p1] (.Constant (.int 1) k1 p2) p3,
    .Assign [.Attribute (.Name "self" p4) "instream" p5] (.Name "fp" p6) p7,
    .Assign [.Attribute (.Name "self" p8) "whitespace" p9] (.Constant (.str "\n\t\r ") k2 p10) p11,
    .Assign [.Attribute (.Name "self" p12) "pushback" p13] (.List [] p14) p15]
noncomputable def initMk (k:Nat×Nat) (p:List Pos):List Stmt:=
 [.Assign [.Attribute (.Name "self" (p.getD 0 default)) "lineno" (p.getD 1 default)] (.Constant (.int 1) k.1 (p.getD 2 default)) (p.getD 3 default),
  .Assign [.Attribute (.Name "self" (p.getD 4 default)) "instream" (p.getD 5 default)] (.Name "fp" (p.getD 6 default)) (p.getD 7 default),
  .Assign [.Attribute (.Name "self" (p.getD 8 default)) "whitespace" (p.getD 9 default)] (.Constant (.str "\n\t\r ") k.2 (p.getD 10 default)) (p.getD 11 default),
  .Assign [.Attribute (.Name "self" (p.getD 12 default)) "pushback" (p.getD 13 default)] (.List [] (p.getD 14 default)) (p.getD 15 default)]
noncomputable def initExt:List Stmt→(Nat×Nat)×List Pos
 | [.Assign [.Attribute (.Name _ p0) _ p1] (.Constant _ k1 p2) p3,.Assign [.Attribute (.Name _ p4) _ p5] (.Name _ p6) p7,
   .Assign [.Attribute (.Name _ p8) _ p9] (.Constant _ k2 p10) p11,.Assign [.Attribute (.Name _ p12) _ p13] (.List _ p14) p15]=>((k1,k2),[p0,p1,p2,p3,p4,p5,p6,p7,p8,p9,p10,p11,p12,p13,p14,p15])
 | _=>((0,0),[])
theorem YJf (k:Nat×Nat) (p:List Pos):InitBody (initMk k p):=.mk _ _ _ _ _ _ _ _ _ _ _ _ _ _ _ _ _ _
noncomputable def lexNames:List (Str×NameKind):=[("text",.cell),("_law_read_on",.local),("stream",.local),("at",.cell),("_netrclex",.globalImplicit)]
noncomputable def rdNames:List (Str×NameKind):=[("size",.local),("sign",.local),("at",.free),("text",.free),("len",.globalImplicit)]
noncomputable def initNames:List (Str×NameKind):=[("self",.local),("fp",.local)]
set_option genInjectivity false in
structure FnIs (H₀:Heap) (f:Addr) (names:List Str) (body:List Stmt) (scn:List (Str×NameKind)) (q:Str) (c:Addr) (fd:FuncData):Prop where
 at_:∃ o,H₀.get? f=some o∧o.data=.func fd
 body_:fd.body=.stmts body
 names_:fd.scope.names=scn
 kind:fd.scope.kind=.function
 co:fd.scope.isCoroutine=false
 gen:fd.scope.isGenerator=false
 clos:fd.closure=[]
 glob:fd.globals=mainGlobals
 blt:fd.builtins=builtinsNs
 qual:fd.qualname=q
 code:fd.code=.ref c
 rec_:H₀.CodeRec (.ref c) q
 par:parCk fd names=true
set_option genInjectivity false in
structure LexFn (K:Frag) (H₀:Heap) (rd:YE):Prop where
 fn:∃ fd body lsc,FnIs H₀ 112 ["text"] body lexNames "_law_lexer" 111 fd∧LexBody body rd lsc∧lsc.names=[]
 rdsc:rd.scope.names=rdNames
 code:CodeHd H₀ 111 107
 hole:H₀.get? 107=none
 glob:∃ mg,H₀.Ns mainGlobals mg∧mg "_netrclex"=some (.ref 87)∧∃ bm o,mg "__builtins__"=some (.ref bm)∧bm≠builtinsNs∧bm≠mainGlobals∧H₀.get? bm=some o∧o.cls=.type "module"∧o.dict=some builtinsNs∧o.data=.plain
 init:∃ fd body c,FnIs H₀ 63 ["self","fp"] body initNames "_netrclex.__init__" c fd∧InitBody body
 makes:makesIn K 87=true
 keep:W.keepIn K (.ref 87)=true
 ini:findIn K (.ref 87) "__init__"=some (some (.ref 63))
 inif:typeIn K (.ref 63)=some (.type "function")
 t1:takerIn K 87 "instream"=some none
 t2:takerIn K 87 "whitespace"=some none
 t3:takerIn K 87 "pushback"=some none
section
variable {prog:Program} {w:World} {rd:YE} {H₀:Heap} {A:Around} {E:Value→Shared→Prop} {s:Shared} {K:Frag}
theorem YCf {x dx:Addr} {m:Str→Option Value} {n:Nat} {name:Str} {v:Value} {od:Obj} {Q:Unit→Shared→Prop} (L:Yo K H₀) (X:K.In s.heap) (h1:s.heap.get? x=some (instObj 87 dx)) (h2:s.heap.get? dx=some od) (hd:DObj m n od) (hn:n≤1000)
  (ht:takerIn K 87 name=some none)
  (h:∀ h' od' tk,h'.get? dx=some od'→DObj (fun x=>if x=name then some v else m x) (n+1) od'→Heap.SameBut dx s.heap h'→Q () { s with heap:=h',toks:=tk }):wpAny (model prog w) A (setAttr (.ref x) name v) Q E s:=by
 have hns:s.heap.Ns dx m:=by obtain ⟨es,ep,rfl,a,b,c⟩:=hd; exact ⟨_,es,ep,h2,rfl,a,b⟩
 obtain ⟨od',I,hlk⟩:=YDL h1 hns
 refine W.set_plain X I L.sa ?_
 refine W.osa_open (s:={ s with toks:=s.toks+1 }) X I L.over ht fun b=>?_
 obtain ⟨cd,hc,hd'⟩:=W.any_some L.dict
 refine wpAny_bind (wpAny_pure (wpAny_bind (wpAny_bind (wpAny_loadPart h1 (wpAny_bind ((W.looks_clsIn (h:=s.heap) X hc) _ _ _ _ (fun _ _ e=>e) ?_))))))
 rw [hd']
 refine wpAny_pure (a:=some dx) ?_
 exact YBT (s:={ s with toks:=s.toks+1 }) h2 hd hn fun h' o' g1 g2 g3=>h _ _ _ g1 g2 g3
end
section
variable {prog:Program} {w:World} {rd:YE} {H₀ h0:Heap} {A:Around} {E:Value→Shared→Prop} {s:Shared} {K:Frag} {O:List Addr} {ps:Array Value} {L:List (Addr×(Obj→Prop))}
theorem YAO {env:Env} {x:Str} {pos:Pos} {m:Str→Option Value} {v:Value} {Q:Value→Shared→Prop} (hk:env.scope.kind=.function) (hl:env.kindOf x=some .local) (hn:s.heap.Ns env.locals m) (hm:m x=some v) (hd:(x==("__debug__":Str))=false) (h:Q v s):
  wpAny (model prog w) A (eval (.Name x pos) env) Q E s:=wpAny_Name (wpAny_loadName_local hk hl hn hm h) hd
theorem YAW (hb:∀ a o,H₀.get? a=some o→h0.get? a=some o) (hole:H₀.get? 107=none) {h:Heap} (D:Led h0 107 O ps L h):∀ a o,H₀.get? a=some o→h.get? a=some o:=fun a o e=>D.keep a o (hb a o e) fun q=>by rw [q,hole] at e; cases e
theorem YLe {f:Addr} {names:List Str} {body:List Stmt} {scn:List (Str×NameKind)} {q:Str} {c:Addr} {fd:FuncData} {xs:List Value} {R:Result→Shared→Prop} (B:Base H₀) (hf:FnIs H₀ f names body scn q c fd) (hbase:∀ a o,H₀.get? a=some o→s.heap.get? a=some o)
  (hA:Fits A 1) (hx:xs.length=names.length) (hc:∀ x∈scn,x.2≠.cell) (hl:∀ x∈names,scn.lookup x=some .local)
  (h:∀ env h' tk,env.scope=fd.scope→env.locals=s.heap.objs.size→env.globals=mainGlobals→env.builtins=builtinsNs→env.cells=[]→h'.Ns s.heap.objs.size (fun x=>(names.zip xs).reverse.lookup x)→(∀ a o,s.heap.get? a=some o→h'.get? a=some o)→
   wpAny (model prog w) (A.deeper env) (execs body env) (fun f s'=>R (.ok (.ret (match f with | .ret v=>v | _=>.none))) s') (fun e s'=>wpAny (model prog w) (A.deeper env) (leaving env e) (fun _ s''=>R (.error e) s'') (fun e' s''=>R (.error e') s'') s') { s with heap:=h',toks:=tk }):
  codeAny (model prog w) A (.call (.ref f) ⟨xs,[]⟩) R s:=by
 obtain ⟨⟨o,h1,h2⟩,k1,k2,k3,k4,k5,k6,k7,k8,k9,k10,⟨c',oc,vs,tq,e,ho,z⟩,k12⟩:=hf
 cases e
 refine codeAny_call_function (by have:=hA.depth; show A.depth<1000; exact Nat.le_trans (by assumption) (by decide)) (hbase _ _ h1) h2 k4 k5 k1 ⟨c,oc,vs,tq,k10,hbase _ _ ho,by rw [k9]; exact z⟩ ?_
 rw [YEu k12 xs hx]
 refine wpAny_pure ?_
 rw [k6,k7,k8]
 refine wpAny_newFunctionEnv (fun x hx=>hc x (by rw [←k2]; exact hx)) (fun x hx=>by rw [k2]; exact hl _ (List.of_mem_zip hx).1) (fun h' hn hs=>?_) k3
 have kk:∀ a o,s.heap.get? a=some o→h'.get? a=some o:=fun a o e=>hs.extBut a o (Nat.ne_of_lt (Heap.lt_size e)) (Heap.get?_push_of_some _ e)
 exact ⟨B.nolim.keeps fun b o e=>kk b o (hbase b o e),codeAny_func (h _ h' _ rfl rfl rfl rfl rfl hn kk)⟩
theorem YNw {x dx sf:Addr} {R:Result→Shared→Prop} (B:Base H₀) (C:Yo K H₀) (F:LexFn K H₀ rd) (hb:∀ a o,H₀.get? a=some o→h0.get? a=some o)
  (D:Led h0 107 O ps ((x,fun o=>o=instObj 87 dx)::(dx,DObj (fun _=>none) 0)::L) s.heap) (hO:dx∉O) (hA:Fits A 1)
  (h:∀ h' tk t1 t2 p df pf,Led h0 107 O ps ((p,ListO [])::(df,pf)::(x,fun o=>o=instObj 87 dx)::(dx,DObj (lexMap 1 t1 sf t2 p) 4)::L) h'→R (.ok (.ret .none)) { s with heap:=h',toks:=tk }):
  codeAny (model prog w) A (.call (.ref 63) ⟨[.ref x,.ref sf],[]⟩) R s:=by
 obtain ⟨fd,body,c,hf,hbd⟩:=F.init
 have hole:=F.hole
 refine YLe B hf (YAW hb hole D) hA rfl (by decide +kernel) (by decide +kernel) fun env h1 tk es el eg ebl ec hns kk=>?_
 have hkind:env.scope.kind=.function:=by rw [es]; exact hf.kind
 have ek:∀ y,env.kindOf y=initNames.lookup y:=fun y=>by unfold Env.kindOf; rw [es,hf.names_]
 obtain ⟨of,hof,hofp⟩:=NsO.of hns
 have D1:Led h0 107 O ps ((s.heap.objs.size,NsO (fun y=>((["self","fp"]:List Str).zip [Value.ref x,Value.ref sf]).reverse.lookup y))::(x,fun o=>o=instObj 87 dx)::(dx,DObj (fun _=>none) 0)::L) h1:=D.add kk (YN _) hof hofp
 generalize hdf:s.heap.objs.size=df at D1 el hns
 have nSF:(("self":Str) == "fp")=false:=beq_eq_false_iff_ne.mpr (by decide +kernel)
 have e0:((["self","fp"]:List Str).zip [Value.ref x,Value.ref sf]).reverse=[(("fp":Str),Value.ref sf),(("self":Str),Value.ref x)]:=rfl
 rw [e0] at hns
 simp only [e0] at D1
 have m1:(fun y=>List.lookup y [(("fp":Str),Value.ref sf),(("self":Str),Value.ref x)]) "self"=some (.ref x):=by
  show List.lookup _ _=_
  rw [List.lookup_cons,nSF]; simp [List.lookup]
 have m2:(fun y=>List.lookup y [(("fp":Str),Value.ref sf),(("self":Str),Value.ref x)]) "fp"=some (.ref sf):=by
  show List.lookup _ _=_
  rw [List.lookup_cons]; simp
 generalize (fun y=>List.lookup y [(("fp":Str),Value.ref sf),(("self":Str),Value.ref x)])=mf at D1 hns m1 m2
 cases hbd with
 | mk k1 k2 p0 p1 p2 p3 p4 p5 p6 p7 p8 p9 p10 p11 p12 p13 p14 p15=>
 have self:∀ {h2:Heap} {tk2:Nat} {M L'} {p:Pos} {Q:Value→Shared→Prop} {E:Value→Shared→Prop},M=(df,NsO mf)→Led h0 107 O ps (M::L') h2→Q (.ref x) { s with heap:=h2,toks:=tk2 }→wpAny (model prog w) (A.deeper env) (eval (.Name "self" p) env) Q E { s with heap:=h2,toks:=tk2 }:=by
  rintro h2 tk2 _ L' p Q E rfl D2 q
  exact YAO hkind (ek _) (by rw [el]; exact NsO.ns (D2.get 0 rfl)) m1 (by decide +kernel) q
 have hK:∀ {h2:Heap} {L'},Led h0 107 O ps L' h2→K.In h2:=fun D2=>C.here.keeps (YAW hb hole D2)
 -- lineno
 refine wpAny_execs_cons (plainObj_wpAny_Assign_Attribute (wpAny_Constant_int (self rfl D1 ?_)))
 obtain ⟨ox,gx,rfl⟩:=D1.get 1 rfl
 obtain ⟨od,gd,pd⟩:=D1.get 2 rfl
 refine YCf C (hK D1) gx gd pd (by exact Ze32) C.taker fun h2 od2 tk2 g2 p2 s2=>?_
 have D2:=D1.turn 2 rfl hO (fun b o n e=>(s2.2 b n).trans e) g2 p2
 -- instream
 refine wpAny_execs_cons (plainObj_wpAny_Assign_Attribute (YAO hkind (ek _) (by rw [el]; exact NsO.ns (D2.get 0 rfl)) m2 (by decide +kernel) (self rfl D2 ?_)))
 obtain ⟨ox,gx,rfl⟩:=D2.get 1 rfl
 refine YCf C (hK D2) gx g2 p2 (by exact Ze33) F.t1 fun h3 od3 tk3 g3 p3 s3=>?_
 have D3:=D2.turn 2 rfl hO (fun b o n e=>(s3.2 b n).trans e) g3 p3
 -- whitespace
 refine wpAny_execs_cons (plainObj_wpAny_Assign_Attribute (wpAny_Constant_str (self rfl D3 ?_)))
 obtain ⟨ox,gx,rfl⟩:=D3.get 1 rfl
 refine YCf C (hK D3) gx g3 p3 (by exact Ze34) F.t2 fun h4 od4 tk4 g4 p4 s4=>?_
 have D4:=D3.turn 2 rfl hO (fun b o n e=>(s4.2 b n).trans e) g4 p4
 -- pushback
 have D5:=D4.push { cls:=.type "list",data:=.seq ([]:List Value).toArray } rfl (p:=ListO []) ⟨_,rfl⟩
 refine wpAny_execs_cons (plainObj_wpAny_Assign_Attribute (wpAny_List_spliced (Calls.spliced_nil ⟨by decide,YAO hkind (ek _) (by rw [el]; exact NsO.ns (D5.get 1 rfl)) m1 (by decide +kernel) ?_⟩)))
 obtain ⟨ox,gx,rfl⟩:=D5.get 2 rfl
 obtain ⟨od,gd,pd⟩:=D5.get 3 rfl
 refine YCf C (hK D5) gx gd pd (by exact Ze35) F.t3 fun h6 od6 tk6 g6 p6 s6=>?_
 have D6:=D5.turn 3 rfl hO (fun b o n e=>(s6.2 b n).trans e) g6 p6
 refine wpAny_execs_nil ?_
 exact h h6 tk6 _ _ h4.objs.size df _ D6
end
end Mine
end
section
open PySem PySem.Spec PyProof.Rows
open PySem.W (Frag InstAt findIn hasDictIn isFn plainOver takerIn instObj methodObj fnMade fnX tabObj CodeHd makesIn typeIn kla_obj kla_fn)
namespace Mine
section
variable {prog:Program} {w:World} {M:Model} {rd:YE} {H₀ h0:Heap} {A:Around} {E:Value→Shared→Prop} {s:Shared} {K:Frag} {O:List Addr} {ps:Array Value} {L:List (Addr×(Obj→Prop))} {env:Env}
noncomputable def tab1 (c1:Addr):Array Value:=#[rawInt 140,rawInt 4,.ref c1]
noncomputable def tab2 (c1 c2:Addr):Array Value:=#[rawInt 140,rawInt 4,.ref c1,rawInt 144,rawInt 13,.ref c2]
theorem tri1 (c1:Addr):TriplesOk (tab1 c1).toList:=by simp [tab1,TriplesOk,rawInt]
theorem tri2 (c1 c2:Addr):TriplesOk (tab2 c1 c2).toList:=by simp [tab2,TriplesOk,rawInt]
theorem YJj {e:Pos}:codeAmong e (#[]:Array Value).toList=none:=by simp [codeAmong]
theorem among1 {e:Pos} {c1:Addr} (h:e.line=144):codeAmong e (tab1 c1).toList=none:=by simp [tab1,codeAmong,rawInt,h]
theorem among2a {e:Pos} {c1 c2:Addr} (h:e.line=140) (h':e.col=4):codeAmong e (tab2 c1 c2).toList=some (.ref c1):=by simp [tab2,codeAmong,rawInt,h,h']
theorem among2b {e:Pos} {c1 c2:Addr} (h:e.line=144) (h':e.col=13):codeAmong e (tab2 c1 c2).toList=some (.ref c2):=by simp [tab2,codeAmong,rawInt,h,h']
theorem YMu {mg:Str→Option Value} (hb:∀ a o,H₀.get? a=some o→h0.get? a=some o) (hole:H₀.get? 107=none) (D:Led h0 107 O ps L s.heap)
  (hm:∃ bm o,mg "__builtins__"=some (.ref bm)∧bm≠builtinsNs∧bm≠mainGlobals∧H₀.get? bm=some o∧o.cls=.type "module"∧o.dict=some builtinsNs∧o.data=.plain):s.heap.BuiltinsAt mg 107:=by
 obtain ⟨bm,o,h1,h2,h3,h4,r⟩:=hm
 exact ⟨bm,o,h1,h2,h3,(fun q=>by rw [q,hole] at h4; cases h4),YAW hb hole D _ _ h4,r⟩
theorem Led.freshO {P:Addr} {h:Heap} (D:Led h0 P O ps L h) (hO:∀ c∈O,∃ o,h0.get? c=some o) {a:Addr} (hn:h.get? a=none):a∉O:=fun q=>by
 obtain ⟨o,e⟩:=hO a q
 by_cases hP:a=P
 ·subst hP; rw [D.tab] at hn; cases hn
 ·rw [D.keep a o e hP] at hn; cases hn
theorem YSK {rd:YE} {e:Pos} {n:Nat} {clos:List (Str×Addr)} {Q:Value→Shared→Prop} (F:LexFn K H₀ rd) (hb:∀ a o,H₀.get? a=some o→h0.get? a=some o) (D:Led h0 107 O ps L s.heap)
  (hp:(ps=#[]∧O=[])∨∃ c1 c2,ps=tab2 c1 c2∧O=[c1]∧(∀ q∈L,q.1≠c1)∧s.heap.CodeRec (.ref c1) Yq)
  (he1:e.line=140) (he2:e.col=4) (hcode:env.code=.ref 111) (hglob:env.globals=mainGlobals) (hcl:closureFor rd.scope env=pure clos)
  (h:∀ rf c1 doc pm ctv h' tk ps',Led h0 107 O ps' ((rf,fun o=>o=fnMade "_law_read_on" Yq rd.params rd.body rd.scope clos doc pm c1 ctv)::(c1,CodeO Yq)::L) h'→(ps'=tab1 c1∨∃ c2,ps'=tab2 c1 c2)→(∀ a∈O,a=c1)→Q (.ref rf) { s with heap:=h',toks:=tk }):
  wpAny M A (makeFunction "_law_read_on" Yq rd.params (.stmts rd.body) rd.scope env [] [] [] e n) Q E s:=by
 have hole:=F.hole
 have hbase:=YAW hb hole D
 obtain ⟨mg,hg,-,hm⟩:=F.glob
 have hg':s.heap.Ns mainGlobals mg:=hg.keeps hbase
 have hB:=YMu hb hole D hm
 have C:=F.code.keeps hbase
 rcases hp with ⟨rfl,rfl⟩ | ⟨c1,c2,rfl,rfl,hne,hr⟩
 ·refine W.makeFunction_K hcl hglob hg' hcode C D.tab trivial YJj (fun q=>?_) hB fun c1 ctv doc h' tk hx hge hlt hrec htab=>?_
  ·obtain ⟨o,es,ep,z,_⟩:=hg
   rw [q,hole] at z; cases z
  ·obtain ⟨oc,hoc,poc⟩:=CodeO.of hrec
   have htab:h'.get? 107=some (tabObj (tab1 c1)):=by
    rw [htab,Array.empty_append,he1,he2]; rfl
   have D1:=(D.grow hx htab).add' hx D (Heap.get?_none_of_le hge) hoc poc
   exact h _ _ _ _ _ _ _ _ (D1.push (p:=fun o=>o=fnMade "_law_read_on" Yq rd.params rd.body rd.scope clos doc _ c1 ctv) _ rfl rfl) (.inl rfl) (by simp)
 ·refine W.makeFunction_hit hcl hglob hg' hcode C D.tab (tri2 c1 c2) (among2a he1 he2) hB fun ctv doc h' tk hk hsz=>?_
  obtain ⟨oc,hoc,poc⟩:=CodeO.of hr
  have D1:=(D.watch (List.mem_singleton.mpr rfl) hne (fun q=>by subst q; rw [D.tab] at hoc; cases hoc; obtain ⟨vs,t,a,b⟩:=poc; simp [tab2] at a; subst a; simp [rawInt] at b) hoc poc).keeps hk
  exact h _ _ _ _ _ _ _ _ (D1.push (p:=fun o=>o=fnMade "_law_read_on" Yq rd.params rd.body rd.scope clos doc _ c1 ctv) _ rfl rfl) (.inr ⟨c2,rfl⟩) (by simp)
theorem YQw {rd:YE} {e:Pos} {n:Nat} {c1:Addr} {lsc:Scope} {lb:PySem.Expr} {qual:Str} {Q:Value→Shared→Prop} (F:LexFn K H₀ rd) (hb:∀ a o,H₀.get? a=some o→h0.get? a=some o) (D:Led h0 107 O ps L s.heap)
  (hp:ps=tab1 c1∨∃ c2,ps=tab2 c1 c2)
  (he1:e.line=144) (he2:e.col=13) (hcode:env.code=.ref 111) (hglob:env.globals=mainGlobals) (hcl:closureFor lsc env=pure [])
  (h:∀ sf fd h' tk c2,Led h0 107 O (tab2 c1 c2) ((sf,fun o=>o={ cls:=.type "function",data:=.func fd })::L) h'→h'.get? sf≠none→s.heap.get? sf=none→Q (.ref sf) { s with heap:=h',toks:=tk }):
  wpAny M A (makeFunction "<lambda>" qual laParams (.expr lb) lsc env [] [] [] e n) Q E s:=by
 have hole:=F.hole
 have hbase:=YAW hb hole D
 obtain ⟨mg,hg,-,hm⟩:=F.glob
 have hg':s.heap.Ns mainGlobals mg:=hg.keeps hbase
 have hB:=YMu hb hole D hm
 have C:=F.code.keeps hbase
 rcases hp with rfl | ⟨c2,rfl⟩
 ·refine W.kla_makeFunction hcl hglob hg' hcode C D.tab (tri1 c1) (among1 he1) (fun q=>?_) hB fun c2 ctv h' tk hx hge hlt hrec htab=>?_
  ·obtain ⟨o,es,ep,z,_⟩:=hg
   rw [q,hole] at z; cases z
  ·have htab:h'.get? 107=some (tabObj (tab2 c1 c2)):=by
    rw [htab,he1,he2]; rfl
   have D1:=D.grow hx htab
   have D2:=D1.push (W.kla_obj "<lambda>" qual laParams lb lsc [] ((mg "__name__").getD .none) c2 ctv) (p:=fun o=>o={ cls:=.type "function",data:=.func _ }) rfl rfl
   exact h _ _ _ _ _ D2 (by obtain ⟨o,a,_⟩:=D2.get 0 rfl; rw [a]; simp) (Heap.get?_none_of_le (Nat.le_trans hge (Nat.le_of_lt hlt)))
 ·refine W.kla_makeFunctionHit hcl hglob hg' hcode C D.tab (tri2 c1 c2) (among2b he1 he2) hB fun ctv h' tk hk hsz=>?_
  have D2:=(D.keeps hk).push { cls:=.type "function",data:=.func (W.kla_fn "<lambda>" qual laParams lb lsc [] ((mg "__name__").getD .none) (.ref c2) ctv) } (p:=fun o=>o={ cls:=.type "function",data:=.func _ }) rfl rfl
  exact h _ _ _ _ _ D2 (by obtain ⟨o,a,_⟩:=D2.get 0 rfl; rw [a]; simp) (Heap.get?_none_of_le hsz)
end
section
variable {prog:Program} {w:World} {rd:YE} {H₀ h0:Heap} {A:Around} {E:Value→Shared→Prop} {s:Shared} {K:Frag} {O:List Addr} {ps:Array Value} {L:List (Addr×(Obj→Prop))} {env:Env}
theorem YIs (c:Addr) (r:List Value) (kw:List (Str×Value)):(Code.builtin "type.__call__" ⟨.ref c::r,kw⟩).weight=1:=by kernel_rfl
theorem YLy (a:Args):(Code.builtin "type.__call__" a).cUnits=1:=by kernel_rfl
theorem Fits.under {A:Around} {d:Nat} (f:Fits A (d+1)) (c:Addr) (r:List Value) (kw:List (Str×Value)):Fits (A.under (.builtin "type.__call__" ⟨.ref c::r,kw⟩)) d:=
 ⟨f.handled,by have:=f.depth; show A.depth+(Code.builtin "type.__call__" _).weight+d≤900; rw [YIs]; exact Ze19 this,by have:=f.units; show A.units+(Code.builtin "type.__call__" _).cUnits+_+_≤_; rw [YLy]; exact Ze28 this⟩
theorem YHs {sf:Addr} {R:Result→Shared→Prop} (B:Base H₀) (C:Yo K H₀) (F:LexFn K H₀ rd) (hb:∀ a o,H₀.get? a=some o→h0.get? a=some o) (hO:∀ c∈O,∃ o,h0.get? c=some o)
  (D:Led h0 107 O ps L s.heap) (hA:Fits A 2)
  (h:∀ h' tk t1 t2 p df pf x dx,Led h0 107 O ps ((p,ListO [])::(df,pf)::(x,fun o=>o=instObj 87 dx)::(dx,DObj (lexMap 1 t1 sf t2 p) 4)::L) h'→R (.ok (.ret (.ref x))) { s with heap:=h',toks:=tk }):
  codeAny (model prog w) A (.call (.ref 87) ⟨[.ref sf],[]⟩) R s:=by
 obtain ⟨hh,g,d,t,os⟩:=s
 have X:K.In hh:=C.here.keeps (YAW hb F.hole D)
 refine W.make_core (W.makes_of X F.makes) (W.looks_findIn X F.ini) (fun self=>W.bind_fn X self F.inif) (.inl (by decide)) ?_
 have D1:=D.push W.emptyDict (p:=DObj (fun _=>none) 0) rfl DObj.new
 have D2:=D1.push (instObj 87 hh.objs.size) (p:=fun o=>o=instObj 87 hh.objs.size) rfl rfl
 rw [Heap.size_push] at D2
 refine YNw B C F hb D2 (D.freshO hO (YN _)) (hA.under _ _ _) fun h' tk t1 t2 p df pf D3=>?_
 exact ⟨rfl,h _ _ _ _ _ _ _ _ _ D3⟩
theorem YOh {ct ca:Addr} {rd:YE} (h:rd.scope.names=rdNames) (hc:env.cells=[(("at":Str),ca),(("text":Str),ct)]):closureFor rd.scope env=pure [(("text":Str),ct),(("at":Str),ca)]:=by
 have n1:(("text":Str) == "at")=false:=beq_eq_false_iff_ne.mpr (by decide +kernel)
 unfold closureFor
 rw [h]
 simp only [rdNames,List.forIn_cons,List.forIn_nil,cellOf,hc,List.lookup_cons,beq_self_eq_true,n1]
 rfl
theorem YLG {sc:Scope} (h:sc.names=[]):closureFor sc env=pure []:=by
 unfold closureFor
 rw [h]
 rfl
end
section
variable {prog:Program} {w:World} {rd:YE} {H₀ h0:Heap} {A:Around} {E:Value→Shared→Prop} {s:Shared} {K:Frag} {O:List Addr} {ps:Array Value} {L:List (Addr×(Obj→Prop))} {env:Env}
theorem Led.addL {P:Addr} {h h':Heap} (D:Led h0 P O ps L h) (k:∀ b o,h.get? b=some o→h'.get? b=some o) (N:List (Addr×(Obj→Prop))) (hn:∀ p∈N,h.get? p.1=none) (ha:∀ p∈N,∃ o,h'.get? p.1=some o∧p.2 o) (nd:(N.map (·.1)).Nodup):Led h0 P O ps (N++L) h':=by
 have D':=D.keeps k
 refine ⟨D'.keep,fun q hq=>?_,fun q hq=>?_,?_,fun q hq=>?_,D'.tab⟩
 ·rcases List.mem_append.mp hq with hq | hq
  ·right
   have hn:=hn q hq
   by_cases hP:q.1=P
   ·rw [hP,D.tab] at hn; cases hn
   ·cases z:h0.get? q.1 with
    | none=>rfl
    | some o=>rw [D.keep _ o z hP] at hn; cases hn
  ·exact D'.new q hq
 ·rcases List.mem_append.mp hq with hq | hq
  ·exact ha q hq
  ·exact D'.at_ q hq
 ·rw [List.map_append,List.nodup_append]
  refine ⟨nd,D.nd,fun a ha' b hb'=>?_⟩
  rintro rfl
  obtain ⟨p,hp,rfl⟩:=List.mem_map.mp ha'
  obtain ⟨q,hq,e⟩:=List.mem_map.mp hb'
  obtain ⟨o,z,_⟩:=D.at_ q hq
  rw [e,hn p hp] at z; cases z
 ·rcases List.mem_append.mp hq with hq | hq
  ·intro e
   have:=hn q hq
   rw [e,D.tab] at this; cases this
  ·exact D'.ne q hq
theorem Led.addX {P:Addr} {h1 h':Heap} {ps1:Array Value} {L0:List (Addr×(Obj→Prop))} (D:Led h0 P O ps L h') (D0:Led h0 P O ps1 L0 h1) (hm:L.map (·.1)=L0.map (·.1)) {a:Addr} {o:Obj} {p:Obj→Prop} (hn:h1.get? a=none) (ha:h'.get? a=some o) (hp:p o):Led h0 P O ps ((a,p)::L) h':=by
 refine ⟨D.keep,fun q hq=>?_,fun q hq=>?_,?_,fun q hq=>?_,D.tab⟩
 ·rcases List.mem_cons.mp hq with rfl | hq
  ·right
   by_cases hP:a=P
   ·subst hP; rw [D0.tab] at hn; cases hn
   ·cases z:h0.get? a with
    | none=>rfl
    | some o=>rw [D0.keep a o z hP] at hn; cases hn
  ·exact D.new q hq
 ·rcases List.mem_cons.mp hq with rfl | hq
  ·exact ⟨o,ha,hp⟩
  ·exact D.at_ q hq
 ·rw [List.map_cons,List.nodup_cons]
  refine ⟨fun q=>?_,D.nd⟩
  rw [hm] at q
  obtain ⟨r,hr,rfl⟩:=List.mem_map.mp q
  obtain ⟨o,e,_⟩:=D0.at_ r hr
  rw [hn] at e; cases e
 ·rcases List.mem_cons.mp hq with rfl | hq
  ·rintro rfl
   rw [D0.tab] at hn; cases hn
  ·exact D.ne q hq
noncomputable def lexLed (rd:YE) (text:List Nat) (d:LexR) (df dl:Addr) (pf pl:Obj→Prop):List (Addr×(Obj→Prop)):=
 [(d.p,ListO []),(df,pf),(d.x,fun o=>o=instObj 87 d.dx),(d.dx,DObj (lexMap 1 d.t1 d.sf d.t2 d.p) 4),(d.sd,DObj (fun y=>if y = "read" then some (.ref d.rf) else none) 1),
  (d.sf,fun o=>o={ cls:=.type "function",dict:=some d.sd,data:=.func d.fd }),(d.rf,fun o=>o=fnMade "_law_read_on" Yq rd.params rd.body rd.scope [("text",d.ct),("at",d.ca)] d.doc d.pm d.c d.ctv),(d.c,CodeO Yq),(d.la,ListO [.int 0 d.t4]),(d.ca,CellO (some (.ref d.la))),
  (d.ct,CellO (some (.str ⟨text.toArray⟩ d.t3))),(dl,pl)]
theorem YDu {text:List Nat} {t0:Tok} {R:Result→Shared→Prop} (B:Base H₀) (C:Yo K H₀) (F:LexFn K H₀ rd) (hb:∀ a o,H₀.get? a=some o→h0.get? a=some o) (hO:∀ c∈O,∃ o,h0.get? c=some o) (D:Led h0 107 O ps [] s.heap)
  (hp:(ps=#[]∧O=[])∨∃ c1 c2,ps=tab2 c1 c2∧O=[c1]∧c1≠107∧h0.CodeRec (.ref c1) Yq) (hA:Fits A 4)
  (h:∀ h' tk c2 df dl pf pl (d:LexR),Led h0 107 O (tab2 d.c c2) (lexLed rd text d df dl pf pl) h'→(∀ a∈O,a=d.c)→R (.ok (.ret (.ref d.x))) { s with heap:=h',toks:=tk }):
  codeAny (model prog w) A (.call (.ref 112) ⟨[.str ⟨text.toArray⟩ t0],[]⟩) R s:=by
 obtain ⟨fd,body,lsc,hf,hbd,hls⟩:=F.fn
 have hole:=F.hole
 have hbase:=YAW hb hole D
 obtain ⟨⟨o,h1,h2⟩,k1,k2,k3,k4,k5,k6,k7,k8,k9,k10,⟨c',oc,vs,tq,e,ho,z⟩,k12⟩:=hf
 cases e
 refine codeAny_call_function (by have:=hA.depth; show A.depth<1000; exact Ze36 this) (hbase _ _ h1) h2 k4 k5 k1 ⟨111,oc,vs,tq,k10,hbase _ _ ho,by rw [k9]; exact z⟩ ?_
 rw [YEu k12 _ rfl]
 refine wpAny_pure ?_
 rw [k6,k7,k8,k9,k10]
 refine wpAny_newFunctionEnv_cells k3 (fun x hx=>?_) fun env henv s2 IC=>?_
 ·have:x=(("text":Str),Value.str ⟨text.toArray⟩ t0):=by simpa using hx
  subst this
  rw [k2]
  have q:lexNames.lookup ("text":Str)=some .cell:=by decide +kernel
  exact .inr ⟨q,W.cellsFrom_some _ _ _ (.inl q)⟩
 obtain ⟨⟨⟨h',tk,rfl⟩,hns,keep,fresh⟩,hcell,apart,above⟩:=IC
 have es:env.scope=fd.scope:=by rw [henv]; rfl
 have el:env.locals=s.heap.objs.size:=by rw [henv]; rfl
 have eg:env.globals=mainGlobals:=by rw [henv]; rfl
 have ebl:env.builtins=builtinsNs:=by rw [henv]; rfl
 have eq':env.qual = "_law_lexer" ++ ".<locals>.":=by rw [henv]; rfl
 have eco:env.code=.ref 111:=by rw [henv]; rfl
 have ec:env.cells=[(("at":Str),s.heap.objs.size+1+1),(("text":Str),s.heap.objs.size+1)]:=by rw [henv]; show cellsFrom _ fd.scope.names []=_; rw [k2]; rfl
 have ek:∀ x,env.kindOf x=lexNames.lookup x:=fun x=>by unfold Env.kindOf; rw [es,k2]
 clear henv
 have hkind:env.scope.kind=.function:=by rw [es]; exact k3
 have nAT:(("text":Str) == "at")=false:=beq_eq_false_iff_ne.mpr (by decide +kernel)
 have lt:env.cells.lookup ("text":Str)=some (s.heap.objs.size+1):=by rw [ec,List.lookup_cons,nAT]; simp [List.lookup]
 have la':env.cells.lookup ("at":Str)=some (s.heap.objs.size+1+1):=by rw [ec,List.lookup_cons]; simp
 have ct:=hcell _ _ lt
 have ca:=hcell _ _ la'
 have kt:env.kindOf "text"=some .cell:=(ek _).trans (by decide +kernel)
 have ka:env.kindOf "at"=some .cell:=(ek _).trans (by decide +kernel)
 have bt:bindC env.kindOf ((([("text":Str)]:List Str)).zip [Value.str ⟨text.toArray⟩ t0]) (fun _=>none) "text"=some (.str ⟨text.toArray⟩ t0):=by
  show bindC _ [(("text":Str),_)] _ _=_
  unfold bindC bindC
  rw [if_neg (by rw [kt]; simp)]; simp
 have ba:bindC env.kindOf ((([("text":Str)]:List Str)).zip [Value.str ⟨text.toArray⟩ t0]) (fun _=>none) "at"=none:=by
  show bindC _ [(("text":Str),_)] _ _=_
  unfold bindC bindC
  rw [if_neg (by rw [kt]; simp)]
  show (if _ then _ else _)=_
  rw [if_neg (by decide +kernel)]
 rw [bt] at ct
 rw [ba] at ca
 have D1:=D.addL keep [(s.heap.objs.size+1+1,CellO none),(s.heap.objs.size+1,CellO (some (.str ⟨text.toArray⟩ t0))),(env.locals,NsO _)]
  (fun p hp=>by
   simp only [List.mem_cons,List.not_mem_nil,or_false] at hp
   rcases hp with rfl | rfl | rfl <;> exact Heap.get?_none_of_le (by simp only [el]; (first | exact Ze37 | exact Ze38 | exact Ze39)))
  (fun p hp=>by
   simp only [List.mem_cons,List.not_mem_nil,or_false] at hp
   rcases hp with rfl | rfl | rfl
   ·exact ca
   ·exact ct
   ·exact NsO.of hns)
  (by rw [el]; simp; exact Nat.ne_of_gt (Nat.lt_trans (Nat.lt_succ_self _) (Nat.lt_succ_self _)))
 have ctO:s.heap.objs.size+1∉O:=D.freshO hO (Heap.get?_none_of_le (by exact Ze38))
 have caO:s.heap.objs.size+1+1∉O:=D.freshO hO (Heap.get?_none_of_le (by exact Ze37))
 have dlO:env.locals∉O:=D.freshO hO (Heap.get?_none_of_le (by rw [el]; exact Nat.le_refl _))
 generalize s.heap.objs.size+1+1=caA at D1 ec la' caO
 generalize s.heap.objs.size+1=ctA at D1 ec lt ctO
 refine ⟨B.nolim.keeps fun b o e=>keep b o (hbase b o e),codeAny_func ?_⟩
 cases hbd with
 | mk rbody rsc lsc kk1 kk2 p0 p1 p2 p3 p4 p5 p6 p7 p8 p9 p10 p11 p12 p13 p14 p15 e1 e2 he1 he2 he3 he4=>
 -- at=[0]
 refine wpAny_execs_cons (wpAny_Assign_Name (wpAny_List_spliced (Calls.spliced_cons (wpAny_Constant_int (k:=kk1) (pos:=p1) (Calls.spliced_nil ⟨by show 1≤sizeLine; decide,?_⟩)))))
 have D2:=D1.push { cls:=.type "list",data:=.seq [Value.int 0 tk].toArray } (p:=ListO [.int 0 tk]) rfl ⟨_,rfl⟩
 obtain ⟨oc,goc,poc⟩:=D2.get 1 rfl
 refine wpAny_storeName_cell hkind ka la' ⟨oc,goc,poc⟩ fun h2 hc2 hs2=>?_
 obtain ⟨oc2,goc2,poc2⟩:=hc2
 have D3:=D2.turn 1 (p':=CellO (some (.ref h'.objs.size))) rfl caO (fun b o n e=>(hs2.2 b n).trans e) goc2 poc2
 have laO:h'.objs.size∉O:=D1.freshO hO (YN _)
 generalize h'.objs.size=laA at D3 laO
 -- def _law_read_on
 have hq:qualnameIn env "_law_read_on" "_law_read_on"=Yq:=by
  unfold qualnameIn
  rw [ek,if_neg (by decide +kernel),eq']
  decide +kernel
 refine wpAny_execs_cons (W.nestDef_K rfl rfl rfl ?_)
 rw [hq]
 refine YSK F hb D3 ?_ he1 he2 eco eg (YOh F.rdsc ec) fun rf c1 doc pm ctv h3 tk3 ps3 D4 hp4 hOc=>?_
 ·rcases hp with ⟨rfl,rfl⟩ | ⟨c1,c2,rfl,g1,g2,g3⟩
  ·exact .inl ⟨rfl,rfl⟩
  ·refine .inr ⟨c1,c2,rfl,g1,fun q hq=>?_,?_⟩
   ·simp only [List.mem_cons,List.not_mem_nil,or_false,List.set_cons_succ,List.set_cons_zero,List.append_nil,List.cons_append,List.nil_append] at hq
    rcases hq with rfl | rfl | rfl | rfl
    ·exact fun e=>laO (by have e:laA=c1:=e; rw [e,g1]; exact List.mem_singleton.mpr rfl)
    ·exact fun e=>caO (by have e:caA=c1:=e; rw [e,g1]; exact List.mem_singleton.mpr rfl)
    ·exact fun e=>ctO (by have e:ctA=c1:=e; rw [e,g1]; exact List.mem_singleton.mpr rfl)
    ·exact fun e=>dlO (by have e:env.locals=c1:=e; rw [e,g1]; exact List.mem_singleton.mpr rfl)
   ·obtain ⟨c3,oc3,vs3,t3,e3,ho3,z3⟩:=g3
    cases e3
    exact ⟨c1,oc3,vs3,t3,rfl,D3.keep _ _ ho3 g2,z3⟩
 have kr:env.kindOf "_law_read_on"=some .local:=(ek _).trans (by decide +kernel)
 have ks:env.kindOf "stream"=some .local:=(ek _).trans (by decide +kernel)
 have hp2:(env.scope.kind==.class||(env.scope.kind==.module&&env.locals != env.globals))=false:=by rw [hkind]; rfl
 refine wpAny_storeName_local kr (NsO.ns (D4.get 5 rfl)) (fun h4 hn4 hs4=>?_) hp2
 obtain ⟨o4,go4,po4⟩:=NsO.of hn4
 have D5:=D4.turn 5 rfl dlO (fun b o n e=>(hs4.2 b n).trans e) go4 po4
 -- stream=lambda: None
 refine wpAny_execs_cons (wpAny_Assign_Name (W.kla_eval rfl (YQw F hb D5 hp4 he3 he4 eco eg (YLG hls) fun sf fd2 h5 tk5 c2 D6 hne hnn=>?_)))
 have sfO:sf∉O:=D5.freshO hO hnn
 refine wpAny_storeName_local ks (NsO.ns (D6.get 6 rfl)) (fun h6 hn6 hs6=>?_) hp2
 obtain ⟨o6,go6,po6⟩:=NsO.of hn6
 have D7:=D6.turn 6 rfl dlO (fun b o n e=>(hs6.2 b n).trans e) go6 po6
 -- stream.read=_law_read_on
 have m1:(("_law_read_on":Str) = "stream")=False:=eq_false (by decide +kernel)
 refine wpAny_execs_cons (plainObj_wpAny_Assign_Attribute (YAO hkind kr (NsO.ns (D7.get 6 rfl)) (v:=.ref rf) (by simp only [m1,if_false,if_true]) (by decide +kernel)
  (YAO hkind ks (NsO.ns (D7.get 6 rfl)) (v:=.ref sf) (by simp only [if_true]) (by decide +kernel) ?_)))
 obtain ⟨osf,gsf,rfl⟩:=D7.get 0 rfl
 refine YIC gsf fun h8 od8 tk8 g8 g8d p8d k8=>?_
 have D8:=(D7.turn 0 (p':=fun o=>o={ cls:=.type "function",dict:=some h6.objs.size,data:=.func fd2 }) rfl sfO k8 g8 rfl).addX D7 rfl (YN _) g8d p8d
 -- return _netrclex(stream)
 obtain ⟨mg,hg,hn,-⟩:=F.glob
 have kx:env.kindOf "_netrclex"=some .globalImplicit:=(ek _).trans (by decide +kernel)
 have hb8:=YAW hb hole D8
 have X8:K.In h8:=C.here.keeps hb8
 refine wpAny_execs_cons (wpAny_Return_some (wpAny_Call_NameR (Calls.Name_function_global hkind kx (Calls.loadGlobal_global (by rw [eg]; exact hg.keeps hb8) hn ?_) (by decide +kernel))))
 refine W.callWith_of (P:=K.In) rfl (W.keeps_K F.keep) (Calls.evalArgs_plain (Calls.spliced_cons (YAO (x := "stream") (pos:=p13) hkind ks (NsO.ns (D8.get 7 rfl)) (v:=.ref sf) (by simp only [if_true]) (by decide +kernel) (Calls.spliced_nil ⟨X8,?_⟩))))
 refine wpAny_call (YHs B C F hb hO D8 ((hA.deeper env).less (by exact Ze40)) fun h9 tk9 t1 t2 p df pf x dx D9=>?_)
 exact h h9 tk9 c2 df env.locals pf _ ⟨x,dx,sf,h6.objs.size,rf,ctA,caA,laA,c1,p,t1,t2,t0,tk,fd2,doc,pm,ctv,#[],0,0⟩ D9 hOc
end
section
variable {prog:Program} {w:World} {rd:YE} {H₀:Heap} {K:Frag}
theorem YPl {α:Type} {l r:List α} (hn:l.Nodup) (is:List Nat) (hi:is.Nodup) (h:r.map some=is.map fun i=>l[i]?):r.Nodup:=by
 refine List.Pairwise.of_map (S:=(·≠·)) some (fun a b q e=>q (congrArg some e)) ?_
 rw [h]
 refine List.pairwise_map.mpr (List.Pairwise.imp_of_mem (fun {i j} hi hj q e=>?_) hi)
 have:l[i]?∈r.map some:=h▸List.mem_map_of_mem hi
 obtain ⟨a,_,ha⟩:=List.mem_map.mp this
 exact YEq hn ha.symm (e▸ha.symm) q rfl
theorem HS.grow {μ:Own} {σ os:List AO} {h h':Heap} {n:Nat} {l:List Addr} {o':AO} {ls:List (List Addr)} (H:HS rd H₀ μ σ h) (hμ:μ.os[n]?=some l) (hnew:∀ a∈ls.flatten,h.get? a=none) (hnd:ls.flatten.Nodup) (keep:∀ a o,h.get? a=some o→a∉l→h'.get? a=some o)
  (alive:∀ a,h'.get? a=none→h.get? a=none) (live:∀ a∈ls.flatten,∃ o,h'.get? a=some o) (len:os.length=ls.length) (old:AOR rd (μ.add ls) h' o' l) (new:∀ (i:Nat) (o:AO) (l:List Addr),os[i]?=some o→ls[i]?=some l→AOR rd (μ.add ls) h' o l):HS rd H₀ (μ.add ls) (σ.set n o'++os) h' where
 base a o e:=keep a o (H.base a o e) fun q=>by rw [H.new a (Own.os_all (YAC hμ q))] at e; cases e
 new a ha:=((Own.all_add ..).mp ha).elim (H.new a) fun ha=>by
  cases q:H₀.get? a with
  | none=>rfl
  | some o=>have:=H.base a o q; rw [hnew a ha] at this; cases this
 live a ha:=((Own.all_add ..).mp ha).elim (fun ha=>by
  obtain ⟨o,e⟩:=H.live a ha
  cases q:h'.get? a with
  | none=>rw [alive a q] at e; cases e
  | some o'=>exact ⟨o',rfl⟩) (live a)
 nodup:=by
  show (μ.pv++(μ.os++ls).flatten).Nodup
  rw [List.flatten_append,←List.append_assoc,List.nodup_append]
  refine ⟨H.nodup,hnd,fun a ha b hb e=>?_⟩
  obtain ⟨o,z⟩:=H.live a ha
  rw [e,hnew b hb] at z; cases z
 len:=by rw [List.length_append,List.length_set,H.len,len]; exact (List.length_append ..).symm
 objs m o k g1 g2:=by
  have g2:(μ.os++ls)[m]?=some k:=g2
  by_cases hm:m<μ.os.length
  ·rw [List.getElem?_append_left (by rw [List.length_set,H.len]; exact hm)] at g1
   rw [List.getElem?_append_left hm] at g2
   by_cases hz:n=m
   ·subst hz
    rw [List.getElem?_set_self (by rw [H.len]; exact hm)] at g1
    obtain rfl:=Option.some.inj g1
    obtain rfl:=Option.some.inj (hμ.symm.trans g2)
    exact old
   ·rw [List.getElem?_set_ne hz] at g1
    exact (H.objs m o k g1 g2).keep (X:=[]) ⟨_,rfl,hnew⟩ (fun a o e hn _=>keep a o e fun q=>hn (YAC hμ q)) (fun _ q=>(nomatch q)) fun a ha ob e=>keep a ob e fun q=>YBw H.ndos hμ g2 hz q ha
  ·have hm:=Nat.not_lt.mp hm
   rw [List.getElem?_append_right (by rw [List.length_set,H.len]; exact hm),List.length_set,H.len] at g1
   rw [List.getElem?_append_right hm] at g2
   exact new _ _ _ g1 g2
theorem YFI {s:Shared} {μ:Own} {σ:List AO} {text:List Nat} {full:Bool} {O:List Addr} (H:HS rd H₀ μ σ s.heap) (h0:σ[0]?=some (.codes full)) {h':Heap} {tk:Nat} {c2 df dl:Addr} {pf pl:Obj→Prop} {d:LexR}
  (D:Led s.heap 107 O (tab2 d.c c2) (lexLed rd text d df dl pf pl) h') (hO:∀ a∈O,a=d.c) (hc:d.c∈O→d.c∉μ.all):
  Ev [] μ s (μ.add [[d.p],d.l]) { s with heap:=h',toks:=tk }∧HS rd H₀ (μ.add [[d.p],d.l]) (σ.set 0 (.codes true)++[.list [],.lexer text 0 1 σ.length]) h' ∧
   RV (μ.add [[d.p],d.l]) h' (.loc (σ.length+1)) (.ref d.x):=by
 obtain ⟨l0,hμ0,hl0,hcodes⟩:=H.own_some h0
 subst hl0
 have mem:∀ a∈([[d.p],d.l]:List (List Addr)).flatten,∃ i,i≠7∧∃ q,(lexLed rd text d df dl pf pl)[i]?=some (a,q):=
  have c:∀ (i:Nat) {a:Addr} {q:Obj→Prop} {l:List Addr},i≠7→(lexLed rd text d df dl pf pl)[i]?=some (a,q)→(∀ b∈l,∃ i,i≠7∧∃ q,(lexLed rd text d df dl pf pl)[i]?=some (b,q))→∀ b∈a::l,∃ i,i≠7∧∃ q,(lexLed rd text d df dl pf pl)[i]?=some (b,q):=fun i {a q l} h1 h2 h3=>List.forall_mem_cons.mpr ⟨⟨i,h1,q,h2⟩,h3⟩
  c 0 (by decide) rfl (c 2 (by decide) rfl (c 3 (by decide) rfl (c 5 (by decide) rfl (c 4 (by decide) rfl (c 6 (by decide) rfl (c 10 (by decide) rfl (c 9 (by decide) rfl (c 8 (by decide) rfl fun _ q=>nomatch q))))))))
 have hnew:∀ a∈([[d.p],d.l]:List (List Addr)).flatten,s.heap.get? a=none:=fun a ha=>by
  obtain ⟨i,hi,q,e⟩:=mem a ha
  exact (D.new _ (List.mem_of_getElem? e)).elim (fun z=>absurd (hO _ z) (D.apart e (j:=7) rfl hi)) id
 have keepO:∀ a o,s.heap.get? a=some o→a∉[107]→h'.get? a=some o:=fun a o e q=>D.keep a o e fun z=>q (List.mem_singleton.mpr z)
 have alive:∀ a,h'.get? a=none→s.heap.get? a=none:=fun a e=>by
  cases z:s.heap.get? a with
  | none=>rfl
  | some o=>
   by_cases q:a=107
   ·rw [q,D.tab] at e; cases e
   ·rw [D.keep a o z q] at e; cases e
 have hc1:d.c∉(μ.add [[d.p],d.l]).all:=fun z=>by
  rcases (Own.all_add ..).mp z with q | q
  ·by_cases z:d.c∈O
   ·exact hc z q
   ·refine (D.new _ (at_ 7 rfl)).elim z fun z'=>?_
    obtain ⟨o,e⟩:=H.live d.c q
    rw [z'] at e; cases e
  ·obtain ⟨i,hi,q,e⟩:=mem _ q
   exact D.apart e (j:=7) rfl hi rfl
 have hcr:h'.CodeRec (.ref d.c) Yq:=CodeO.rec_ (D.get 7 rfl)
 have at':∀ (i:Nat) {l:List Addr},[[d.p],d.l][i]?=some l→(μ.add [[d.p],d.l]).os[σ.length+i]?=some l:=fun i l e=>by
  show (μ.os++[[d.p],d.l])[σ.length+i]?=_
  rw [H.len,List.getElem?_append_right (Nat.le_add_right ..),Nat.add_sub_cancel_left]; exact e
 obtain ⟨op,gp,np,rfl⟩:=D.get 0 rfl
 obtain ⟨ox,gx,rfl⟩:=D.get 2 rfl
 obtain ⟨odx,gdx,es,ep,rfl,hk,hm',hsz⟩:=D.get 3 rfl
 obtain ⟨osd,gsd,es2,ep2,rfl,hk2,hm2,_⟩:=D.get 4 rfl
 obtain ⟨osf,gsf,rfl⟩:=D.get 5 rfl
 obtain ⟨orf,grf,rfl⟩:=D.get 6 rfl
 obtain ⟨ola,gla,nl,rfl⟩:=D.get 8 rfl
 refine ⟨⟨⟨_,_,rfl⟩,⟨_,rfl,hnew⟩,fun a o e hn _=>keepO a o e fun q=>hn (YAC hμ0 q),alive⟩,H.grow hμ0 hnew (YPl D.nd [0,2,3,5,4,6,10,9,8] (by decide) rfl) keepO alive (fun a ha=>?_) rfl ⟨rfl,d.c,c2,D.tab,hc1,hcr⟩ fun i o l e1 e2=>?_,.loc (at' 1 rfl)⟩
 ·obtain ⟨i,hi,q,e⟩:=mem a ha
  exact (D.get i e).imp fun _ z=>z.1
 ·rcases i with _ | _ | i
  ·obtain rfl:=Option.some.inj (show some (AO.list [])=some o from e1)
   obtain rfl:=Option.some.inj (show some [d.p]=some l from e2)
   exact ⟨d.p,[],rfl,⟨np,gp⟩,.nil⟩
  ·obtain rfl:=Option.some.inj (show some (AO.lexer text 0 1 σ.length)=some o from e1)
   obtain rfl:=Option.some.inj (show some d.l=some l from e2)
   exact ⟨{ d with es:=es2,n:=ep2,k:=nl },rfl,at' 0 rfl,hc1,⟨gx,⟨_,es,ep,gdx,rfl,hk,hm',Nat.le_trans hsz (by decide)⟩,gsf,gsd,⟨_,es2,ep2,gsd,rfl,hk2,hm2⟩,grf,hcr,D.get 10 rfl,D.get 9 rfl,gla⟩⟩
  ·exact nS e1
theorem YGQ {as:List AV} {σ:List AO} {r:AV×List AO} {G:Prop} (h:YAS as σ=some r) (k:∀ text b,as=[.str text]→text.length≤lim→σ[0]?=some (.codes b)→some (AV.loc (σ.length+1),σ.set 0 (AO.codes true)++[AO.list [],AO.lexer text 0 1 σ.length])=some r→G):G:=by
 cases as with
 | nil=>cases h
 | cons a t=>cases t with
  | cons _ _=>cases a <;> cases h
  | nil=>cases a with
   | str text=>
    replace h:(if text.length≤lim then (match (σ[0]?:Option AO) with
     | some (.codes _)=>some (AV.loc (σ.length+1),σ.set 0 (AO.codes true)++[AO.list [],AO.lexer text 0 1 σ.length])
     | _=>none) else none)=some r:=h
    by_cases hl:text.length≤lim
    ·rw [if_pos hl] at h
     cases h0:σ[0]? with
     | none=>rw [h0] at h; cases h
     | some o=>cases o with
      | codes b=>rw [h0] at h; exact k text b rfl hl h0 h
      | _=>rw [h0] at h; cases h
    ·rw [if_neg hl] at h; cases h
   | _=>cases h
theorem hlex (B:Base H₀) (C:Yo K H₀) (F:LexFn K H₀ rd):Yb prog w rd H₀ 112 YAS 6:=by
 intro A hA as σ v σ' he
 refine ⟨?_,fun s μ xs Q E H R h=>?_⟩
 ·obtain ⟨fd,body,lsc,hf,_⟩:=F.fn
  obtain ⟨o,a,b⟩:=hf.at_
  exact ⟨o,fd,a,b⟩
 ·refine YGQ he fun text full ha hl h0 hq=>?_
  clear he
  subst ha
  cases hq
  refine R.one_ fun xv r1=>r1.str_ fun t0=>?_
  obtain ⟨l0,hμ0,hl0,hcodes⟩:=H.own_some h0
  subst hl0
  have h107:(107:Addr)∈μ.all:=Own.os_all (YAC hμ0 (at_ 0 rfl))
  cases full with
  | false=>
   refine YDu (O:=[]) B C F H.base (fun _ q=>(nomatch q)) ⟨fun _ _ e _=>e,fun _ q=>(nomatch q),fun _ q=>(nomatch q),List.nodup_nil,fun _ q=>(nomatch q),hcodes⟩ (.inl ⟨rfl,rfl⟩) (hA.less (by decide)) fun h' tk c2 df dl pf pl d D' hOc=>?_
   obtain ⟨e,H',r⟩:=YFI (tk:=tk) H h0 D' hOc (fun q=>(nomatch q))
   exact h _ _ _ e H' r
  | true=>
   obtain ⟨c1,c2,g1,g2,g3⟩:=hcodes
   obtain ⟨c3,oc3,vs3,t3,e3,ho3,z3⟩:=id g3
   cases e3
   refine YDu (O:=[c1]) B C F H.base (fun c hc=>by rw [List.mem_singleton.mp hc]; exact ⟨_,ho3⟩) ⟨fun _ _ e _=>e,fun _ q=>(nomatch q),fun _ q=>(nomatch q),List.nodup_nil,fun _ q=>(nomatch q),g1⟩ (.inr ⟨c1,c2,rfl,rfl,fun q=>g2 (q▸h107),g3⟩) (hA.less (by decide)) fun h' tk c2' df dl pf pl d D' hOc=>?_
   obtain ⟨e,H',r⟩:=YFI (tk:=tk) H h0 D' hOc (fun q=>by rw [List.mem_singleton.mp q]; exact g2)
   exact h _ _ _ e H' r
end
end Mine
end
section
open PySem PySem.Spec PyProof.Rows
open PySem.W (Frag InstAt findIn hasDictIn isFn plainOver takerIn instObj methodObj fnMade fnX tabObj CodeHd makesIn typeIn nsIn TabsAt ghostOf)
namespace Mine
noncomputable def refIn (K:Frag) (x:Str) (a:Nat):Bool:=decide (nsIn K mainGlobals x=some (some (.ref a)))
noncomputable def asInt (v:Value):Option Int:=match v with
 | .int j _=>some j
 | _=>none
theorem YLU {v:Value} {i:Int} (h:asInt v=some i):∃ t,v=.int i t:=by
 cases v with
 | int j t=>cases h; exact ⟨_,rfl⟩
 | _=>cases h
noncomputable def intIn (K:Frag) (x:Str) (i:Int):Bool:=decide (((nsIn K mainGlobals x).bind fun v=>v.bind asInt)=some i)
noncomputable def freeIn (K:Frag) (x:Str):Bool:=decide (nsIn K mainGlobals x=some none)
noncomputable def asFn (d:Data):Option FuncData:=match d with
 | .func fd=>some fd
 | _=>none
theorem YNs {d:Data} {fd:FuncData} (h:asFn d=some fd):d=.func fd:=by
 cases d with
 | func _=>cases h; rfl
 | _=>cases h
noncomputable def fdOf (K:Frag) (a:Nat):Option FuncData:=(K.lookup a).bind fun o=>asFn o.data
noncomputable def stB (b:FuncBody):Option (List Stmt):=match b with
 | .stmts b=>some b
 | _=>none
theorem YTE {b:FuncBody} (h:(stB b).isSome=true):b=.stmts ((stB b).getD []):=by
 cases b with
 | stmts _=>rfl
 | _=>cases h
noncomputable def asRef (v:Value):Option Addr:=match v with
 | .ref c=>some c
 | _=>none
theorem YMW {v:Value} (h:(asRef v).isSome=true):v=.ref ((asRef v).getD 0):=by
 cases v with
 | ref _=>rfl
 | _=>cases h
noncomputable def bodyOf (fd:FuncData):List Stmt:=(stB fd.body).getD []
noncomputable def isStmts (fd:FuncData):Bool:=(stB fd.body).isSome
noncomputable def codeOf (fd:FuncData):Addr:=(asRef fd.code).getD 0
noncomputable def isCode (fd:FuncData):Bool:=(asRef fd.code).isSome
noncomputable def fnIsCk (K:Frag) (names:List Str) (scn:List (Str×NameKind)) (q:Str) (fd:FuncData):Bool:=
 isStmts fd&&fd.scope.names==scn&&fd.scope.kind==.function&&!fd.scope.isCoroutine&&!fd.scope.isGenerator&&fd.closure.isEmpty&&fd.globals==mainGlobals&&fd.builtins==builtinsNs&&fd.qualname==q&&isCode fd&&W.codeIn K fd.code fd.qualname&&parCk fd names
theorem YJk {K:Frag} {H₀:Heap} {a:Nat} {names:List Str} {scn:List (Str×NameKind)} {q:Str} {fd:FuncData} (X:K.In H₀) (h1:fdOf K a=some fd) (h2:fnIsCk K names scn q fd=true):FnIs H₀ a names (bodyOf fd) scn q (codeOf fd) fd:=by
 obtain ⟨o,ho,hd⟩:=Option.bind_eq_some_iff.mp h1
 have hd:=YNs hd
 unfold fnIsCk at h2
 simp only [Bool.and_eq_true,beq_iff_eq,Bool.not_eq_true',List.isEmpty_iff] at h2
 obtain ⟨⟨⟨⟨⟨⟨⟨⟨⟨⟨⟨g0,g1⟩,g2⟩,g3⟩,g4⟩,g5⟩,g6⟩,g7⟩,g8⟩,g9⟩,g10⟩,g11⟩:=h2
 have e1:fd.body=.stmts (bodyOf fd):=YTE g0
 have e2:fd.code=.ref (codeOf fd):=YMW g9
 refine ⟨⟨o,X _ _ ho,hd⟩,e1,g1,g2,g3,g4,g5,g6,g7,g8,e2,?_,g11⟩
 have:=W.codeRec_of X g10
 rw [e2,g8] at this
 exact this
set_option genInjectivity false in
structure KOk (K:Frag) (rd:YE):Prop where
 noTabs:W.noTabs K=true
 fns:fnNames.all (fun p=>refIn K p.1 p.2)=true
 nums:intNames.all (fun p=>intIn K p.1 p.2)=true
 free:(["len","range","list","min","max","sum","sorted","reversed","iter"]:List Str).all (fun x=>freeIn K x)=true
 law:refIn K "law" 159=true
 nx:refIn K "_netrclex" 87=true
 cls:∀ H,K.In H→Yo K H
 funs:Funs K
 lexfn:∃ fd lsc,fdOf K 112=some fd∧fnIsCk K ["text"] lexNames "_law_lexer" fd=true∧codeOf fd=111∧LexBody (bodyOf fd) rd lsc∧lsc.names=[]
 rdsc:rd.scope.names=rdNames
 rdok:RdOk rd
 code:W.codeHdIn K 111 107=true
 init:∃ fd,fdOf K 63=some fd∧fnIsCk K ["self","fp"] initNames "_netrclex.__init__" fd=true∧InitBody (bodyOf fd)
 makes:makesIn K 87=true
 keep:W.keepIn K (.ref 87)=true
 ini:findIn K (.ref 87) "__init__"=some (some (.ref 63))
 inif:typeIn K (.ref 63)=some (.type "function")
 t1:takerIn K 87 "instream"=some none
 t2:takerIn K 87 "whitespace"=some none
 t3:takerIn K 87 "pushback"=some none
theorem YHA {β:Type} {x:Str} {v:β}:∀ {l:List (Str×β)},l.lookup x=some v→(x,v)∈l
 | [],h=>by cases h
 | (y,u)::r,h=>by
  cases e:x==y with
  | true=>
   rw [List.lookup_cons,e] at h
   cases h; rw [beq_iff_eq.mp e]; exact List.mem_cons_self ..
  | false=>
   rw [List.lookup_cons,e] at h
   exact List.mem_cons_of_mem _ (YHA h)
theorem YRP:bootBuiltins "len"=some (.builtin "len"):=by kernel_rfl
theorem YLA:bootBuiltins "range"=some (.type "range"):=by kernel_rfl
theorem YOm:bootBuiltins "list"=some (.type "list"):=by kernel_rfl
theorem YSz:bootBuiltins "min"=some (.builtin "min"):=by kernel_rfl
theorem YRI:bootBuiltins "max"=some (.builtin "max"):=by kernel_rfl
theorem YRN:bootBuiltins "sum"=some (.builtin "sum"):=by kernel_rfl
theorem YIz:bootBuiltins "sorted"=some (.builtin "sorted"):=by kernel_rfl
theorem YGS:bootBuiltins "reversed"=some (.type "reversed"):=by kernel_rfl
theorem YNr:bootBuiltins "iter"=some (.builtin "iter"):=by kernel_rfl
section
variable {K:Frag} {h:Heap} {mg mb:Str→Option Value} {p:Program} {loose:List Str} {mean:ExcName→Option Value} {rd:YE}
theorem YHI (X:K.In h) (G:h.Ns mainGlobals mg) {x:Str} {a:Nat} (e:refIn K x a=true):mg x=some (.ref a):=W.mg_of X G (of_decide_eq_true e)
theorem YMH (X:K.In h) (G:h.Ns mainGlobals mg) {x:Str} {i:Int} (e:intIn K x i=true):∃ t,mg x=some (.int i t):=by
 obtain ⟨o,h1,h2⟩:=Option.bind_eq_some_iff.mp (of_decide_eq_true e)
 obtain ⟨v,rfl,h3⟩:=Option.bind_eq_some_iff.mp h2
 obtain ⟨t,rfl⟩:=YLU h3
 exact ⟨t,W.mg_of X G h1⟩
theorem YJm (X:K.In h) (G:h.Ns mainGlobals mg) {x:Str} (e:freeIn K x=true):mg x=none:=by
 have hb:=of_decide_eq_true e
 obtain ⟨o,es,ep,ho,hd,hk,hf⟩:=G
 unfold nsIn at hb
 cases q:K.lookup mainGlobals with
 | none=>rw [q] at hb; cases hb
 | some o'=>
  have:=X _ _ q
  rw [ho] at this
  cases this
  obtain ⟨c,d,dt,sl⟩:=o
  cases hd
  rw [q] at hb
  replace hb:(match es.toList.find? (·.key.isStr x) with
   | some e=>some (some e.val)
   | none=>if es.toList.any (·.refKey) then none else some none)=some (none:Option Value):=hb
  cases q1:es.toList.find? (·.key.isStr x) with
  | some e=>rw [q1] at hb; cases hb
  | none=>
   rw [←hf x]
   show (es.find? _).map _=none
   rw [←Array.find?_toList,q1]; rfl
theorem YOC (O:KOk K rd) (hT:TabsAt [(111,107)] h) (X:K.In h) (T:Top p loose mean mg mb h):Base (ghostOf h [(111,107)]):=by
 have T':=W.ghost_top hT T
 have X':=W.ghost_K hT X O.noTabs
 have free:∀ x∈(["len","range","list","min","max","sum","sorted","reversed","iter"]:List Str),mg x=none:=fun x hx=>YJm X' T'.g (List.all_eq_true.mp O.free x hx)
 refine ⟨T'.nolimit,⟨mg,T'.g,fun x f hx=>?_,fun x i hx=>?_,fun b=>?_,free _ (by simp),free _ (by simp)⟩,⟨mb,T'.b,fun b=>?_,?_,?_⟩⟩
 ·exact YHI X' T'.g (List.all_eq_true.mp O.fns (x,f) (YHA hx))
 ·exact YMH X' T'.g (List.all_eq_true.mp O.nums (x,i) (YHA hx))
 ·cases b <;> exact free _ (by simp [biName])
 ·cases b
  ·exact (T'.builtins _ (by decide +kernel)).trans YRP
  ·exact (T'.builtins _ (by decide +kernel)).trans YLA
  ·exact (T'.builtins _ (by decide +kernel)).trans YOm
  ·exact (T'.builtins _ (by decide +kernel)).trans YSz
  ·exact (T'.builtins _ (by decide +kernel)).trans YRI
  ·exact (T'.builtins _ (by decide +kernel)).trans YRN
  ·exact (T'.builtins _ (by decide +kernel)).trans YIz
 ·exact (T'.builtins _ (by decide +kernel)).trans YGS
 ·exact (T'.builtins _ (by decide +kernel)).trans YNr
theorem YLH (O:KOk K rd) (hT:TabsAt [(111,107)] h) (X:K.In h) (T:Top p loose mean mg mb h):LexFn K (ghostOf h [(111,107)]) rd:=by
 have T':=W.ghost_top hT T
 have X':=W.ghost_K hT X O.noTabs
 have hole:(ghostOf h [(111,107)]).get? 107=none:=W.hideAll_none _ (by simp)
 obtain ⟨fd,lsc,g1,g2,g3,g4,g5⟩:=O.lexfn
 obtain ⟨fd',i1,i2,i3⟩:=O.init
 have F1:=YJk X' g1 g2
 rw [g3] at F1
 obtain ⟨bm,ob,b1,b2,b3,b4,b5,b6⟩:=T'.bmain
 have hbG:bm≠mainGlobals:=fun q=>by
  obtain ⟨o,es,ep,e,hd,_⟩:=T'.g
  rw [q,e] at b3; cases b3; rw [hd] at b6; cases b6
 exact ⟨⟨fd,_,lsc,F1,g4,g5⟩,O.rdsc,W.codeHd_of_K X' O.code,hole,⟨mg,T'.g,YHI X' T'.g O.nx,bm,ob,b1,b2,hbG,b3,b4,b5,b6⟩,⟨fd',_,_,YJk X' i1 i2,i3⟩,O.makes,O.keep,O.ini,O.inif,O.t1,O.t2,O.t3⟩
end
noncomputable def lexD (K:Frag):LexD:=match fdOf K 112 with
 | some fd=>lexExt (bodyOf fd)
 | none=>⟨[],default,default,(0,0),[]⟩
noncomputable def rdOf (K:Frag):YE:=⟨rdParams ((lexD K).q 4),(lexD K).rbody,(lexD K).rsc⟩
noncomputable def initD (K:Frag):(Nat×Nat)×List Pos:=match fdOf K 63 with
 | some fd=>initExt (bodyOf fd)
 | none=>((0,0),[])
noncomputable def rdCk (rd:YE):Bool:=rd.scope.names==rdNames&&rd.scope.kind==.function&&!rd.scope.isCoroutine&&!rd.scope.isGenerator&&ckSs false YMD ⟨YGB,rd.scope.names⟩ rd.body
noncomputable def fnCk2 (K:Frag) (a:Nat) (ns:List Str) (sc:List (Str×NameKind)) (q:Str) (c:Nat):Bool:=match fdOf K a with
 | some fd=>fnIsCk K ns sc q fd&&codeOf fd==c
 | none=>false
noncomputable def lexfnCk (K:Frag):Bool:=fnCk2 K 112 ["text"] lexNames "_law_lexer" 111&&(lexD K).ok&&(lexD K).lsc.names.isEmpty&&rdCk (rdOf K)
theorem YTf {rd:YE} {p:Pos} (h:rdCk rd=true) (hp:rd.params=rdParams p):RdOk rd:=by
 unfold rdCk at h
 simp only [Bool.and_eq_true,beq_iff_eq,Bool.not_eq_true'] at h
 obtain ⟨⟨⟨⟨h1,h2⟩,h3⟩,h4⟩,h5⟩:=h
 refine ⟨h5,h2,h3,h4,fun x hx=>?_,fun x hx=>?_,?_,?_,?_,fun doc pm ctv v c' clos=>?_⟩
 ·rw [h1] at hx
  simp only [rdNames,List.mem_cons,List.not_mem_nil,or_false] at hx
  rcases hx with rfl | rfl | rfl | rfl | rfl <;> simp
 ·rw [h1] at hx
  have:=YHA hx
  simp only [rdNames,List.mem_cons,List.not_mem_nil,or_false,Prod.mk.injEq,reduceCtorEq,and_false,false_or,and_true] at this
  rcases this with q | q
  ·exact .inr q
  ·exact .inl q
 ·rw [h1]; decide +kernel
 ·rw [h1]; decide +kernel
 ·rw [h1]; decide +kernel
 ·exact YEu (fd:=fnX "_law_read_on" Yq rd.params rd.body rd.scope clos .none .none doc pm none (.ref c') ctv) (names:=["size"]) (by rw [hp]; kernel_rfl) [v] rfl
theorem YHc {K:Frag} {a:Nat} {ns:List Str} {sc:List (Str×NameKind)} {q:Str} {c:Nat} (h:fnCk2 K a ns sc q c=true):∃ fd,fdOf K a=some fd∧fnIsCk K ns sc q fd=true∧codeOf fd=c:=by
 unfold fnCk2 at h
 cases e:fdOf K a with
 | none=>rw [e] at h; cases h
 | some fd=>
  rw [e] at h
  have h:(fnIsCk K ns sc q fd&&codeOf fd==c)=true:=h
  rw [Bool.and_eq_true] at h
  exact ⟨fd,rfl,h.1,eq_of_beq h.2⟩
theorem YLb {K:Frag} (h:lexfnCk K=true) (hb:(fdOf K 112).map bodyOf=some (lexMk (lexD K))):(∃ fd lsc,fdOf K 112=some fd∧fnIsCk K ["text"] lexNames "_law_lexer" fd=true∧codeOf fd=111∧LexBody (bodyOf fd) (rdOf K) lsc∧lsc.names=[])∧(rdOf K).scope.names=rdNames∧RdOk (rdOf K):=by
 unfold lexfnCk at h
 simp only [Bool.and_eq_true,List.isEmpty_iff] at h
 obtain ⟨⟨⟨h1,h2⟩,h3⟩,h4⟩:=h
 obtain ⟨fd,f1,f2,f3⟩:=YHc h1
 rw [f1] at hb
 have hb:bodyOf fd=lexMk (lexD K):=Option.some.inj hb
 refine ⟨⟨fd,(lexD K).lsc,f1,f2,f3,hb▸YLQ h2,h3⟩,?_,YTf h4 rfl⟩
 unfold rdCk at h4
 simp only [Bool.and_eq_true,beq_iff_eq] at h4
 exact h4.1.1.1.1
theorem YOs {K:Frag} {c:Nat} (h:fnCk2 K 63 ["self","fp"] initNames "_netrclex.__init__" c=true) (hb:(fdOf K 63).map bodyOf=some (initMk (initD K).1 (initD K).2)):∃ fd,fdOf K 63=some fd∧fnIsCk K ["self","fp"] initNames "_netrclex.__init__" fd=true∧InitBody (bodyOf fd):=by
 obtain ⟨fd,f1,f2,_⟩:=YHc h
 rw [f1] at hb
 have hb:bodyOf fd=initMk (initD K).1 (initD K).2:=Option.some.inj hb
 exact ⟨fd,f1,f2,hb▸YJf _ _⟩
end Mine
end
section
open PySem PySem.Spec PyProof.Rows
open PySem.W (Frag findIn hasDictIn isFn plainOver takerIn makesIn typeIn nsIn tabObj)
namespace Mine
noncomputable def prg:Program:=PySem.Challenge.pw_pg0187_01
noncomputable def viewP:Program:={ prg with main:={ prg.main with body:=([1,2,3,4,5,7,9,10,11,12,13,15,16,17,18,19,20,21,22,23,24]:List Nat).filterMap fun i=>prg.main.body[i]? } }
noncomputable def addrs:List Addr:=[2,3,15,17,18,20,21,22,24,25,27,28,29,31,32,34,35,36,38,39,41,42,43,45,46,48,49,57,59,60,62,63,64,66,67,69,70,71,73,74,76,77,78,80,81,83,84,85,86,87,88,89,92,94,95,97,98,99,101,102,104,105,106,108,109,111,112,113,116,117,118,121,122,123,126,127,128,131,132,133,135,136,138,139,140,143,144,145,148,149,150,153,154,155,158,159]
noncomputable def fragL (h:Heap):List Addr→Frag
 | []=>[]
 | a::r=>match h.get? a with
  | some o=>(a,o)::fragL h r
  | none=>fragL h r
theorem YEQ (h:Heap):∀ l,(fragL h l).In h
 | [],_,_,e=>nomatch e
 | b::r,a,o,e=>by
  unfold fragL at e
  cases hb:h.get? b with
  | none=>rw [hb] at e; exact YEQ h r a o e
  | some o'=>
   rw [hb] at e
   have e:List.lookup a ((b,o')::fragL h r)=some o:=e
   rw [List.lookup_cons] at e
   cases q:a==b with
   | true=>rw [q] at e; rw [eq_of_beq q,hb]; exact e
   | false=>rw [q] at e; exact YEQ h r a o e
noncomputable def defBody (i:Nat):List Stmt:=match prg.main.body[i]? with
 | some (.FunctionDef _ _ b _ _ _ _ _ _ _)=>b
 | _=>[]
noncomputable def initBody:List Stmt:=match prg.main.body[7]? with
 | some (Stmt.ClassDef _ _ _ (Stmt.FunctionDef _ _ b _ _ _ _ _ _ _::_) _ _ _ _ _ _ _)=>b
 | _=>[]
noncomputable def boolsK (K:Frag):List Bool:=[W.noTabs K,fnNames.all (fun p=>refIn K p.1 p.2),intNames.all (fun p=>intIn K p.1 p.2),(["len","range","list","min","max","sum","sorted","reversed","iter"]:List Str).all (fun x=>freeIn K x),refIn K "law" 159,refIn K "_netrclex" 87,
 fnCk K 42 3 YDM YBm,fnCk K 49 2 YFc YCw,fnCk K 21 1 YDt YCE,fnCk K 28 2 YBS YAa,fnCk K 35 1 YDf YCL,fnCk K 70 1 YCQ YAX,fnCk K 77 1 YCY YAL,fnCk K 84 2 YBq YAj,
 fnCk K 98 2 YAM Yr,fnCk K 105 3 Yw Yj,fnCk K 117 1 YCv YBe,fnCk K 122 2 YBV YAb,fnCk K 127 1 YCP YAY,fnCk K 132 1 YCS YAK,
 fnCk K 139 2 YDx YBR,fnCk K 144 1 YCV YAI,fnCk K 149 1 YAz Yv,fnCk K 154 1 YDO YAk,fnCk K 159 1 YNJ YHW,
 hasDictIn K 87,isFn K (.ref 70),isFn K (.ref 77),isFn K (.ref 84),plainOver K 87,lexfnCk K,W.codeHdIn K 111 107,fnCk2 K 63 ["self","fp"] initNames "_netrclex.__init__" 62,makesIn K 87,W.keepIn K (.ref 87)]
noncomputable def optsK (K:Frag):List (Option (Option Value)):=[findIn K (.ref 87) "__getattribute__",findIn K (.ref 87) "__getattr__",findIn K (.ref 87) "pushback",findIn K (.ref 87) "lineno",findIn K (.ref 87) "whitespace",findIn K (.ref 87) "instream",findIn K (.ref 87) "_read_char",
 W.specialIn K (.ref 70) "__get__",findIn K (.ref 87) "get_token",findIn K (.ref 87) "push_token",findIn K (.ref 87) "__setattr__",takerIn K 87 "lineno",findIn K (.ref 87) "__init__",takerIn K 87 "instream",takerIn K 87 "whitespace",takerIn K 87 "pushback"]
noncomputable def optsV:List (Option (Option Value)):=[some (some (.builtin "object.__getattribute__")),some none,some none,some none,some none,some none,some (some (.ref 70)),
 some (some (.builtin "function.__get__")),some (some (.ref 77)),some (some (.ref 84)),some (some (.builtin "object.__setattr__")),some none,some (some (.ref 63)),some none,some none,some none]
noncomputable def obsK (K:Frag):List Bool×List (Option (Option Value))×Option Value×Option Bool×Option (List Stmt)×Option (List Stmt):=(boolsK K,optsK K,typeIn K (.ref 63),W.takesIn K (.ref 70),(fdOf K 112).map bodyOf,(fdOf K 63).map bodyOf)
noncomputable def obsV:List Bool×List (Option (Option Value))×Option Value×Option Bool×Option (List Stmt)×Option (List Stmt):=(List.replicate 35 true,optsV,some (.type "function"),some false,some (defBody 15),some initBody)
noncomputable def hookM:W.Hook where
 α:=(List Bool×List (Option (Option Value))×Option Value×Option Bool×Option (List Stmt)×Option (List Stmt))×Option Obj
 obs s:=(obsK (fragL s.heap addrs),s.heap.get? 107)
 val _:=(obsV,some (tabObj #[]))
 says _ h:=∃ K:Frag,K.In h∧obsK K=obsV∧h.get? 107=some (tabObj #[])
 of _ s x:=⟨_,YEQ s.heap addrs,(Prod.mk.inj x).1,(Prod.mk.inj x).2⟩
 keeps _ _ _ x k:=x.elim fun K x=>⟨K,fun a o e=>k a o (x.1 a o e),x.2.1,k _ _ x.2.2⟩
theorem YTk:W.LeftO prg viewP [] (fun s=>W.xlAt viewP [] s&&W.recOk [] s) hookM.obs hookM.val 1908:=fun w=>by kernel_rfl
theorem YPu:defBody 15=lexMk (lexExt (defBody 15)):=by kernel_rfl
theorem YLa:initBody=initMk (initExt initBody).1 (initExt initBody).2:=by kernel_rfl
theorem kOk {K:Frag} (h:obsK K=obsV):KOk K (rdOf K):=by
 have e:∀ k,(boolsK K).getD k true=true:=fun k=>by
  rw [show boolsK K=List.replicate 35 true from congrArg (·.1) h]
  simp only [List.getD,List.getElem?_replicate]
  split <;> rfl
 have e2:∀ k,(optsK K).getD k none=optsV.getD k none:=fun k=>by rw [show optsK K=optsV from congrArg (·.2.1) h]
 have b1:(fdOf K 112).map bodyOf=some (defBody 15):=congrArg (·.2.2.2.2.1) h
 have b2:(fdOf K 63).map bodyOf=some initBody:=congrArg (·.2.2.2.2.2) h
 have d1:lexD K=lexExt (defBody 15):=by
  unfold lexD
  cases q:fdOf K 112 with
  | none=>rw [q] at b1; cases b1
  | some fd=>rw [q] at b1; exact congrArg lexExt (Option.some.inj b1)
 have d2:initD K=initExt initBody:=by
  unfold initD
  cases q:fdOf K 63 with
  | none=>rw [q] at b2; cases b2
  | some fd=>rw [q] at b2; exact congrArg initExt (Option.some.inj b2)
 have L:=YLb (e 30) (by rw [d1,←YPu]; exact b1)
 exact {
  noTabs:=e 0
  fns:=e 1
  nums:=e 2
  free:=e 3
  law:=e 4
  nx:=e 5
  cls:=fun H X=>{
   here:=X
   ga:=e2 0
   gat:=e2 1
   dict:=e 25
   pushb:=e2 2
   lineno:=e2 3
   white:=e2 4
   instr:=e2 5
   m70:=⟨e2 6,e 26⟩
   get70:=⟨e2 7,congrArg (·.2.2.2.1) h⟩
   m77:=⟨e2 8,e 27⟩
   m84:=⟨e2 9,e 28⟩
   sa:=e2 10
   over:=e 29
   taker:=e2 11 }
  funs:={
   siftdown:=e 6
   siftup:=e 7
   heappop:=e 8
   heapreplace:=e 9
   heapify:=e 10
   read_char:=e 11
   get_token:=e 12
   push_token:=e 13
   subst:=e 14
   lev:=e 15
   word:=e 16
   dressed:=e 17
   posts:=e 18
   parts:=e 19
   sub:=e 20
   table:=e 21
   farthest:=e 22
   best:=e 23
   law:=e 24 }
  lexfn:=L.1
  rdsc:=L.2.1
  rdok:=L.2.2
  code:=e 31
  init:=YOs (e 32) (by rw [d2,←YLa]; exact b2)
  makes:=e 33
  keep:=e 34
  ini:=e2 12
  inif:=congrArg (·.2.2.1) h
  t1:=e2 13
  t2:=e2 14
  t3:=e2 15 }
end Mine
end
section
open PySem PySem.Spec PyProof.Rows
open PySem.W (Frag InstAt findIn hasDictIn isFn plainOver takerIn instObj methodObj fnMade fnX tabObj CodeHd makesIn typeIn nsIn TabsAt ghostOf)
namespace Mine
theorem YGF:Fits callerA 10:=⟨rfl,by decide +kernel,by decide +kernel⟩
section
variable {prog:Program} {w:World} {K:Frag} {s₁:Shared} {mg mb:Str→Option Value} {p:Program} {loose:List Str} {mean:ExcName→Option Value} {rd:YE}
theorem YKh {μ:Own} {h:Heap}:∀ {vs:List Value} {ns:List Int},IntsAre vs ns→RVs μ h (ns.map .int) vs
 | _,_,.nil=>.nil
 | _,_,.cons n t r=>.cons (.int n t) (YKh r)
theorem YUN {l:Addr} {vs:List Value} {nums:List Int} {n:Nat} {R:Result→Shared→Prop} (O:KOk K rd) (hT:TabsAt [(111,107)] s₁.heap) (X:K.In s₁.heap) (T:Top p loose mean mg mb s₁.heap)
  (hl:s₁.heap.get? l=some (seqObj "list" vs.toArray n)) (hI:IntsAre vs nums) (hF:YPD [.lst (nums.map .int)] [.codes false]=some (.bool true,[.codes true]))
  (hR:∀ s',(∀ b o,(ghostOf s₁.heap [(111,107)]).get? b=some o→s'.heap.get? b=some o)→s'.os=s₁.os→s'.gens=s₁.gens→W.GrownAll [(111,107)] s'.heap→R (.ok (.ret (.bool true))) s'):
  codeAny (model prog w) callerA (.call (.ref 159) ⟨[.ref l],[]⟩) R s₁:=by
 have X':=W.ghost_K hT X O.noTabs
 have B:=YOC O hT X T
 have LF:=YLH O hT X T
 have LC:=O.cls _ X'
 have good:=YMB (prog:=prog) (w:=w) B O.rdok LC O.funs (hlex B LC LF)
 have h107:=(hT (111,107) (by simp)).2
 have H:HS rd (ghostOf s₁.heap [(111,107)]) ⟨[],[[107]]⟩ [.codes false] s₁.heap:=by
  refine ⟨fun a o e=>W.of_hideAll _ e,fun a ha=>?_,fun a ha=>?_,by simp [Own.all],rfl,fun m o l' e1 e2=>?_⟩
  ·have:a=107:=by simpa [Own.all] using ha
   rw [this]; exact W.hideAll_none _ (by simp)
  ·have:a=107:=by simpa [Own.all] using ha
   rw [this]; exact ⟨_,h107⟩
  ·cases m with
   | zero=>
    simp at e1 e2
    subst e1 e2
    exact ⟨rfl,h107⟩
   | succ m=>simp at e1
 have hne:l≠107:=fun q=>by rw [q,h107] at hl; cases hl
 have r:RVs ⟨[],[[107]]⟩ s₁.heap [.lst (nums.map .int)] [.ref l]:=.cons (.lst ⟨n,hl⟩ (by simpa [Own.all] using hne) (YKh hI)) .nil
 obtain ⟨-,g⟩:=good callerA YGF _ _ _ _ hF
 refine codeAny_mono (g s₁ ⟨[],[[107]]⟩ [.ref l] (fun v s'=>v=.bool true∧R (.ok (.ret (.bool true))) s') (fun _ _=>False) H r fun μ' s' rv ev H' R'=>?_) fun r s' h=>?_
 ·cases R'
  refine ⟨rfl,hR s' H'.base ?_ ?_ ?_⟩
  ·obtain ⟨⟨h,tk,rfl⟩,_⟩:=ev; rfl
  ·obtain ⟨⟨h,tk,rfl⟩,_⟩:=ev; rfl
  ·obtain ⟨l',hμ,hl',hc⟩:=H'.own_some (n:=0) (o:=.codes true) rfl
   obtain ⟨c1,c2,hg,_⟩:=hc
   exact ⟨⟨_,hg⟩,trivial⟩
 ·rcases r with e | (v | _ | _ | _)
  ·exact h.elim
  ·exact h.elim
  ·exact h.elim
  ·exact h.elim
  ·obtain ⟨rfl,h⟩:=h; exact h
end
end Mine
end
section
open PySem PySem.W PyProof.Rows
noncomputable def Mine.lawDef:DefRec×List (Str×PySem.Expr):=(defOf Mine.viewP "law").getD (⟨"",⟨[],[],none,[],[],none,[]⟩,[],default,default⟩,[])
theorem Mine.lawDef_ok:defOf Mine.viewP "law"=some (Mine.lawDef.1,Mine.lawDef.2):=by kernel_rfl
theorem Mine.lawDef_the:Mine.prg.theDef "law"=some (Mine.lawDef.1.params,Mine.lawDef.1.body,Mine.lawDef.1.scope):=by kernel_rfl
theorem Mine.lawDef_kw:kwWritten? Mine.lawDef.1.params.kwonlyargs Mine.lawDef.1.params.kw_defaults=some Mine.lawDef.2:=by kernel_rfl
theorem Mine.law_said:PySem.Challenge.rw_pg0187_01.wellSaid=true:=by kernel_rfl
theorem Mine.law_opens:(chainsOk Mine.viewP&&opensWell PySem.Challenge.rw_pg0187_01.row.prog&&(frees PySem.Challenge.rw_pg0187_01.row.toRowW&&PySem.Challenge.rw_pg0187_01.row.within.isEmpty))=true:=by kernel_rfl
set_option maxHeartbeats 8000000 in
theorem Mine.top_of (hF:∀ ns:List Int,ns.length≤63→Mine.YPD [.lst (ns.map .int)] [.codes false]=some (.bool true,[.codes true])):PySem.Challenge.rw_pg0187_01.Holds:=by
 w_on
 refine holds_law Mine.law_said fun said=>?_
 refine W.holds_open (q:=Mine.viewP) (loose:=[]) (Xt:=fun s=>xlAt Mine.viewP [] s&&recOk [] s) (XP:=XL Mine.viewP []) (Yf:=Mine.hookM.obs) (Ya:=Mine.hookM.val) (YP:=Mine.hookM.says) (N:=1908) (d:=Mine.lawDef.1) (kwd:=Mine.lawDef.2)
  Mine.YTk Mine.hookM.of Mine.hookM.keeps (fun s e=>xl_of s (Bool.and_eq_true_iff.mp e).1) XL.keeps Mine.lawDef_ok Mine.lawDef_the Mine.lawDef_kw (fun s e=>recFacts_of (Bool.and_eq_true_iff.mp e).2) rfl said Mine.law_opens ⟨rfl,rfl,rfl,rfl,rfl,by decide +kernel⟩ ?hw ?hc
 case hw=>w_witness2
 intro w s₀ s₁ mg mb G Y fa o pm cd doc dV kV ho hd hcd hD hmg hg args vals as hpre hlay hrd hwl hlo
 obtain ⟨K,KX,hK,h107⟩:=Y
 refine Ground.open G ?_
 intro T B D TE TW
 have O:=Mine.kOk hK
 have hT9:TabsAt [(111,107)] s₁.heap:=List.forall_mem_cons.mpr ⟨⟨codeHd_of_K KX O.code,h107⟩,fun _ h=>nomatch h⟩
 have hfa:mg "law"=some (.ref 159):=Mine.YHI KX T.g O.law
 have e:=hmg.symm.trans hfa
 injection e with e
 injection e with e
 subst e
 clear hmg hd hcd hD hfa
 wrow_args hpre hlay hrd hwl hlo
 first | refine callC_kw (enter_call ?_) | refine enter_call ?_
 w_top on
 refine kn_post hT9 (fun _ _=>rfl) ?_
 rename_i ns hs hlay0 hL1 hr1 hl2 as4 as3 l vs as1 hL ra hW r0 hI hr hc hc2
 have hlen:ns.length≤63:=by exact Zi169 hc
 obtain ⟨n,hl⟩:∃ n,s₁.heap.get? l=some (seqObj "list" vs.toArray n):=by
  have hW':Well w.params s₁.heap (.ref l) (.list (ofPys (ns.map PyData.int))):=hW
  obtain ⟨o2,g1,g2,n,g3⟩:=hL
  cases hW' with
  | list q _=>
   rw [q] at g1
   cases g1
   injection g3 with g3 g4
   rw [←g3]
   exact ⟨_,q⟩
 refine Mine.YUN (n:=n) O hT9 KX T hl hI (hF ns hlen) fun s' hk hos hgens hgr=>?_
 refine ⟨⟨.inl ⟨.bool true,.bool true,[],rfl,fun _=>rfl,.bool true,by kernel_rfl,fun _=>⟨List.nodup_nil,fun _ q=>(nomatch q)⟩⟩,hk,hos,hgens.trans hg⟩,hgr⟩
end
section
open PySem PySem.Spec
namespace Mine
noncomputable def Ok (σ:List AO):Prop:=σ.all (aoOk σ.length)=true
theorem Yi {σ:List AO}:σ.take σ.length=σ:=List.take_length
theorem YAf {Φ:Tab} {np k:Nat} {body:Ss} {as:List AV} {σ:List AO} {ρ1:YF} {v:AV} (ρ0:YF) (hσ:Ok σ) (h0:as.length=np) (hρ:as.map some++List.replicate (k-np) none=ρ0) (h1:exSs Φ body ρ0 σ=some (.ret v,ρ1,σ)) (hv:noLoc σ.length v=true):runF Φ np k body as σ=some (v,σ):=
 (Yt ρ0 h0 hρ h1 (Nat.le_refl _) (by rw [Yi]; exact hσ) (YZ hv)).trans (by rw [Yi])
theorem YC {Φ:Tab} {s:S} {r:Ss} {ρ ρ1:YF} {σ σ1:List AO} (h:exS Φ s ρ σ=some (.next,ρ1,σ1)):exSs Φ (.cons s r) ρ σ=exSs Φ r ρ1 σ1:=by rw [YGj,h]; rfl
theorem YMf {Φ:Tab} {s:S} {r:Ss} {ρ ρ1:YF} {σ σ1:List AO} {v:AV} (h:exS Φ s ρ σ=some (.ret v,ρ1,σ1)):exSs Φ (.cons s r) ρ σ=some (.ret v,ρ1,σ1):=by rw [YGj,h]; rfl
theorem YKS {k:Nat} (h:k≤1000):fits (k:Int)=true:=Bool.and_eq_true_iff.mpr ⟨decide_eq_true (Int.le_trans (by decide) (Int.natCast_nonneg k)),decide_eq_true (Int.le_trans (Int.ofNat_le.mpr h) (by decide))⟩
theorem YTn {k:Nat} (h:k≤1000):fits (-(k:Int))=true:=Bool.and_eq_true_iff.mpr ⟨decide_eq_true (Int.le_trans (by decide) (Int.neg_le_neg (Int.ofNat_le.mpr h))),decide_eq_true (Int.le_trans (Int.neg_nonpos_of_nonneg (Int.natCast_nonneg k)) (by decide))⟩
theorem lm {n:Nat} (h:n≤1000):n≤lim:=Nat.le_trans h (by decide)
theorem ad {σ:List AO} {a b c:Int} (h:a+b=c):binA σ .Add (.int a) (.int b)=some (.int c):=by subst h; rfl
noncomputable def signs:List Nat:=[97,65,98,32,34,92]
noncomputable def IsWord (w:List Nat):Prop:=1≤w.length∧w.length≤3∧∀ c∈w,c∈signs
theorem YBj {c:Nat} (h:c∈signs):c<128:=(show ∀ c∈signs,c<128 by decide) c h
theorem IsWord.ascii {w:List Nat} (h:IsWord w):asciiL w=true:=List.all_eq_true.mpr fun c hc=>decide_eq_true (YBj (h.2.2 c hc))
theorem IsWord.sok {w:List Nat} (h:IsWord w):SOk w=true:=List.all_eq_true.mpr fun c hc=>decide_eq_true (Nat.lt_of_lt_of_le (YBj (h.2.2 c hc)) (by decide))
theorem IsWord.lim {w:List Nat} (h:IsWord w):w.length≤lim:=Nat.le_trans h.2.1 (by decide)
noncomputable def wordOf (n:Int):List Nat:=(List.range ((n%3).toNat+1)).map fun k=>signs.getD ((n/3/6 ^ k)%6).toNat 0
theorem YLx {i:Nat} (h:i<6):signs.getD i 0∈signs:=by
 have:∀ i:Fin 6,signs.getD i.val 0∈signs:=by decide
 exact this ⟨i,h⟩
theorem YEU {n b:Int} (hb:0<b):∃ m:Nat,n%b=m∧(m:Int)<b:=⟨(n%b).toNat,(Int.toNat_of_nonneg (Int.emod_nonneg _ (Int.ne_of_gt hb))).symm,by rw [Int.toNat_of_nonneg (Int.emod_nonneg _ (Int.ne_of_gt hb))]; exact Int.emod_lt_of_pos _ hb⟩
theorem YAU (n:Int):IsWord (wordOf n):=by
 obtain ⟨m,e,h⟩:=YEU (n:=n) (b:=3) (by decide)
 refine ⟨by rw [wordOf,List.length_map,List.length_range]; exact Nat.le_add_left _ _,by rw [wordOf,List.length_map,List.length_range,e]; exact Int.ofNat_lt.mp h,fun c hc=>?_⟩
 obtain ⟨k,_,rfl⟩:=List.mem_map.mp hc
 obtain ⟨i,e,h⟩:=YEU (n:=n/3/6 ^ k) (b:=6) (by decide)
 rw [e]
 exact YLx (Int.ofNat_lt.mp h)
theorem YEj (k:Nat):∀ ss:List (List Nat),(∀ s∈ss,s.length≤k)→(ss.map List.length).sum≤ss.length*k
 | [],_=>by simp
 | a::r,h=>by
  have h1:=h a (by simp)
  have h2:=YEj k r fun s hs=>h s (by simp [hs])
  simp only [List.map_cons,List.sum_cons,List.length_cons]
  rw [Nat.add_mul]; exact Ze88 h1 h2
theorem YDI:∀ (l:List Nat),(l.map fun c=>[c]).flatten=l
 | []=>rfl
 | a::r=>by simp [YDI r]
noncomputable def wordR:E:=.bi .range (.cons (.bin .Add (.bin .Mod (.var 0) (.int 3)) (.int 1)) .nil)
noncomputable def wordE:E:=.comp false (.sub (.var 1) (.bin .Mod (.bin .FloorDiv (.bin .FloorDiv (.var 0) (.int 3)) (.bin .Pow (.int 6) (.var 2))) (.int 6))) wordR .nil
theorem sgn {σ:List AO} {i:Nat} (h:i<6):subA σ (.str signs) (.int (i:Int))=some (.str [signs.getD i 0]):=
 YFd (by rw [List.getD_eq_getElem?_getD,List.getElem?_eq_getElem (l:=signs) h]; rfl) (by decide)
theorem pow6:∀ {k:Nat},k<3→(0:Int)<6 ^ k∧(6:Int) ^ k<1000000000
 | 0,_=>by decide
 | 1,_=>by decide
 | 2,_=>by decide
 | _+3,h=>absurd h (Nat.not_lt_of_le (Nat.le_add_left ..))
theorem YGU {n:Int} {σ:List AO} (hσ:Ok σ):YFB [.int n] σ=some (.str (wordOf n),σ):=by
 obtain ⟨m,hm,hm3⟩:=YEU (n:=n) (b:=3) (by decide)
 have hm3:=Int.ofNat_lt.mp hm3
 have hr:evE (Yn []) wordR [some (.int n),some (.str signs)] σ=some (.rng 0 ((m+1:Nat):Int) 1,σ):=wE fun k=>k (YJU (by decide)) (ad (c:=((m+1:Nat):Int)) (by rw [hm]; rfl)) (YCK (YKS (Nat.le_trans hm3 (by decide))))
 have hc:evE (Yn []) wordE [some (.int n),some (.str signs)] σ=some (.lst (((wordOf n).map fun c=>[c]).map .str),σ):=by
  refine (Yc (l:=List.range (m+1)) (e:=fun (k:Nat)=>.int k) (h:=fun k=>.str [signs.getD ((n/3/6 ^ k)%6).toNat 0]) hr (YDB _) fun k hk=>?_).trans ?_
  ·have hk:k<3:=Nat.lt_of_lt_of_le (List.mem_range.mp hk) hm3
   obtain ⟨i,hi,h6⟩:=YEU (n:=n/3/6 ^ k) (b:=6) (by decide)
   rw [hi]
   exact wE fun q=>q (YDe (by decide) (by decide)) (YSA (Nat.le_trans (Nat.le_of_lt hk) (by decide)) (by decide) (by decide)) (YDe (pow6 hk).1 (pow6 hk).2) ((YJU (by decide)).trans (congrArg (fun i=>some (AV.int i)) hi)) (sgn (Int.ofNat_lt.mp h6))
  ·rw [YX (by rw [List.length_map,List.length_range]; exact Nat.le_trans hm3 (by decide)),wordOf,hm,List.map_map,List.map_map]; rfl
 have hj:meA σ .join (.str []) [.lst (((wordOf n).map fun c=>[c]).map .str)]=some (.str (wordOf n),σ):=by
  rw [YKj,YDI]
  refine Nat.le_trans (YEj 1 _ fun s hs=>?_) (by rw [List.length_map]; exact Nat.le_trans (Nat.mul_le_mul_right 1 (YAU n).2.1) (by decide))
  obtain ⟨c,_,rfl⟩:=List.mem_map.mp hs
  exact Nat.le_refl _
 exact YAf [some (.int n),none] hσ rfl rfl (wSs fun k=>k rfl hc hj) rfl
noncomputable def gapOf (g:Bool):List Nat:=if g then [32] else [10]
noncomputable def escQ (c:Nat):List Nat:=if ([34,92]:List Nat).contains c then [92,c] else [c]
noncomputable def escA (c:Nat):List Nat:=[92,c]
noncomputable def dress (w:List Nat) (q g:Bool):List Nat:=if q then [34]++w.flatMap escQ++[34]++gapOf g else w.flatMap escA++gapOf g
theorem YAs (f:Nat→List Nat) (h:∀ c,(f c).length≤2):∀ w:List Nat,(w.flatMap f).length≤2*w.length
 | []=>by simp
 | a::r=>by
  have:=h a
  have:=YAs f h r
  simp only [List.flatMap_cons,List.length_append,List.length_cons]; exact Ze135 this ‹_›
theorem YGt (c:Nat):(escQ c).length≤2:=by unfold escQ; cases ([34,92]:List Nat).contains c <;> exact of_decide_eq_true rfl
theorem YHB (c:Nat):(escA c).length≤2:=Nat.le_refl _
noncomputable def drE (w:List Nat) (n:Int) (g:Option AV):YF:=[some (.str w),some (.int n),g]
noncomputable def esE:E:=.comp false (.ife (.cmp .In (.var 3) (.str [34,92])) (.bin .Add (.str [92]) (.var 3)) (.var 3)) (.var 0) .nil
noncomputable def esF:E:=.comp false (.bin .Add (.str [92]) (.var 3)) (.var 0) .nil
theorem YDW {w:List Nat} {n:Int} {σ:List AO} (hσ:Ok σ) (hw:IsWord w):YAy [.str w,.int n] σ=some (.str (dress w (decide (n/648%2=0)) (decide (n/1296%2=0))),σ):=by
 have six:=fun f h=>Nat.le_trans (YAs f h w) (Nat.mul_le_mul_left 2 hw.2.1)
 have hA:=six escA YHB
 have hQ:=six escQ YGt
 have nl:∀ f:Nat→List Nat,newL false σ (w.map fun c=>AV.str (f c))=some (.lst ((w.map f).map .str),σ):=fun f=>by
  rw [YX (by rw [List.length_map]; exact hw.lim),List.map_map]; rfl
 have j:∀ f:Nat→List Nat,(w.flatMap f).length≤2*3→meA σ .join (.str []) [.lst ((w.map f).map .str)]=some (.str (w.flatMap f),σ):=fun f h=>by
  rw [YKj (by rw [List.map_map]; exact Nat.le_trans (Nat.le_of_eq (List.length_flatMap (f:=f) (l:=w)).symm) (Nat.le_trans h (by decide))),←List.flatMap_def]
 have hcQ:∀ g:Option AV,evE (Yn []) esE (drE w n g) σ=some (.lst ((w.map escQ).map .str),σ):=fun g=>
  (Yc (l:=w) (e:=fun c=>.str [c]) (h:=fun c=>.str (escQ c)) (show evE (Yn []) (.var 0) (drE w n g) σ=some (.str w,σ) from rfl) (YFk hw.ascii) fun c _=>by
   unfold escQ
   cases q:([34,92]:List Nat).contains c with
   | true=>exact wE fun k=>k (YSB.trans (congrArg some q)) (YIv (show [92].length+[c].length≤lim from (by decide:2≤lim)))
   | false=>exact wE fun k=>k (YSB.trans (congrArg some q))).trans (nl escQ)
 have hcA:∀ g:Option AV,evE (Yn []) esF (drE w n g) σ=some (.lst ((w.map escA).map .str),σ):=fun g=>
  (Yc (l:=w) (e:=fun c=>.str [c]) (h:=fun c=>.str (escA c)) (show evE (Yn []) (.var 0) (drE w n g) σ=some (.str w,σ) from rfl) (YFk hw.ascii) fun c _=>by exact wE fun k=>k (YIv (show [92].length+[c].length≤lim from (by decide:2≤lim)))).trans (nl escA)
 have L:∀ {s t:List Nat} {i j:Nat},s.length≤i→t.length≤j→i+j≤lim→binA σ .Add (.str s) (.str t)=some (.str (s++t))∧(s++t).length≤i+j:=fun h g l=>⟨YIv (Nat.le_trans (Nat.add_le_add h g) l),by rw [List.length_append]; exact Nat.add_le_add h g⟩
 have p1:=L (s:=[34]) (Nat.le_refl 1) hQ (by decide)
 have p2:=L p1.2 (show [34].length≤1 from Nat.le_refl 1) (by decide)
 have p3:=fun c:Nat=>L p2.2 (show [c].length≤1 from Nat.le_refl 1) (by decide)
 have p4:=fun c:Nat=>L hA (show [c].length≤1 from Nat.le_refl 1) (by decide)
 have d1:binA σ .FloorDiv (.int n) (.int 1296)=some (.int (n/1296)):=YDe (by decide) (by decide)
 have d2:binA σ .FloorDiv (.int n) (.int 648)=some (.int (n/648)):=YDe (by decide) (by decide)
 have md:∀ {i:Int},binA σ .Mod (.int i) (.int 2)=some (.int (i%2)):=YJU (by decide)
 refine YAf (ρ1:=drE w n (some (.str (gapOf (decide (n/1296%2=0)))))) (drE w n none) hσ rfl rfl ?_ rfl
 cases hg:decide (n/1296%2=0) <;> cases hq:decide (n/648%2=0)
 ·exact wSs fun k=>k d1 md (YEI.trans (congrArg some hg)) d2 md (YEI.trans (congrArg some hq)) rfl (hcA _) (j escA hA) (p4 10).1
 ·exact wSs fun k=>k d1 md (YEI.trans (congrArg some hg)) d2 md (YEI.trans (congrArg some hq)) rfl (hcQ _) (j escQ hQ) p1.1 p2.1 (p3 10).1
 ·exact wSs fun k=>k d1 md (YEI.trans (congrArg some hg)) d2 md (YEI.trans (congrArg some hq)) rfl (hcA _) (j escA hA) (p4 32).1
 ·exact wSs fun k=>k d1 md (YEI.trans (congrArg some hg)) d2 md (YEI.trans (congrArg some hq)) rfl (hcQ _) (j escQ hQ) p1.1 p2.1 (p3 32).1
theorem YIE {σ:List AO} {n:Nat} {o:AO} (h:Ok σ) (e:σ[n]?=some o):aoOk σ.length o=true:=List.all_eq_true.mp h _ (List.mem_of_getElem? e)
theorem YDR {σ:List AO} {n:Nat} {o:AO} (h:Ok σ) (ho:aoOk σ.length o=true):Ok (σ.set n o):=by
 unfold Ok
 rw [List.length_set,List.all_eq_true]
 intro x hx
 rcases List.mem_or_eq_of_mem_set hx with h' | rfl
 ·exact List.all_eq_true.mp h x h'
 ·exact ho
theorem YLV {n m:Nat} (h:n≤m):∀ v:AV,noLoc n v=true→noLoc m v=true:=by
 intro v
 refine AV.rec (motive_1:=fun v=>noLoc n v=true→noLoc m v=true) (motive_2:=fun vs=>noLocs n vs=true→noLocs m vs=true) ?_ ?_ ?_ ?_ ?_ ?_ ?_ ?_ ?_ ?_ v
 ·intro _; rfl
 ·intro _ _; rfl
 ·intro _ _; rfl
 ·intro _ _; rfl
 ·intro vs ih h; exact ih h
 ·intro vs ih h; exact ih h
 ·intro _ _ _ _; rfl
 ·exact fun k hk=>decide_eq_true (Nat.lt_of_lt_of_le (of_decide_eq_true hk) h)
 ·intro _; rfl
 ·exact fun a r iha ihr hh=>Bool.and_eq_true_iff.mpr ⟨iha (Bool.and_eq_true_iff.mp hh).1,ihr (Bool.and_eq_true_iff.mp hh).2⟩
theorem YJu {n m:Nat} (h:n≤m) {vs:List AV} (hv:noLocs n vs=true):noLocs m vs=true:=by
 rw [Yg,List.all_eq_true] at hv ⊢
 exact fun v hm=>YLV h v (hv v hm)
theorem YJO {n m:Nat} (h:n≤m) {o:AO} (ho:aoOk n o=true):aoOk m o=true:=by
 cases o with
 | list vs=>exact YJu h ho
 | lexer _ _ _ p=>exact decide_eq_true (Nat.lt_of_lt_of_le (of_decide_eq_true ho) h)
 | citer l live=>cases live with
  | true=>exact decide_eq_true (Nat.lt_of_lt_of_le (of_decide_eq_true ho) h)
  | false=>exact ho
 | codes _=>rfl
theorem YDi {σ τ:List AO} (h:Ok σ) (ht:τ.all (aoOk (σ.length+τ.length))=true):Ok (σ++τ):=by
 unfold Ok
 rw [List.all_append,List.length_append,Bool.and_eq_true]
 refine ⟨?_,ht⟩
 rw [List.all_eq_true]
 exact fun x hx=>YJO (Nat.le_add_right _ _) (List.all_eq_true.mp h x hx)
theorem YBn {σ:List AO} {n:Nat} {o:AO} (h:σ[n]?=some o):σ.set n o=σ:=by
 have hn:=(List.getElem?_eq_some_iff.mp h).1
 refine List.ext_getElem? fun i=>?_
 by_cases q:n=i
 ·subst q; rw [List.getElem?_set_self hn,h]
 ·rw [List.getElem?_set_ne q]
theorem augl {Φ:Tab} {i n p pos:Nat} {k l:Int} {ρ:YF} {σ:List AO} {text:List Nat} (hi:ρ[i]?=some (some (.loc n))) (h:σ[n]?=some (.lexer text pos l p)):exS Φ (.augline (.var i) (.int k)) ρ σ=some (.next,ρ,σ.set n (.lexer text pos (l+k) p)):=bs (YGA hi) (YCu h)
theorem YNh {σ:List AO} {n:Nat} {text:List Nat} {pos:Nat} {line:Int} {p c:Nat} (hσ:Ok σ) (h:σ[n]?=some (.lexer text pos line p)) (hc:text[pos]?=some c) (h128:c<128) (hl:text.length≤lim):
  YAB [.loc n] σ=some (.str [c],σ.set n (.lexer text (pos+1) (if c=10 then line+1 else line) p)):=by
 obtain ⟨hlt,hx⟩:=List.getElem?_eq_some_iff.mp hc
 have hn:=(List.getElem?_eq_some_iff.mp h).1
 have e2:readA σ (.loc n)=some (.str [c],σ.set n (.lexer text (pos+1) line p)):=by
  rw [YJg h (Nat.le_of_lt hlt) hl,List.drop_eq_getElem_cons hlt,hx]; rfl
 generalize hq:(if c=10 then line+1 else line)=l
 have hlen:(σ.set n (.lexer text (pos+1) l p)).length=σ.length:=List.length_set ..
 have e:exSs (Yn []) YAX [some (.loc n),none] σ=some (.ret (.str [c]),[some (.loc n),some (.str [c])],σ.set n (.lexer text (pos+1) l p)):=by
  have s1:SOk [c]=true:=List.all_eq_true.mpr fun x hx=>decide_eq_true (by rw [List.mem_singleton.mp hx]; exact Nat.lt_of_lt_of_le h128 (by decide))
  by_cases q:c=10
  ·rw [if_pos q] at hq
   subst hq q
   rw [show σ.set n (.lexer text (pos+1) (line+1) p)=(σ.set n (.lexer text (pos+1) line p)).set n (.lexer text (pos+1) (line+1) p) from (List.set_set ..).symm]
   exact wSs fun k=>k e2 ((YFi s1 s1).trans (congrArg some (decide_eq_true rfl))) (augl rfl (List.getElem?_set_self hn))
  ·rw [if_neg q] at hq
   subst hq
   exact wSs fun k=>k e2 ((YFi s1 (show SOk [10]=true by decide)).trans (congrArg some (decide_eq_false fun e=>q (List.cons.inj e).1)))
 refine (Yt [some (.loc n),none] rfl rfl e (Nat.le_of_eq hlen.symm) ?_ (YZ rfl)).trans (by rw [←hlen,Yi])
 rw [←hlen,Yi]
 exact YDR hσ (show aoOk σ.length (.lexer text pos line p)=true from YIE hσ h)
theorem YLv {σ:List AO} {n:Nat} {text:List Nat} {line:Int} {p:Nat} (hσ:Ok σ) (h:σ[n]?=some (.lexer text text.length line p)) (hl:text.length≤lim):
  YAB [.loc n] σ=some (.str [],σ):=by
 have e2:readA σ (.loc n)=some (.str [],σ):=by
  rw [YJg h (Nat.le_refl _) hl,List.drop_length]
  exact congrArg (fun τ=>some (AV.str [],τ)) (YBn h)
 exact YAf [some (.loc n),none] hσ rfl rfl (wSs fun k=>k e2 ((YFi (show SOk []=true by decide) (show SOk [10]=true by decide)).trans (congrArg some (decide_eq_false (by decide))))) rfl
noncomputable def qB:Ss:=(.cons (.ite (.cmp .Eq (.var 3) (.str [34])) (.cons (.ret (.var 1)) .nil) (.cons (.ite (.cmp .Eq (.var 3) (.str [92])) (.cons (.asg 3 (.lm 70 (.var 0) .nil)) .nil) .nil) .nil)) (.cons (.aug 1 .Add (.var 3)) .nil))
noncomputable def aB:Ss:=(.cons (.ite (.cmp .In (.var 3) (.white (.var 0))) (.cons (.ret (.var 1)) .nil) (.cons (.ite (.cmp .Eq (.var 3) (.str [92])) (.cons (.asg 3 (.lm 70 (.var 0) .nil)) .nil) .nil) .nil)) (.cons (.aug 1 .Add (.var 3)) .nil))
noncomputable def oB:Ss:=(.cons (.ite (.cmp .In (.var 3) (.white (.var 0))) (.cons .cont .nil) .nil) (.cons (.ite (.cmp .Eq (.var 3) (.str [34])) (.cons (.forc 3 (.var 2) qB) .nil)
 (.cons (.ite (.cmp .Eq (.var 3) (.str [92])) (.cons (.asg 3 (.lm 70 (.var 0) .nil)) .nil) .nil) (.cons (.aug 1 .Add (.var 3)) (.cons (.forc 3 (.var 2) aB) .nil)))) .nil))
set_option genInjectivity false in
structure YAV (Φ:Tab) (text:List Nat) (n k p:Nat) (S:Nat→Int→List AO):Prop where
 s1:∀ pos line,(S pos line)[n]?=some (.lexer text pos line p)
 s2:∀ pos line,(S pos line)[k]?=some (.citer n true)
 rd:∀ pos line c,text[pos]?=some c→c<128→Φ 70 [.loc n] (S pos line)=some (.str [c],S (pos+1) (if c=10 then line+1 else line))
 en:∀ line,Φ 70 [.loc n] (S text.length line)=some (.str [],S text.length line)
theorem YFo {text:List Nat} {pos c:Nat} {r:List Nat} (h:text.drop pos=c::r):text[pos]?=some c∧text.drop (pos+1)=r:=by
 have hlt:pos<text.length:=by
  rcases Nat.lt_or_ge pos text.length with q | q
  ·exact q
  ·rw [List.drop_eq_nil_of_le q] at h; cases h
 rw [List.drop_eq_getElem_cons hlt] at h
 injection h with h1 h2
 exact ⟨by rw [List.getElem?_eq_getElem hlt,h1],h2⟩
theorem sok1 {c:Nat} (h:c<128):SOk [c]=true:=by simp [SOk]; exact Nat.lt_of_lt_of_le (by assumption) (by decide)
theorem eq1 {σ:List AO} {c d:Nat} (h:c<128) (hd:d<128):cmpA σ .Eq (.str [c]) (.str [d])=some (decide (c=d)):=by
 rw [YFi (sok1 h) (sok1 hd)]
 congr 1
 by_cases q:c=d
 ·subst q; simp
 ·rw [decide_eq_false q,decide_eq_false]; simpa using q
theorem eqT {σ:List AO} {c:Nat} (h:c<128):cmpA σ .Eq (.str [c]) (.str [c])=some true:=(eq1 h h).trans (congrArg some (decide_eq_true rfl))
theorem eqF {σ:List AO} {c d:Nat} (h:c<128) (hd:d<128) (n:¬c=d):cmpA σ .Eq (.str [c]) (.str [d])=some false:=(eq1 h hd).trans (congrArg some (decide_eq_false n))
theorem l34:34<128:=by decide
theorem l92:92<128:=by decide
theorem YKR {c:Nat} (h:c∈signs):¬c=10:=fun q=>by subst q; exact absurd h (by decide)
noncomputable def en (n k:Nat) (tok:List Nat) (ch:Option AV):YF:=[some (.loc n),some (.str tok),some (.loc k),ch]
section
variable {Φ:Tab} {text:List Nat} {n k p:Nat} {S:Nat→Int→List AO} {b:Ss} {pos:Nat} {line l:Int} {c m:Nat} {ρ ρ1:YF} {σ1:List AO} {tok x y r:List Nat}
theorem YFO {f:AV→YF→List AO→Option (Fl×YF×List AO)} {fuel:Nat} (R:YAV Φ text n k p S) (hc:text[pos]?=some c) (h128:c<128):
  forcGo Φ f k n (fuel+1) ρ (S pos line)=(f (.str [c]) ρ (S (pos+1) (if c=10 then line+1 else line))).bind fun p=>match p.1 with
     | .next | .cont=>forcGo Φ f k n fuel p.2.1 p.2.2
     | .brk=>some (.next,p.2)
     | .ret v=>some (.ret v,p.2):=by
 exact (YFN (R.s2 ..)).trans ((if_pos rfl).trans ((congrArg (Option.bind · _) (R.rd _ _ _ hc h128)).trans (YFN (R.s2 ..))))
noncomputable def Go (Φ:Tab) (b:Ss) (k n m:Nat) (ρ:YF) (σ:List AO) (r:Fl×YF×List AO):Prop:=∀ fuel,m≤fuel→forcGo Φ (fun v ρ σ=>exSs Φ b (ρ.set 3 (some v)) σ) k n (fuel+1) ρ σ=some r
theorem YRG {fl:Fl} {z:Fl×YF×List AO} (R:YAV Φ text n k p S) (hc:text[pos]?=some c) (h128:c<128) (hl:(if c=10 then line+1 else line)=l)
  (h:exSs Φ b (ρ.set 3 (some (.str [c]))) (S (pos+1) l)=some (fl,ρ1,σ1)) (hf:fl=.next∨fl=.cont) (g:Go Φ b k n m ρ1 σ1 z):Go Φ b k n (m+1) ρ (S pos line) z:=by
 intro fuel q
 cases fuel with
 | zero=>exact absurd q (Nat.not_succ_le_zero m)
 | succ fuel=>
  subst hl
  refine (YFO R hc h128).trans (bs h ?_)
  rcases hf with rfl | rfl <;> exact g fuel (Nat.le_of_succ_le_succ q)
theorem YRf {v:AV} (R:YAV Φ text n k p S) (hc:text[pos]?=some c) (h128:c<128) (hl:(if c=10 then line+1 else line)=l)
  (h:exSs Φ b (ρ.set 3 (some (.str [c]))) (S (pos+1) l)=some (.ret v,ρ1,σ1)):Go Φ b k n m ρ (S pos line) (.ret v,ρ1,σ1):=by
 intro fuel q
 subst hl
 exact (YFO R hc h128).trans (bs h rfl)
theorem YUb (R:YAV Φ text n k p S):Go Φ b k n m ρ (S text.length line) (.next,ρ,(S text.length line).set k (.citer n false)):=
 fun fuel _=>(YFN (R.s2 ..)).trans ((if_pos rfl).trans ((congrArg (Option.bind · _) (R.en ..)).trans (YFN (R.s2 ..))))
theorem drp {G:Prop} (h:text.drop pos=c::r) (k:text[pos]?=some c→text.drop (pos+1)=r→G):G:=k (YFo h).1 (YFo h).2
theorem es1 (e:x=[c]) (h:text.drop pos=(x++y)++r):text.drop pos=c::(y++r):=by subst e; exact h
theorem es2 (e:x=[m,c]) (h:text.drop pos=(x++y)++r):text.drop pos=m::c::(y++r):=by subst e; exact h
theorem ln1 {f:Nat} (e:x=[c]) (h:pos+(x++y).length+1=f):pos+1+y.length+1=f:=by
 subst e; rw [List.length_append,Nat.add_comm _ y.length] at h; rw [Nat.add_assoc pos,Nat.add_comm 1]; exact h
theorem ln2 {f:Nat} (e:x=[m,c]) (h:pos+(x++y).length+1=f):pos+1+1+y.length+1=f:=by
 subst e; rw [List.length_append,Nat.add_comm _ y.length] at h; rw [Nat.add_assoc pos,Nat.add_assoc pos,Nat.add_comm (1+1)]; exact h
theorem tl (h:tok.length+(x.length+1)≤1000):(tok++[c]).length+x.length≤1000:=by
 rw [List.length_append,Nat.add_assoc,Nat.add_comm [c].length]; exact h
theorem YMx (q:([34,92]:List Nat).contains c=true):escQ c=[92,c]:=if_pos q
theorem YNE (q:([34,92]:List Nat).contains c=false):escQ c=[c]:=if_neg (by rw [q]; exact Bool.false_ne_true)
theorem YLK (h:tok.length+(m+1)≤1000):augA .Add (.str tok) (.str [c])=some (.str (tok++[c])):=YTQ (show tok.length+1≤1000000 from Nat.le_trans (Nat.le_trans (Nat.add_le_add_left (Nat.le_add_left 1 m) _) h) (by decide))
theorem rd1 (R:YAV Φ text n k p S) (h:text[pos]?=some c) (s:c∈signs):Φ 70 [.loc n] (S pos line)=some (.str [c],S (pos+1) line):=(R.rd _ _ _ h (YBj s)).trans (by rw [if_neg (YKR s)])
theorem YQm (R:YAV Φ text n k p S) (w:List Nat) (hw:∀ c∈w,c∈signs):∀ (tok out:List Nat) (pos fin:Nat) (ch:Option AV),text.drop pos=w.flatMap escQ++34::r→tok.length+w.length≤1000→tok++w=out→pos+(w.flatMap escQ).length+1=fin→
  Go Φ qB k n w.length (en n k tok ch) (S pos line) (.ret (.str out),en n k out (some (.str [34])),S fin line):=by
 induction w with
 | nil=>
  intro tok out pos fin ch h hl ho hp
  cases (List.append_nil tok).symm.trans ho
  cases hp
  exact drp h fun h1 _=>YRf R h1 l34 rfl (wSs fun k=>k (eqT l34))
 | cons c w ih=>
  intro tok out pos fin ch h hl ho hp
  have hc:=hw c (List.mem_cons_self ..)
  have ih:=fun pos ch h=>ih (fun x hx=>hw x (List.mem_cons_of_mem _ hx)) (tok++[c]) out pos fin ch h (tl hl) ((List.append_assoc tok [c] w).trans ho)
  cases q:([34,92]:List Nat).contains c with
  | true=>exact drp (es2 (YMx q) h) fun h1 h2=>drp h2 fun h3 h4=>YRG R h1 l92 rfl (wSs fun k=>k (eqF l92 l34 (by decide)) (eqT l92) (R.s1 ..) (rd1 R h3 hc) (YLK hl)) (.inl rfl) (ih _ _ h4 (ln2 (YMx q) hp))
  | false=>
   have n1:¬c=34:=fun z=>by subst z; cases q
   have n2:¬c=92:=fun z=>by subst z; cases q
   exact drp (es1 (YNE q) h) fun h1 h2=>YRG R h1 (YBj hc) (if_neg (YKR hc)) (wSs fun k=>k (eqF (YBj hc) l34 n1) (eqF (YBj hc) l92 n2) (YLK hl)) (.inl rfl) (ih _ _ h2 (ln1 (YNE q) hp))
theorem YRt (R:YAV Φ text n k p S) {g:Bool} (w:List Nat) (hw:∀ c∈w,c∈signs):∀ (tok out:List Nat) (pos fin:Nat) (ch:Option AV),text.drop pos=w.flatMap escA++(gapOf g++r)→tok.length+w.length≤1000→tok++w=out→pos+(w.flatMap escA).length+1=fin→
  Go Φ aB k n w.length (en n k tok ch) (S pos line) (.ret (.str out),en n k out (some (.str (gapOf g))),S fin (line+((gapOf g).count 10:Nat))):=by
 induction w with
 | nil=>
  intro tok out pos fin ch h hl ho hp
  cases (List.append_nil tok).symm.trans ho
  cases hp
  cases g with
  | true=>exact drp (c:=32) h fun h1 _=>YRf R h1 (by decide) (Int.add_zero line).symm (wSs fun k=>k (R.s1 ..) rfl)
  | false=>exact drp (c:=10) h fun h1 _=>YRf R h1 (by decide) rfl (wSs fun k=>k (R.s1 ..) rfl)
 | cons c w ih=>
  intro tok out pos fin ch h hl ho hp
  have hc:=hw c (List.mem_cons_self ..)
  have ih:=fun pos ch h=>ih (fun x hx=>hw x (List.mem_cons_of_mem _ hx)) (tok++[c]) out pos fin ch h (tl hl) ((List.append_assoc tok [c] w).trans ho)
  exact drp (es2 rfl h) fun h1 h2=>drp h2 fun h3 h4=>YRG R h1 l92 rfl (wSs fun k=>k (R.s1 ..) rfl (eqT l92) (R.s1 ..) (rd1 R h3 hc) (YLK hl)) (.inl rfl) (ih _ _ h4 (ln2 (x:=escA c) rfl hp))
end
section
variable {Φ:Tab} {text:List Nat} {n k p pos:Nat} {S:Nat→Int→List AO} {line:Int} {b:Ss} {m:Nat} {w x r:List Nat} {q g:Bool} {ch:Option AV}
noncomputable def Gaps (gs:List Nat):Prop:=∀ c∈gs,c=32∨c=10
theorem YTK {i:Nat} {ρ:YF} {z:Fl×YF×List AO} (R:YAV Φ text n k p S) (g:Go Φ b k n m ρ (S pos line) z) (h:text.drop pos=x++r) (hm:m≤x.length) (hi:i=3) (e:ρ[2]?=some (some (.loc k))):
  exS Φ (.forc i (.var 2) b) ρ (S pos line)=some z:=by
 subst hi
 rw [YQz,YTT,e]
 refine (YFN (R.s2 ..)).trans ((show _=_ from ?_).trans (g (text.length-pos+1) ?_))
 ·rw [show room (S pos line) n=text.length-pos+2 by rw [room,R.s1]]
 ·have:=congrArg List.length h
  rw [List.length_drop,List.length_append] at this
  exact Nat.le_succ_of_le (Nat.le_trans hm (Nat.le_trans (Nat.le_add_right _ _) (Nat.le_of_eq this.symm)))
theorem YGW (f:Nat→List Nat) (h:∀ c,1≤(f c).length):∀ w:List Nat,w.length≤(w.flatMap f).length
 | []=>Nat.le_refl _
 | a::r=>by
  rw [List.flatMap_cons,List.length_append,List.length_cons,Nat.add_comm]
  exact Nat.add_le_add (h a) (YGW f h r)
theorem YPM (c:Nat):1≤(escQ c).length:=by unfold escQ; cases ([34,92]:List Nat).contains c <;> exact Nat.le_add_left 1 _
theorem YNK (c:Nat):1≤(escA c).length:=Nat.le_succ 1
noncomputable def took (w:List Nat) (q:Bool):Nat:=if q then (w.flatMap escQ).length+2 else (w.flatMap escA).length+1
noncomputable def tookNl (q g:Bool):Nat:=if q then 0 else (gapOf g).count 10
noncomputable def lastC (q g:Bool):List Nat:=if q then [34] else gapOf g
theorem o_q (R:YAV Φ text n k p S) (hw:IsWord w) (h:text.drop pos=34::(w.flatMap escQ++34::r)):Go Φ oB k n m (en n k [] ch) (S pos line) (.ret (.str w),en n k w (some (.str [34])),S (pos+1+(w.flatMap escQ).length+1) line):=
 drp h fun h1 h2=>YRf R h1 l34 rfl (wSs fun k=>k (R.s1 ..) rfl (eqT l34) (YTK R (YQm R w hw.2.2 [] w (pos+1) _ _ h2 (by rw [List.length_nil,Nat.zero_add]; exact Nat.le_trans hw.2.1 (by decide)) rfl rfl) h2 (YGW escQ YPM w) rfl rfl))
theorem o_a {c:Nat} (R:YAV Φ text n k p S) (hw:IsWord (c::w)) (h:text.drop pos=92::c::(w.flatMap escA++(gapOf g++r))):Go Φ oB k n m (en n k [] ch) (S pos line) (.ret (.str (c::w)),en n k (c::w) (some (.str (gapOf g))),S (pos+1+1+(w.flatMap escA).length+1) (line+((gapOf g).count 10:Nat))):=
 drp h fun h1 h2=>drp h2 fun h3 h4=>YRf R h1 l92 rfl (wSs fun k=>k (R.s1 ..) rfl (eqF l92 l34 (by decide)) (eqT l92) (R.s1 ..) (rd1 R h3 (hw.2.2 c (List.mem_cons_self ..))) (YLK (m:=0) (by decide)) (YTK R (YRt R w (fun x hx=>hw.2.2 x (List.mem_cons_of_mem _ hx)) [c] (c::w) (pos+1+1) _ _ h4 (by rw [Nat.add_comm]; exact Nat.le_trans hw.2.1 (by decide)) rfl rfl) h4 (YGW escA YNK w) rfl rfl))
theorem YRQ {d:Nat} {z:Fl×YF×List AO} (R:YAV Φ text n k p S) (hd:d=32∨d=10) (h1:text[pos]?=some d) (ih:∀ l:Int,line+([d].count 10:Nat)=l→Go Φ oB k n m (en n k [] (some (.str [d]))) (S (pos+1) l) z):Go Φ oB k n (m+1) (en n k [] ch) (S pos line) z:=by
 rcases hd with rfl | rfl
 ·exact YRG R h1 (by decide) rfl (wSs fun k=>k (R.s1 ..) rfl) (.inr rfl) (ih line (Int.add_zero line))
 ·exact YRG R h1 (by decide) rfl (wSs fun k=>k (R.s1 ..) rfl) (.inr rfl) (ih (line+1) rfl)
theorem YMn {d:Nat} {gs:List Nat} {l:Int} (h:line+([d].count 10:Nat)=l):line+((d::gs).count 10:Nat)=l+(gs.count 10:Nat):=by
 subst h
 rw [show d::gs=[d]++gs from rfl,List.count_append,Int.natCast_add,Int.add_assoc]
theorem YTg (R:YAV Φ text n k p S) (hw:IsWord w) (gs:List Nat) (hg:Gaps gs):∀ (pos fin:Nat) (line lf:Int) (ch:Option AV),text.drop pos=gs++(dress w q g++r)→pos+gs.length+took w q=fin→line+(gs.count 10:Nat)+(tookNl q g:Nat)=lf→
  Go Φ oB k n gs.length (en n k [] ch) (S pos line) (.ret (.str w),en n k w (some (.str (lastC q g))),S fin lf):=by
 induction gs with
 | nil=>
  intro pos fin line lf ch h hf hl
  subst hf hl
  rw [show line+(([]:List Nat).count 10:Nat)=line from Int.add_zero line]
  cases q with
  | true=>
   have e:=o_q (r:=gapOf g++r) (m:=0) (line:=line) (ch:=ch) R hw (h.trans (by show (([34]++w.flatMap escQ++[34])++gapOf g)++r=_; rw [List.append_assoc,List.append_assoc]; rfl))
   rw [show pos+1+(w.flatMap escQ).length+1=pos+0+((w.flatMap escQ).length+2) by rw [Nat.add_assoc pos,Nat.add_comm 1]; rfl] at e
   rw [show line+((tookNl true g:Nat):Int)=line from Int.add_zero line]
   exact e
  | false=>
   cases w with
   | nil=>exact absurd hw.1 (Nat.not_succ_le_zero 0)
   | cons c w=>
    have e:=o_a (r:=r) (g:=g) (m:=0) (line:=line) (ch:=ch) R hw (h.trans (by show ((escA c++w.flatMap escA)++gapOf g)++r=_; rw [List.append_assoc,List.append_assoc]; rfl))
    rw [show pos+1+1+(w.flatMap escA).length+1=pos+0+took (c::w) false by show _=pos+((escA c++w.flatMap escA).length+1); rw [List.length_append,Nat.add_assoc pos,Nat.add_assoc pos]; rfl] at e
    exact e
 | cons d gs ih=>
  intro pos fin line lf ch h hf hl
  refine drp (c:=d) h fun h1 h2=>YRQ R (hg d (List.mem_cons_self ..)) h1 fun l e=>ih (fun c hc=>hg c (List.mem_cons_of_mem _ hc)) (pos+1) fin l lf _ h2 ?_ ?_
  ·rw [←hf,Nat.add_assoc pos,Nat.add_comm 1]; rfl
  ·rw [←hl,YMn e]
theorem YTN (R:YAV Φ text n k p S) (gs:List Nat) (hg:Gaps gs):∀ (pos:Nat) (line lf:Int) (ch:Option AV),pos≤text.length→text.drop pos=gs→line+(gs.count 10:Nat)=lf→
  ∃ ch',Go Φ oB k n gs.length (en n k [] ch) (S pos line) (.next,en n k [] ch',(S text.length lf).set k (.citer n false)):=by
 induction gs with
 | nil=>
  intro pos line lf ch hp h hl
  have:pos=text.length:=Nat.le_antisymm hp (List.drop_eq_nil_iff.mp h)
  subst this
  cases (Int.add_zero line).symm.trans hl
  exact ⟨ch,YUb R⟩
 | cons d gs ih=>
  intro pos line lf ch hp h hl
  refine drp h fun h1 h2=>?_
  obtain ⟨ch',e⟩:=ih (fun c hc=>hg c (List.mem_cons_of_mem _ hc)) (pos+1) (line+([d].count 10:Nat)) lf (some (.str [d])) (List.getElem?_eq_some_iff.mp h1).1 h2 ((YMn rfl).symm.trans hl)
  exact ⟨ch',YRQ R (hg d (List.mem_cons_self ..)) h1 fun l e'=>by subst e'; exact e⟩
end
noncomputable def Φt:Tab:=Yn [(70,YAB)]
theorem Φt_70 {as:List AV} {σ:List AO}:Φt 70 as σ=YAB as σ:=by simp [Φt,Yn]
theorem YKE {σ:List AO} {text:List Nat} {n p pos0:Nat} {line0:Int} (hσ:Ok σ) (h:σ[n]?=some (.lexer text pos0 line0 p)) (hl:text.length≤lim):
  YAV Φt text n σ.length p (fun pos line=>σ.set n (.lexer text pos line p)++[.citer n true]):=by
 have hn:=(List.getElem?_eq_some_iff.mp h).1
 have hp:=YIE hσ h
 have s1:∀ pos line,(σ.set n (.lexer text pos line p)++[.citer n true])[n]?=some (.lexer text pos line p):=fun pos line=>by
  rw [List.getElem?_append_left (by rw [List.length_set]; exact hn),List.getElem?_set_self hn]
 have ok:∀ pos line,Ok (σ.set n (.lexer text pos line p)++[.citer n true]):=fun pos line=>by
  refine YDi (YDR hσ hp) ?_
  simp [aoOk]; exact Ze233 hn
 refine ⟨s1,fun pos line=>?_,fun pos line c hc h128=>?_,fun line=>?_⟩
 ·rw [List.getElem?_append_right (by rw [List.length_set]; exact Nat.le_refl _),List.length_set,Nat.sub_self]; rfl
 ·rw [Φt_70,YNh (ok pos line) (s1 pos line) hc h128 hl,List.set_append_left _ _ (by rw [List.length_set]; exact hn),List.set_set]
 ·rw [Φt_70,YLv (ok _ line) (s1 _ line) hl]
theorem YID {σ:List AO} {text:List Nat} {n p pos:Nat} {line:Int} {t:List Nat} {vs:List AV} (hσ:Ok σ) (h:σ[n]?=some (.lexer text pos line p)) (hp:σ[p]?=some (.list (.str t::vs))) (hv:vs.length<lim):
  YS [.loc n] σ=some (.str t,σ.set p (.list vs)):=by
 have o1:Ok (σ.set p (.list vs)):=YDR hσ (by have:=YIE hσ hp; simp only [aoOk,noLocs,Bool.and_eq_true] at this; exact this.2)
 have hlen:(σ.set p (.list vs)).length=σ.length:=List.length_set ..
 refine (Yt [some (.loc n),none,none,none] (σ1:=σ.set p (.list vs)) (v:=.str t) (v':=.str t) (ρ1:=[some (.loc n),none,none,none]) rfl rfl ?_ (by rw [hlen]; exact Nat.le_refl _) ?_ (YZ rfl)).trans ?_
 ·have ht:=YIW hp (show (AV.str t::vs).length≤lim by simp; exact Nat.lt_of_lt_of_le (by assumption) (by decide))
  exact wSs fun k=>k h ht h (YCO (m:=.pop0) (by simp) hp) (YRd hp (by lia))
 ·rw [←hlen,Yi]; exact o1
 ·rw [←hlen,Yi]
section
variable {σ:List AO} {text:List Nat} {n p pos:Nat} {line:Int}
theorem YGo (hσ:Ok σ) (h:σ[n]?=some (.lexer text pos line p)) (hp:σ[p]?=some (.list [])):
  exSs Φt YAL [some (.loc n),none,none,none] σ=(exS Φt (.forc 3 (.var 2) oB) [some (.loc n),some (.str []),some (.loc σ.length),none] (σ++[.citer n true])).bind fun p=>match p.1 with
  | .next=>exSs Φt (.cons (.ret (.var 1)) .nil) p.2.1 p.2.2
  | f=>some (f,p.2):=by
 have ht:=YIW hp (show ([]:List AV).length≤lim by simp)
 have e1:exS Φt (.ite (.val (.pushb (.var 0))) (.cons (.ret (.me .pop0 (.pushb (.var 0)) (.cons (.int 0) .nil))) .nil) .nil) [some (.loc n),none,none,none] σ=some (.next,[some (.loc n),none,none,none],σ):=by
  exact wS fun k=>k h ht
 have e2:exS Φt (.asg 1 (.str [])) [some (.loc n),none,none,none] σ=some (.next,[some (.loc n),some (.str []),none,none],σ):=by exact wS fun k=>k
 have e3:exS Φt (.asg 2 (.iterread (.var 0))) [some (.loc n),some (.str []),none,none] σ=some (.next,[some (.loc n),some (.str []),some (.loc σ.length),none],σ++[.citer n true]):=by exact wS fun k=>k h
 show exSs Φt (.cons _ (.cons _ (.cons _ (.cons (.forc 3 (.var 2) oB) (.cons (.ret (.var 1)) .nil))))) _ _=_
 rw [YC e1,YC e2,YC e3,YGj]
 all_goals rfl
theorem YHN (h:σ[n]?=some (.lexer text pos line p)):σ.set n (.lexer text pos line p)=σ:=by
 have hn:=(List.getElem?_eq_some_iff.mp h).1
 refine List.ext_getElem? fun i=>?_
 by_cases q:n=i
 ·subst q; rw [List.getElem?_set_self hn,h]
 ·rw [List.getElem?_set_ne q]
theorem YKF {o x:AO} {t:List Nat} {ρ1:YF} (hσ:Ok σ) (ho:aoOk σ.length o=true) (e:exSs Φt YAL [some (.loc n),none,none,none] σ=some (.ret (.str t),ρ1,σ.set n o++[x])):YS [.loc n] σ=some (.str t,σ.set n o):=by
 have l:(σ.set n o).length=σ.length:=List.length_set ..
 have k:(σ.set n o++[x]).take σ.length=σ.set n o:=by rw [←l,List.take_left]
 refine (Yt [some (.loc n),none,none,none] rfl rfl e (by rw [List.length_append,l]; exact Nat.le_add_right _ _) ?_ (YZ rfl)).trans (by rw [k])
 have:=YDR hσ (n:=n) ho
 rw [k,←l]
 exact this
theorem YKN (hσ:Ok σ) (h:σ[n]?=some (.lexer text pos line p)) (hp:σ[p]?=some (.list [])) (hl:text.length≤lim) {w:List Nat} {q g:Bool} {gs rest:List Nat} (hw:IsWord w) (hg:Gaps gs) (hd:text.drop pos=gs++(dress w q g++rest)):
  YS [.loc n] σ=some (.str w,σ.set n (.lexer text (pos+gs.length+took w q) (line+(gs.count 10:Nat)+(tookNl q g:Nat)) p)):=by
 have R:=YKE hσ h hl
 have e0:=YTK R (YTg R hw gs hg pos _ line _ none hd rfl rfl) hd (Nat.le_refl _) rfl rfl
 rw [YHN h] at e0
 exact YKF hσ (show aoOk σ.length (.lexer text pos line p)=true from YIE hσ h) ((YGo hσ h hp).trans (bs e0 rfl))
theorem YFC (hσ:Ok σ) (h:σ[n]?=some (.lexer text pos line p)) (hp:σ[p]?=some (.list [])) (hl:text.length≤lim) {gs:List Nat} (hg:Gaps gs) (hpos:pos≤text.length) (hd:text.drop pos=gs):
  YS [.loc n] σ=some (.str [],σ.set n (.lexer text text.length (line+(gs.count 10:Nat)) p)):=by
 have R:=YKE hσ h hl
 obtain ⟨ch',e⟩:=YTN R gs hg pos line _ none hpos hd rfl
 have e0:=YTK R e (hd.trans (List.append_nil gs).symm) (Nat.le_refl _) rfl rfl
 rw [YHN h,List.set_append_right _ _ (by rw [List.length_set]; exact Nat.le_refl _),List.length_set,Nat.sub_self] at e0
 exact YKF hσ (show aoOk σ.length (.lexer text pos line p)=true from YIE hσ h) ((YGo hσ h hp).trans (bs e0 rfl))
end
abbrev Pr:=Int×Int
noncomputable def pr (x:Pr):AV:=.tup [.int x.1,.int x.2]
noncomputable def ltP (x y:Pr):Bool:=if x.1=y.1 then (if x.2=y.2 then false else decide (x.2<y.2)) else decide (x.1<y.1)
theorem YLO {σ:List AO} {x y:Pr}:cmpA σ .Lt (pr x) (pr y)=some (ltP x y):=by
 refine YSs.trans ?_
 unfold ltP
 by_cases h1:x.1=y.1
 ·rw [if_pos h1,if_pos h1]
  refine YSs.trans ?_
  by_cases h2:x.2=y.2
  ·rw [if_pos h2,if_pos h2]; rfl
  ·rw [if_neg h2,if_neg h2]
 ·rw [if_neg h1,if_neg h1]
section
variable {t:YF→List AO→Option (Bool×List AO)} {f:YF→List AO→Option (Fl×YF×List AO)} {k:Nat} {ρ ρ':YF} {σ σ1 σ':List AO} {fl:Fl}
theorem YEi (h1:t ρ σ=some (true,σ1)) (h2:f ρ σ1=some (fl,ρ',σ')) (hf:fl=.next∨fl=.cont):whlGo t f (k+1) ρ σ=whlGo t f k ρ' σ':=
 YIn h1 h2 (by rcases hf with rfl | rfl <;> rfl)
theorem YPi (h1:t ρ σ=some (true,σ1)) (h2:f ρ σ1=some (.brk,ρ',σ')):whlGo t f (k+1) ρ σ=some (.next,ρ',σ'):=YIn h1 h2 rfl
theorem YGk (h1:t ρ σ=some (false,σ1)):whlGo t f (k+1) ρ σ=some (.next,ρ,σ1):=bs h1 rfl
end
noncomputable def sdw (s:Nat) (x:Pr):Nat→List Pr→Nat→List Pr×Nat
 | 0,l,pos=>(l,pos)
 | f+1,l,pos=>if pos≤s then (l,pos) else if ltP x (l.getD ((pos-1)/2) (0,0)) then sdw s x f (l.set pos (l.getD ((pos-1)/2) (0,0))) ((pos-1)/2) else (l,pos)
noncomputable def suw:Nat→List Pr→Nat→List Pr×Nat
 | 0,l,pos=>(l,pos)
 | f+1,l,pos=>if 2*pos+1<l.length then
   (if 2*pos+2<l.length∧ltP (l.getD (2*pos+1) (0,0)) (l.getD (2*pos+2) (0,0))=false then suw f (l.set pos (l.getD (2*pos+2) (0,0))) (2*pos+2) else suw f (l.set pos (l.getD (2*pos+1) (0,0))) (2*pos+1))
  else (l,pos)
section
variable {s f pos:Nat} {x:Pr} {l:List Pr}
theorem YQR (h:pos≤s):sdw s x (f+1) l pos=(l,pos):=if_pos h
theorem YQA (h:¬pos≤s) (hx:ltP x (l.getD ((pos-1)/2) (0,0))=true):sdw s x (f+1) l pos=sdw s x f (l.set pos (l.getD ((pos-1)/2) (0,0))) ((pos-1)/2):=(if_neg h).trans (if_pos hx)
theorem YOy (h:¬pos≤s) (hx:ltP x (l.getD ((pos-1)/2) (0,0))=false):sdw s x (f+1) l pos=(l,pos):=(if_neg h).trans (if_neg (by rw [hx]; exact Bool.false_ne_true))
theorem YOv (h:¬2*pos+1<l.length):suw (f+1) l pos=(l,pos):=if_neg h
theorem YOp (h:2*pos+1<l.length) (h2:2*pos+2<l.length) (hx:ltP (l.getD (2*pos+1) (0,0)) (l.getD (2*pos+2) (0,0))=false):suw (f+1) l pos=suw f (l.set pos (l.getD (2*pos+2) (0,0))) (2*pos+2):=(if_pos h).trans (if_pos ⟨h2,hx⟩)
theorem YKU (h:2*pos+1<l.length) (hx:¬(2*pos+2<l.length∧ltP (l.getD (2*pos+1) (0,0)) (l.getD (2*pos+2) (0,0))=false)):suw (f+1) l pos=suw f (l.set pos (l.getD (2*pos+1) (0,0))) (2*pos+1):=(if_pos h).trans (if_neg hx)
end
noncomputable def Lk (n:Nat) (r:List Pr×Nat):Prop:=r.1.length=n∧r.2<n
theorem YJo (s:Nat) (x:Pr) (f:Nat):∀ l pos,pos<l.length→Lk l.length (sdw s x f l pos):=by
 induction f with
 | zero=>exact fun l pos h=>⟨rfl,h⟩
 | succ f ih=>
  intro l pos h
  by_cases h0:pos≤s
  ·rw [YQR h0]; exact ⟨rfl,h⟩
  ·cases hx:ltP x (l.getD ((pos-1)/2) (0,0)) with
   | true=>
    rw [YQA h0 hx,←List.length_set]
    exact ih _ _ (by rw [List.length_set]; exact Ze236 h)
   | false=>rw [YOy h0 hx]; exact ⟨rfl,h⟩
theorem YKV (f:Nat):∀ l pos,pos<l.length→Lk l.length (suw f l pos):=by
 induction f with
 | zero=>exact fun l pos h=>⟨rfl,h⟩
 | succ f ih=>
  intro l pos h
  by_cases hc:2*pos+1<l.length
  ·by_cases hx:2*pos+2<l.length∧ltP (l.getD (2*pos+1) (0,0)) (l.getD (2*pos+2) (0,0))=false
   ·rw [YOp hc hx.1 hx.2,←List.length_set]
    exact ih _ _ (by rw [List.length_set]; exact hx.1)
   ·rw [YKU hc hx,←List.length_set]
    exact ih _ _ (by rw [List.length_set]; exact hc)
  ·rw [YOv hc]; exact ⟨rfl,h⟩
theorem YMP {l:List Pr} {i:Nat} (h:i<l.length):(l.map pr)[i]?=some (pr (l.getD i (0,0))):=by
 rw [List.getElem?_map,List.getElem?_eq_getElem h,List.getD_eq_getElem?_getD,List.getElem?_eq_getElem h]; rfl
theorem map_set (l:List Pr) (i:Nat) (x:Pr):(l.map pr).set i (pr x)=(l.set i x).map pr:=by rw [List.map_set]
noncomputable def sdT:T:=.cmp .Gt (.var 2) (.var 1)
noncomputable def sdB:Ss:=(.cons (.asg 4 (.bin .RShift (.bin .Sub (.var 2) (.int 1)) (.int 1)))
  (.cons (.asg 5 (.sub (.var 0) (.var 4)))
  (.cons (.ite (.cmp .Lt (.var 3) (.var 5)) (.cons (.sset (.var 0) (.var 2) (.var 5))
  (.cons (.asg 2 (.var 4))
  (.cons .cont
  .nil))) .nil)
  (.cons .brk
  .nil))))
noncomputable def Hs (σ:List AO) (n:Nat) (l:List Pr):List AO:=σ.set n (.list (l.map pr))
abbrev gt (l:List Pr) (i:Nat):Pr:=l.getD i (0,0)
noncomputable def sdE (n s:Nat) (p:Int) (x:Pr) (a b:Option AV):YF:=[some (.loc n),some (.int s),some (.int p),some (pr x),a,b]
section
variable {σ:List AO} {n i:Nat} {l:List Pr}
theorem YJr (hn:n<σ.length):(Hs σ n l)[n]?=some (.list (l.map pr)):=List.getElem?_set_self hn
theorem rdp (hn:n<σ.length) (hm:l.length≤1000) (hi:i<l.length):subA (Hs σ n l) (.loc n) (.int (i:Int))=some (pr (gt l i)):=
 (YGd (YJr hn) (Nat.lt_of_lt_of_le hi (Nat.le_trans hm (by decide)))).trans (YMP hi)
theorem wrp {x:Pr} (hn:n<σ.length) (hm:l.length≤1000) (hi:i<l.length):ssetA (Hs σ n l) (.loc n) (.int (i:Int)) (pr x)=some (Hs σ n (l.set i x)):=
 (YIo (YJr hn) (by rw [List.length_map]; exact hi) (by rw [List.length_map]; exact Nat.le_trans hm (by decide))).trans (by rw [Hs,List.set_set,map_set]; rfl)
end
section
variable {Φ:Tab} {σ σ':List AO} {n s:Nat} {p P:Int} {x v:Pr} {a b:Option AV}
theorem YUh (e1:(p-1)/2=P) (i1:subA σ (.loc n) (.int P)=some (pr v)) (hx:ltP x v=true) (s1:ssetA σ (.loc n) (.int p) (pr v)=some σ'):
  exSs Φ sdB (sdE n s p x a b) σ=some (.cont,sdE n s P x (some (.int P)) (some (pr v)),σ'):=by
 subst e1
 exact wSs fun k=>k YEt YRy i1 (YLO.trans (congrArg some hx)) s1
theorem YUg (e1:(p-1)/2=P) (i1:subA σ (.loc n) (.int P)=some (pr v)) (hx:ltP x v=false):
  exSs Φ sdB (sdE n s p x a b) σ=some (.brk,sdE n s p x (some (.int P)) (some (pr v)),σ):=by
 subst e1
 exact wSs fun k=>k YEt YRy i1 (YLO.trans (congrArg some hx))
end
theorem YPG {Φ:Tab} {σ:List AO} {n s:Nat} {x:Pr} (hn:n<σ.length) (f:Nat):∀ (pos:Nat) (l:List Pr) (a b:Option AV),pos<l.length→pos<f→l.length≤1000→
  ∃ a' b',whlGo (evT Φ sdT) (exSs Φ sdB) f (sdE n s pos x a b) (Hs σ n l)=some (.next,sdE n s (sdw s x f l pos).2 x a' b',Hs σ n (sdw s x f l pos).1):=by
 induction f with
 | zero=>exact fun pos l a b _ h=>absurd h (Nat.not_lt_zero _)
 | succ f ih=>
  intro pos l a b hl hf hm
  by_cases h0:pos≤s
  ·rw [YQR h0]
   exact ⟨a,b,YGk (wT fun k=>k (YPO.trans (congrArg some (decide_eq_false (Zi143 h0)))))⟩
  ·have t1:evT Φ sdT (sdE n s pos x a b) (Hs σ n l)=some (true,Hs σ n l):=wT fun k=>k (YPO.trans (congrArg some (decide_eq_true (Zi100 h0))))
   have i1:=rdp (l:=l) hn hm (Ze236 hl:(pos-1)/2<l.length)
   cases hx:ltP x (l.getD ((pos-1)/2) (0,0)) with
   | true=>
    rw [YQA h0 hx]
    obtain ⟨a',b',e⟩:=ih ((pos-1)/2) (l.set pos (gt l ((pos-1)/2))) (some (.int (((pos-1)/2:Nat):Int))) (some (pr (gt l ((pos-1)/2)))) (by rw [List.length_set]; exact Ze236 hl) (Ze238 hf h0) (by rw [List.length_set]; exact hm)
    exact ⟨a',b',(YEi t1 (YUh (Zi144 h0) i1 hx (wrp hn hm hl)) (.inr rfl)).trans e⟩
   | false=>rw [YOy h0 hx]; exact ⟨_,_,YPi t1 (YUg (Zi144 h0) i1 hx)⟩
theorem YJv (k:Nat) (l:List Pr):noLocs k (l.map pr)=true:=by
 rw [Yg,List.all_eq_true]
 intro v hv
 obtain ⟨x,_,rfl⟩:=List.mem_map.mp hv
 rfl
theorem YHQ {σ:List AO} {n:Nat} (h:Ok σ) (l:List Pr):Ok (σ.set n (.list (l.map pr))):=YDR h (YJv _ l)
noncomputable def sdF (s:Nat) (l:List Pr) (pos:Nat):List Pr:=(sdw s (l.getD pos (0,0)) 100 l pos).1.set (sdw s (l.getD pos (0,0)) 100 l pos).2 (l.getD pos (0,0))
theorem YPo {s:Nat} {l:List Pr} {pos:Nat} (h:pos<l.length):(sdF s l pos).length=l.length:=by
 unfold sdF; rw [List.length_set]; exact (YJo _ _ _ _ _ h).1
theorem YER {Φ:Tab} {np k:Nat} {body:Ss} {as:List AV} {σ:List AO} {ρ1:YF} {n:Nat} {l:List Pr} (ρ0:YF) (hσ:Ok σ) (h0:as.length=np) (hρ:as.map some++List.replicate (k-np) none=ρ0) (h1:exSs Φ body ρ0 σ=some (.next,ρ1,σ.set n (.list (l.map pr)))):
  runF Φ np k body as σ=some (.none,σ.set n (.list (l.map pr))):=by
 have hlen:(σ.set n (.list (l.map pr))).length=σ.length:=List.length_set ..
 refine (YFQ ρ0 h0 hρ h1 (by rw [hlen]; exact Nat.le_refl _) ?_).trans ?_
 ·rw [←hlen,Yi]; exact YHQ hσ l
 ·rw [←hlen,Yi]
theorem YCy {Φ:Tab} {np k:Nat} {body:Ss} {as:List AV} {σ:List AO} {ρ1:YF} {n:Nat} {l:List Pr} {v:AV} (ρ0:YF) (hσ:Ok σ) (h0:as.length=np) (hρ:as.map some++List.replicate (k-np) none=ρ0) (hv:noLoc σ.length v=true) (h1:exSs Φ body ρ0 σ=some (.ret v,ρ1,σ.set n (.list (l.map pr)))):
  runF Φ np k body as σ=some (v,σ.set n (.list (l.map pr))):=by
 have hlen:(σ.set n (.list (l.map pr))).length=σ.length:=List.length_set ..
 refine (Yt ρ0 h0 hρ h1 (by rw [hlen]; exact Nat.le_refl _) ?_ (YZ hv)).trans ?_
 ·rw [←hlen,Yi]; exact YHQ hσ l
 ·rw [←hlen,Yi]
theorem YGP {σ:List AO} {n:Nat} {l:List Pr} (h:σ[n]?=some (.list (l.map pr))):Hs σ n l=σ:=YBn h
theorem YMi {σ:List AO} {n:Nat} {l m:List Pr}:Hs (Hs σ n l) n m=Hs σ n m:=List.set_set ..
theorem YCk {σ:List AO} {n s pos:Nat} {l:List Pr} (hσ:Ok σ) (hn:σ[n]?=some (.list (l.map pr))) (hp:pos<l.length) (hl:l.length≤50):
  YBP [.loc n,.int s,.int pos] σ=some (.none,σ.set n (.list ((sdF s l pos).map pr))):=by
 have hnl:=(List.getElem?_eq_some_iff.mp hn).1
 have hm:l.length≤1000:=Nat.le_trans hl (by decide)
 obtain ⟨a,b,e⟩:=YPG (Φ:=Yn []) (s:=s) (x:=gt l pos) hnl 100 pos l none none hp (Nat.lt_of_lt_of_le hp (Nat.le_trans hl (by decide))) hm
 have hlen:=YJo s (gt l pos) 100 l pos hp
 have i1:=rdp hnl hm hp
 rw [YGP hn] at e i1
 exact YER [some (.loc n),some (.int s),some (.int pos),none,none,none] hσ rfl rfl
  (wSs fun k=>k i1 ((YHk ..).trans e) (wrp hnl (by rw [hlen.1]; exact hm) (by rw [hlen.1]; exact hlen.2)))
noncomputable def suT:T:=.cmp .Lt (.var 5) (.var 2)
noncomputable def suB:Ss:=(.cons (.asg 6 (.bin .Add (.var 5) (.int 1)))
  (.cons (.ite (.and (.cons (.cmp .Lt (.var 6) (.var 2)) (.cons (.not (.cmp .Lt (.sub (.var 0) (.var 5)) (.sub (.var 0) (.var 6)))) .nil))) (.cons (.asg 5 (.var 6))
  .nil) .nil)
  (.cons (.sset (.var 0) (.var 1) (.sub (.var 0) (.var 5)))
  (.cons (.asg 1 (.var 5))
  (.cons (.asg 5 (.bin .Add (.bin .Mult (.int 2) (.var 1)) (.int 1)))
  .nil)))))
noncomputable def suE (n:Nat) (p N:Int) (st x:AV) (c:Int) (r:Option AV):YF:=[some (.loc n),some (.int p),some (.int N),some st,some x,some (.int c),r]
theorem m2 {σ:List AO} {c:Nat} (h:c≤1000):binA σ .Mult (.int 2) (.int (c:Int))=some (.int (2*(c:Int))):=
 YLI (Bool.and_eq_true_iff.mpr ⟨rfl,Bool.and_eq_true_iff.mpr ⟨decide_eq_true (Int.le_trans (by decide) (Int.natCast_nonneg c)),decide_eq_true (Int.le_trans (Int.ofNat_le.mpr h) (by decide))⟩⟩)
section
variable {Φ:Tab} {σ σ':List AO} {n c:Nat} {p N C C1:Int} {st x:AV} {y z:Pr} {r:Option AV}
theorem YUZ (e:C+1=(c:Int)) (hN:(c:Int)<N) (i5:subA σ (.loc n) (.int C)=some (pr y)) (i6:subA σ (.loc n) (.int c)=some (pr z)) (hx:ltP y z=false) (s1:ssetA σ (.loc n) (.int p) (pr z)=some σ') (hc:c≤1000):
  exSs Φ suB (suE n p N st x C r) σ=some (.next,suE n c N st x (2*c+1:Nat) (some (.int c)),σ'):=
 wSs fun k=>k (ad e) (YMC.trans (congrArg some (decide_eq_true hN))) i5 i6 (YLO.trans (congrArg some hx)) i6 s1 (m2 hc) YAo
theorem YUd (e:(c:Int)+1=C1) (hN:C1<N) (i5:subA σ (.loc n) (.int c)=some (pr y)) (i6:subA σ (.loc n) (.int C1)=some (pr z)) (hx:ltP y z=true) (s1:ssetA σ (.loc n) (.int p) (pr y)=some σ') (hc:c≤1000):
  exSs Φ suB (suE n p N st x c r) σ=some (.next,suE n c N st x (2*c+1:Nat) (some (.int C1)),σ'):=
 wSs fun k=>k (ad e) (YMC.trans (congrArg some (decide_eq_true hN))) i5 i6 (YLO.trans (congrArg some hx)) i5 s1 (m2 hc) YAo
theorem YUa (e:(c:Int)+1=C1) (hN:¬C1<N) (i5:subA σ (.loc n) (.int c)=some (pr y)) (s1:ssetA σ (.loc n) (.int p) (pr y)=some σ') (hc:c≤1000):
  exSs Φ suB (suE n p N st x c r) σ=some (.next,suE n c N st x (2*c+1:Nat) (some (.int C1)),σ'):=
 wSs fun k=>k (ad e) (YMC.trans (congrArg some (decide_eq_false hN))) i5 s1 (m2 hc) YAo
end
theorem YQS {G:Prop} {Φ:Tab} {σ:List AO} {n pos:Nat} {x st:AV} {l:List Pr} {a:Option AV} (hn:n<σ.length) (hp:pos<l.length) (hm:l.length≤1000) (hc:2*pos+1<l.length)
  (k:∀ (c:Nat) (r:Option AV),pos<c→c<l.length→(∀ f,suw (f+1) l pos=suw f (l.set pos (gt l c)) c)→exSs Φ suB (suE n pos l.length st x (2*pos+1:Nat) a) (Hs σ n l)=some (.next,suE n c l.length st x (2*c+1:Nat) r,Hs σ n (l.set pos (gt l c)))→G):G:=by
 have ic:=rdp hn hm hc
 have h1:2*pos+1≤1000:=Nat.le_of_lt (Nat.lt_of_lt_of_le hc hm)
 by_cases hr:2*pos+2<l.length
 ·have ir:=rdp hn hm hr
  cases hx:ltP (gt l (2*pos+1)) (gt l (2*pos+2)) with
  | false=>exact k _ _ (Ze243) hr (fun f=>YOp hc hr hx) (YUZ Zi146 (Int.ofNat_lt.mpr hr) ic ir hx (wrp hn hm hp) (Nat.le_of_lt (Nat.lt_of_lt_of_le hr hm)))
  | true=>exact k _ _ (Ze244) hc (fun f=>YKU hc fun q=>Bool.noConfusion (hx.symm.trans q.2)) (YUd Zi146 (Int.ofNat_lt.mpr hr) ic ir hx (wrp hn hm hp) h1)
 ·exact k _ _ (Ze244) hc (fun f=>YKU hc fun q=>hr q.1) (YUa Zi146 (fun q=>hr (Int.ofNat_lt.mp q)) ic (wrp hn hm hp) h1)
theorem YNj {Φ:Tab} {σ:List AO} {n:Nat} {x st:AV} (hn:n<σ.length) (f:Nat):∀ (pos:Nat) (l:List Pr) (a:Option AV),pos<l.length→l.length-pos≤f→l.length≤1000→
  ∃ a' c',whlGo (evT Φ suT) (exSs Φ suB) (f+1) (suE n pos l.length st x (2*pos+1:Nat) a) (Hs σ n l)=some (.next,suE n (suw f l pos).2 l.length st x c' a',Hs σ n (suw f l pos).1):=by
 induction f with
 | zero=>exact fun pos l a h hf=>absurd hf (Nat.not_le_of_lt (Nat.sub_pos_of_lt h))
 | succ f ih=>
  intro pos l a hp hf hm
  by_cases hc:2*pos+1<l.length
  ·refine YQS (Φ:=Φ) (st:=st) (x:=x) (a:=a) hn hp hm hc fun c r hpc hcl hs hb=>?_
   obtain ⟨a',c',e⟩:=ih c (l.set pos (gt l c)) r (by rw [List.length_set]; exact hcl) (by rw [List.length_set]; exact Ze245 hf hpc) (by rw [List.length_set]; exact hm)
   rw [List.length_set] at e
   rw [hs f]
   have t1:evT Φ suT (suE n pos l.length st x (2*pos+1:Nat) a) (Hs σ n l)=some (true,Hs σ n l):=wT fun k=>k (YMC.trans (congrArg some (decide_eq_true (Int.ofNat_lt.mpr hc))))
   exact ⟨a',c',(YEi t1 hb (.inl rfl)).trans e⟩
  ·rw [YOv hc]
   exact ⟨a,_,YGk (wT fun k=>k (YMC.trans (congrArg some (decide_eq_false fun q=>hc (Int.ofNat_lt.mp q)))))⟩
noncomputable def suF (i:Nat) (l:List Pr):List Pr:=sdF i ((suw 99 l i).1.set (suw 99 l i).2 (l.getD i (0,0))) (suw 99 l i).2
theorem YPv {i:Nat} {l:List Pr} (h:i<l.length):(suF i l).length=l.length:=by
 have:=YKV 99 l i h
 unfold suF
 rw [YPo (by rw [List.length_set,this.1]; exact this.2),List.length_set,this.1]
theorem YCB {σ:List AO} {n i:Nat} {l:List Pr} (hσ:Ok σ) (hn:σ[n]?=some (.list (l.map pr))) (h0:i<l.length) (hl:l.length≤50):
  Yp [.loc n,.int i] σ=some (.none,σ.set n (.list ((suF i l).map pr))):=by
 have hnl:=(List.getElem?_eq_some_iff.mp hn).1
 have hm:l.length≤1000:=Nat.le_trans hl (by decide)
 obtain ⟨a,c,e⟩:=YNj (Φ:=Yn [(42,YBP)]) (x:=pr (gt l i)) (st:=.int i) hnl 99 i l none h0 (Nat.le_trans (Nat.sub_le ..) (Nat.le_trans hl (by decide))) hm
 have hlen:=YKV 99 l i h0
 have i1:=rdp hnl hm h0
 rw [YGP hn] at e i1
 have l1:biA σ .len [.loc n]=some (.int l.length):=by rw [YSQ hn (by rw [List.length_map]; exact Nat.le_trans hm (by decide)),List.length_map]
 have c1:=YCk (s:=i) (pos:=(suw 99 l i).2) (l:=(suw 99 l i).1.set (suw 99 l i).2 (gt l i)) (YHQ hσ _) (YJr hnl) (by rw [List.length_set,hlen.1]; exact hlen.2) (by rw [List.length_set,hlen.1]; exact hl)
 exact YER [some (.loc n),some (.int i),none,none,none,none,none] hσ rfl rfl
  (wSs fun k=>k l1 i1 (m2 (Nat.le_of_lt (Nat.lt_of_lt_of_le h0 hm))) YAo ((YHk ..).trans e) (wrp hnl (by rw [hlen.1]; exact hm) (by rw [hlen.1]; exact hlen.2)) (c1.trans (congrArg (fun τ=>some (AV.none,τ)) YMi)))
theorem tb49 {as:List AV} {σ:List AO}:Yn [(49,Yp)] 49 as σ=Yp as σ:=by simp [Yn]
theorem YBs (k:Nat) (x:Pr):noLoc k (pr x)=true:=rfl
theorem tb49' {as:List AV} {σ:List AO} {r:Option (AV×List AO)} (h:Yp as σ=r):Yn [(49,Yp)] 49 as σ=r:=tb49.trans h
theorem up0 {σ:List AO} {n:Nat} {l:List Pr} (hσ:Ok σ) (hn:n<σ.length) (h0:0<l.length) (hl:l.length≤50):Yn [(49,Yp)] 49 [.loc n,.int 0] (Hs σ n l)=some (.none,Hs σ n (suF 0 l)):=
 tb49' ((YCB (i:=0) (YHQ hσ l) (YJr hn) h0 hl).trans (congrArg (fun τ=>some (AV.none,τ)) YMi))
theorem YBz {σ:List AO} {n:Nat} {l:List Pr} {x:Pr} (hσ:Ok σ) (hn:σ[n]?=some (.list (l.map pr))) (h0:0<l.length) (hl:l.length≤50):
  Yz [.loc n,pr x] σ=some (pr (l.getD 0 (0,0)),σ.set n (.list ((suF 0 (l.set 0 x)).map pr))):=by
 have hnl:=(List.getElem?_eq_some_iff.mp hn).1
 have hm:l.length≤1000:=Nat.le_trans hl (by decide)
 have i1:=rdp hnl hm h0
 have s1:=wrp (x:=x) hnl hm h0
 rw [YGP hn] at i1 s1
 exact YCy [some (.loc n),some (pr x),none] hσ rfl rfl (YBs _ _)
  (wSs fun k=>k i1 s1 (up0 hσ hnl (by rw [List.length_set]; exact h0) (by rw [List.length_set]; exact hl)))
noncomputable def popF (l:List Pr) (last:Pr):List Pr:=if l=[] then [] else suF 0 (l.set 0 last)
theorem YDX {σ:List AO} {n:Nat} {l:List Pr} {last:Pr} (hσ:Ok σ) (hn:σ[n]?=some (.list ((l++[last]).map pr))) (hl:l.length<50):
  ∃ v,YBH [.loc n] σ=some (v,σ.set n (.list ((popF l last).map pr))):=by
 have hnl:=(List.getElem?_eq_some_iff.mp hn).1
 have hn':σ[n]?=some (.list (l.map pr++[pr last])):=by rw [hn,List.map_append]; rfl
 have hm:l.length≤1000:=Nat.le_trans (Nat.le_of_lt hl) (by decide)
 have p1:meA σ .pop (.loc n) []=some (pr last,Hs σ n l):=YTS hn' (by rw [List.length_map]; exact Nat.le_trans (Nat.succ_le_of_lt hl) (by decide))
 have m1:meOk σ .pop (.loc n)=true:=YCO (by decide) hn'
 have t1:truthA (Hs σ n l) (.loc n)=some (!(l.map pr).isEmpty):=YIW (YJr hnl) (by rw [List.length_map]; exact Nat.le_trans hm (by decide))
 cases l with
 | nil=>exact ⟨pr last,YCy [some (.loc n),none,none] hσ rfl rfl (YBs _ _) (wSs fun k=>k m1 p1 t1)⟩
 | cons y r=>
  exact ⟨pr y,YCy [some (.loc n),none,none] hσ rfl rfl (YBs _ _)
   (wSs fun k=>k m1 p1 t1 (rdp hnl hm (Nat.succ_pos _)) (wrp (x:=last) hnl hm (Nat.succ_pos _)) (up0 hσ hnl (Nat.succ_pos _) (by rw [List.length_set]; exact Nat.le_of_lt hl)))⟩
theorem YGI {σ:List AO} {text:List Nat} {n p pos:Nat} {line:Int} {t:List Nat} {vs:List AV} (hσ:Ok σ) (h:σ[n]?=some (.lexer text pos line p)) (hp:σ[p]?=some (.list vs)) (hv:vs.length<lim):
  YAJ [.loc n,.str t] σ=some (.none,σ.set p (.list (vs++[.str t]))):=by
 have o1:Ok (σ.set p (.list (vs++[.str t]))):=YDR hσ (by
  have:noLocs σ.length vs=true:=YIE hσ hp
  show noLocs σ.length (vs++[.str t])=true
  rw [Yg] at this ⊢
  rw [List.all_append,this]; rfl)
 have hlen:(σ.set p (.list (vs++[.str t]))).length=σ.length:=List.length_set ..
 refine (YFQ [some (.loc n),some (.str t)] (ρ1:=[some (.loc n),some (.str t)]) (σ1:=σ.set p (.list (vs++[.str t]))) rfl rfl ?_ (by rw [hlen]; exact Nat.le_refl _) ?_).trans ?_
 ·exact wSs fun k=>k h (YCO (by decide) hp) (YIl hp (Nat.le_of_lt hv))
 ·rw [←hlen,Yi]; exact o1
 ·rw [←hlen,Yi]
noncomputable def subC (x y:Nat):Int:=if x=y then 0 else if lowerC x=lowerC y then 1 else 2
theorem YHF {c:Nat} (h:c<128):lowerC c<128:=by unfold lowerC; split <;> (first | lia | assumption)
theorem YFT {σ:List AO} {x y:Nat} (hσ:Ok σ) (hx:x<128) (hy:y<128):YDA [.str [x],.str [y]] σ=some (.int (subC x y),σ):=by
 refine YAf [some (.str [x]),some (.str [y])] (ρ1:=[some (.str [x]),some (.str [y])]) hσ rfl rfl ?_ rfl
 by_cases h:x=y
 ·rw [show subC x y=0 from if_pos h]
  subst h
  exact wSs fun k=>k (eqT hx)
 ·have e:=eq1 (σ:=σ) (YHF hx) (YHF hy)
  by_cases h2:lowerC x=lowerC y
  ·rw [show subC x y=1 from (if_neg h).trans (if_pos h2)]
   exact wSs fun k=>k (eqF hx hy h) rfl (YEW hx) rfl (YEW hy) (e.trans (congrArg some (decide_eq_true h2)))
  ·rw [show subC x y=2 from (if_neg h).trans (if_neg h2)]
   exact wSs fun k=>k (eqF hx hy h) rfl (YEW hx) rfl (YEW hy) (e.trans (congrArg some (decide_eq_false h2)))
theorem YOV (a:Pr):ltP a a=false:=(if_pos rfl).trans (if_pos rfl)
theorem YIt (a b:Pr):ltP a b=true↔a.1<b.1∨(a.1=b.1∧a.2<b.2):=by
 by_cases h:a.1=b.1
 ·by_cases g:a.2=b.2
  ·rw [show ltP a b=false from (if_pos h).trans (if_pos g)]
   exact ⟨fun q=>Bool.noConfusion q,fun q=>q.elim (fun q=>absurd h (Int.ne_of_lt q)) fun q=>absurd g (Int.ne_of_lt q.2)⟩
  ·rw [show ltP a b=decide (a.2<b.2) from (if_pos h).trans (if_neg g),decide_eq_true_iff]
   exact ⟨fun q=>.inr ⟨h,q⟩,fun q=>q.elim (fun q=>absurd h (Int.ne_of_lt q)) fun q=>q.2⟩
 ·rw [show ltP a b=decide (a.1<b.1) from if_neg h,decide_eq_true_iff]
  exact ⟨.inl,fun q=>q.elim id fun q=>absurd q.1 h⟩
theorem YHT (a b:Pr):ltP a b=false↔b.1<a.1∨(a.1=b.1∧b.2≤a.2):=by
 rw [←Bool.not_eq_true,YIt]
 constructor
 ·intro q
  rcases Int.lt_trichotomy a.1 b.1 with h | h | h
  ·exact absurd (.inl h) q
  ·exact .inr ⟨h,Int.not_lt.mp fun g=>q (.inr ⟨h,g⟩)⟩
  ·exact .inl h
 ·rintro (h | ⟨h,g⟩) (q | ⟨q,r⟩)
  ·exact Int.lt_irrefl _ (Int.lt_trans h q)
  ·exact Int.ne_of_lt h q.symm
  ·exact Int.ne_of_lt q h
  ·exact Int.not_lt.mpr g r
theorem YTH (a b c:Pr) (h1:ltP a b=true) (h2:ltP b c=true):ltP a c=true:=by
 rw [YIt] at *
 rcases h1 with h | ⟨h,g⟩ <;> rcases h2 with q | ⟨q,r⟩
 ·exact .inl (Int.lt_trans h q)
 ·exact .inl (q▸h)
 ·exact .inl (h▸q)
 ·exact .inr ⟨h.trans q,Int.lt_trans g r⟩
theorem YQt (a b:Pr) (h1:ltP a b=false) (h2:ltP b a=false):a=b:=by
 rw [YHT] at *
 rcases h1 with h | ⟨h,g⟩ <;> rcases h2 with q | ⟨q,r⟩
 ·exact absurd q (Int.not_lt.mpr (Int.le_of_lt h))
 ·exact absurd q (Int.ne_of_lt h)
 ·exact absurd h (Int.ne_of_lt q)
 ·exact Prod.ext h (Int.le_antisymm r g)
noncomputable def oP:SO Pr:=⟨ltP,YOV,YTH,YQt⟩
theorem YB {a b:Pr} (h:ltP a b=true):oP.le a b:=oP.le_of_lt h
noncomputable def HO:List Pr→Prop
 | []=>True
 | [_]=>True
 | [a,b]=>oP.le a b
 | [a,b,c]=>oP.le a b∧oP.le a c
 | [a,b,c,d]=>oP.le a b∧oP.le a c∧oP.le b d
 | [a,b,c,d,e]=>oP.le a b∧oP.le a c∧oP.le b d∧oP.le b e
 | _=>False
theorem YGn:∀ {l:List Pr},HO l→l.length≤5
 | [],_=>Nat.zero_le _
 | [_],_=>of_decide_eq_true rfl
 | [_,_],_=>of_decide_eq_true rfl
 | [_,_,_],_=>of_decide_eq_true rfl
 | [_,_,_,_],_=>of_decide_eq_true rfl
 | [_,_,_,_,_],_=>Nat.le_refl _
 | _::_::_::_::_::_::_,h=>h.elim
theorem al0 {p:Pr→Prop}:∀ y∈([]:List Pr),p y:=fun _ h=>nomatch h
theorem al1 {p:Pr→Prop} {a:Pr} {r:List Pr} (h:p a) (g:∀ y∈r,p y):∀ y∈a::r,p y:=List.forall_mem_cons.mpr ⟨h,g⟩
theorem YQy:∀ {a:Pr} {r:List Pr},HO (a::r)→∀ y∈r,oP.le a y
 | _,[],_=>al0
 | _,[_],h=>al1 h al0
 | _,[_,_],h=>al1 h.1 (al1 h.2 al0)
 | _,[_,_,_],h=>al1 h.1 (al1 h.2.1 (al1 (oP.le_trans h.1 h.2.2) al0))
 | _,[_,_,_,_],h=>al1 h.1 (al1 h.2.1 (al1 (oP.le_trans h.1 h.2.2.1) (al1 (oP.le_trans h.1 h.2.2.2) al0)))
 | _,_::_::_::_::_::_,h=>h.elim
section
variable {f pos p q:Nat} {x:Pr} {l m k:List Pr} {r:List Pr×Nat}
theorem pm (l:List Pr) (a b:List Nat) (h:a.isPerm b=true):(a.map (gt l)).Perm (b.map (gt l)):=(List.isPerm_iff.mp h).map _
theorem s_r (h:decide (2*pos+2<l.length)=true) (hx:ltP (gt l (2*pos+1)) (gt l (2*pos+2))=false) (g:suw f (l.set pos (gt l (2*pos+2))) (2*pos+2)=r):suw (f+1) l pos=r:=
 (YOp (Nat.lt_of_succ_lt (of_decide_eq_true h)) (of_decide_eq_true h) hx).trans g
theorem s_l (h:decide (2*pos+1<l.length)=true) (hx:ltP (gt l (2*pos+1)) (gt l (2*pos+2))=true) (g:suw f (l.set pos (gt l (2*pos+1))) (2*pos+1)=r):suw (f+1) l pos=r:=
 (YKU (of_decide_eq_true h) fun q=>Bool.noConfusion (hx.symm.trans q.2)).trans g
theorem s_o (h:decide (2*pos+1<l.length)=true) (hx:decide (2*pos+2<l.length)=false) (g:suw f (l.set pos (gt l (2*pos+1))) (2*pos+1)=r):suw (f+1) l pos=r:=
 (YKU (of_decide_eq_true h) fun q=>of_decide_eq_false hx q.1).trans g
theorem s_e (h:decide (2*pos+1<l.length)=false):suw (f+1) l pos=(l,pos):=YOv (of_decide_eq_false h)
theorem d_t (h:decide (pos≤0)=false) (hx:ltP x (gt l ((pos-1)/2))=true) (g:sdw 0 x f (l.set pos (gt l ((pos-1)/2))) ((pos-1)/2)=r):sdw 0 x (f+1) l pos=r:=(YQA (of_decide_eq_false h) hx).trans g
theorem d_f (h:decide (pos≤0)=false) (hx:ltP x (gt l ((pos-1)/2))=false):sdw 0 x (f+1) l pos=(l,pos):=YOy (of_decide_eq_false h) hx
theorem d_0:sdw 0 x (f+1) l 0=(l,0):=YQR (Nat.le_refl _)
theorem rp (hw:suw 99 l 0=(m,p)) (hl:decide (p<m.length)=true) (hx:gt l 0=x) (hd:sdw 0 x 100 (m.set p x) p=(k,q)) (ho:HO (k.set q x)) (hp:(k.set q x).Perm l):HO (suF 0 l)∧(suF 0 l).Perm l:=by
 have e:suF 0 l=k.set q x:=by
  subst hx
  show sdF 0 ((suw 99 l 0).1.set (suw 99 l 0).2 (gt l 0)) (suw 99 l 0).2=_
  rw [hw]
  have z:gt (m.set p (gt l 0)) p=gt l 0:=by
   show (m.set p (gt l 0)).getD p (0,0)=gt l 0
   rw [List.getD_eq_getElem?_getD,List.getElem?_set_self (of_decide_eq_true hl)]; rfl
  show ((sdw 0 (gt (m.set p (gt l 0)) p) 100 (m.set p (gt l 0)) p).1).set (sdw 0 (gt (m.set p (gt l 0)) p) 100 (m.set p (gt l 0)) p).2 (gt (m.set p (gt l 0)) p)=_
  rw [z,hd]
 rw [e]; exact ⟨ho,hp⟩
end
abbrev ROk (l:List Pr):Prop:=HO (suF 0 l)∧(suF 0 l).Perm l
theorem repl2 (x b:Pr):ROk [x,b]:=by
 have w:suw 99 [x,b] 0=([b,b],1):=s_o rfl rfl (s_e rfl)
 cases h1:ltP x b
 ·exact rp w rfl rfl (d_f rfl h1) h1 (pm [x,b] [1,0] [0,1] rfl)
 ·exact rp w rfl rfl (d_t rfl h1 d_0) (YB h1) (List.Perm.refl _)
theorem repl3 (x b c:Pr):ROk [x,b,c]:=by
 cases h1:ltP b c
 ·have w:suw 99 [x,b,c] 0=([c,b,c],2):=s_r rfl h1 (s_e rfl)
  cases h2:ltP x c
  ·exact rp w rfl rfl (d_f rfl h2) ⟨h1,h2⟩ (pm [x,b,c] [2,1,0] [0,1,2] rfl)
  ·exact rp w rfl rfl (d_t rfl h2 d_0) ⟨oP.le_trans (YB h2) h1,YB h2⟩ (List.Perm.refl _)
 ·have w:suw 99 [x,b,c] 0=([b,b,c],1):=s_l rfl h1 (s_e rfl)
  cases h2:ltP x b
  ·exact rp w rfl rfl (d_f rfl h2) ⟨h2,YB h1⟩ (pm [x,b,c] [1,0,2] [0,1,2] rfl)
  ·exact rp w rfl rfl (d_t rfl h2 d_0) ⟨YB h2,oP.le_trans (YB h2) (YB h1)⟩ (List.Perm.refl _)
theorem repl4 (x b c d:Pr) (hd:oP.le b d):ROk [x,b,c,d]:=by
 cases h1:ltP b c
 ·have w:suw 99 [x,b,c,d] 0=([c,b,c,d],2):=s_r rfl h1 (s_e rfl)
  cases h2:ltP x c
  ·exact rp w rfl rfl (d_f rfl h2) ⟨h1,h2,hd⟩ (pm [x,b,c,d] [2,1,0,3] [0,1,2,3] rfl)
  ·exact rp w rfl rfl (d_t rfl h2 d_0) ⟨oP.le_trans (YB h2) h1,YB h2,hd⟩ (List.Perm.refl _)
 ·have w:suw 99 [x,b,c,d] 0=([b,d,c,d],3):=s_l rfl h1 (s_o rfl rfl (s_e rfl))
  cases h2:ltP x d
  ·exact rp w rfl rfl (d_f rfl h2) ⟨hd,YB h1,h2⟩ (pm [x,b,c,d] [1,3,2,0] [0,1,2,3] rfl)
  ·cases h3:ltP x b
   ·exact rp w rfl rfl (d_t rfl h2 (d_f rfl h3)) ⟨h3,YB h1,YB h2⟩ (pm [x,b,c,d] [1,0,2,3] [0,1,2,3] rfl)
   ·exact rp w rfl rfl (d_t rfl h2 (d_t rfl h3 d_0)) ⟨YB h3,oP.le_trans (YB h3) (YB h1),hd⟩ (List.Perm.refl _)
theorem repl5 (x b c d f:Pr) (hd:oP.le b d) (hf:oP.le b f):ROk [x,b,c,d,f]:=by
 cases h1:ltP b c
 ·have w:suw 99 [x,b,c,d,f] 0=([c,b,c,d,f],2):=s_r rfl h1 (s_e rfl)
  cases h2:ltP x c
  ·exact rp w rfl rfl (d_f rfl h2) ⟨h1,h2,hd,hf⟩ (pm [x,b,c,d,f] [2,1,0,3,4] [0,1,2,3,4] rfl)
  ·exact rp w rfl rfl (d_t rfl h2 d_0) ⟨oP.le_trans (YB h2) h1,YB h2,hd,hf⟩ (List.Perm.refl _)
 ·cases h0:ltP d f
  ·have w:suw 99 [x,b,c,d,f] 0=([b,f,c,d,f],4):=s_l rfl h1 (s_r rfl h0 (s_e rfl))
   cases h2:ltP x f
   ·exact rp w rfl rfl (d_f rfl h2) ⟨hf,YB h1,h0,h2⟩ (pm [x,b,c,d,f] [1,4,2,3,0] [0,1,2,3,4] rfl)
   ·cases h3:ltP x b
    ·exact rp w rfl rfl (d_t rfl h2 (d_f rfl h3)) ⟨h3,YB h1,oP.le_trans (YB h2) h0,YB h2⟩ (pm [x,b,c,d,f] [1,0,2,3,4] [0,1,2,3,4] rfl)
    ·exact rp w rfl rfl (d_t rfl h2 (d_t rfl h3 d_0)) ⟨YB h3,oP.le_trans (YB h3) (YB h1),hd,hf⟩ (List.Perm.refl _)
  ·have w:suw 99 [x,b,c,d,f] 0=([b,d,c,d,f],3):=s_l rfl h1 (s_l rfl h0 (s_e rfl))
   cases h2:ltP x d
   ·exact rp w rfl rfl (d_f rfl h2) ⟨hd,YB h1,h2,YB h0⟩ (pm [x,b,c,d,f] [1,3,2,0,4] [0,1,2,3,4] rfl)
   ·cases h3:ltP x b
    ·exact rp w rfl rfl (d_t rfl h2 (d_f rfl h3)) ⟨h3,YB h1,YB h2,oP.le_trans (YB h2) (YB h0)⟩ (pm [x,b,c,d,f] [1,0,2,3,4] [0,1,2,3,4] rfl)
    ·exact rp w rfl rfl (d_t rfl h2 (d_t rfl h3 d_0)) ⟨YB h3,oP.le_trans (YB h3) (YB h1),hd,hf⟩ (List.Perm.refl _)
theorem YQE {x:Pr}:∀ {a:Pr} {r:List Pr},HO (a::r)→ROk (x::r)
 | _,[],_=>⟨trivial,List.Perm.refl _⟩
 | _,[_],_=>repl2 ..
 | _,[_,_],_=>repl3 ..
 | _,[_,_,_],h=>repl4 _ _ _ _ h.2.2
 | _,[_,_,_,_],h=>repl5 _ _ _ _ _ h.2.2.1 h.2.2.2
 | _,_::_::_::_::_::_,h=>h.elim
theorem YNp {last:Pr}:∀ {l:List Pr},HO (l++[last])→HO (popF l last)∧(popF l last).Perm (l++[last]).tail
 | [],_=>⟨trivial,List.Perm.refl _⟩
 | [_],_=>⟨trivial,List.Perm.refl _⟩
 | [_,b],_=>⟨(repl2 last b).1,(repl2 last b).2.trans (pm [last,b] [0,1] [1,0] rfl)⟩
 | [_,b,c],_=>⟨(repl3 last b c).1,(repl3 last b c).2.trans (pm [last,b,c] [0,1,2] [1,2,0] rfl)⟩
 | [_,b,c,d],h=>⟨(repl4 last b c d h.2.2.1).1,(repl4 last b c d h.2.2.1).2.trans (pm [last,b,c,d] [0,1,2,3] [1,2,3,0] rfl)⟩
 | _::_::_::_::_::r,h=>absurd (YGn h) (by
  show ¬(r++[last]).length+1+1+1+1+1≤5
  rw [List.length_append]
  exact Nat.not_le_of_lt (Nat.lt_add_of_pos_left (Nat.succ_pos _)))
theorem YJt {F:AV→YF→List AO→Option (Fl×YF×List AO)} {it v:AV} {k i:Nat} {ρ ρ1:YF} {σ σ1:List AO} {r:Option (Fl×YF×List AO)} (h:nthA σ it i=some (some v)) (h1:F v ρ σ=some (.next,ρ1,σ1)) (h2:forGo F it k (i+1) ρ1 σ1=r):forGo F it (k+1) i ρ σ=r:=YKk h h1 h2
theorem YON {Φ:Tab} {i:Nat} {n:E} {b:Ss} {ρ:YF} {σ σ1:List AO} {r:Option (Fl×YF×List AO)} {k:Int} (h1:evE Φ n ρ σ=some (.int k,σ1)) (hf:fits k=true∧0≤k) (h:forGo (fun v ρ σ=>exSs Φ b (ρ.set i (some v)) σ) (.rng (k-1) (-1) (-1)) (k.toNat+1) 0 ρ σ1=r):exS Φ (.forr i n b) ρ σ=r:=bs h1 ((if_pos hf).trans h)
noncomputable def hpB:Ss:=.cons (.expr (.call 49 (.cons (.var 0) (.cons (.var 2) .nil)))) .nil
noncomputable def hpE (n:Nat) (v:Option AV):YF:=[some (.loc n),some (.int 5),v]
theorem YDV {σ:List AO} {n:Nat} {l:List Pr} (hσ:Ok σ) (hn:σ[n]?=some (.list (l.map pr))) (hl:l.length=5):
  YBF [.loc n] σ=some (.none,σ.set n (.list ((suF 0 (suF 1 l)).map pr))):=by
 have hnl:=(List.getElem?_eq_some_iff.mp hn).1
 have l1:biA σ .len [.loc n]=some (.int 5):=by rw [YSQ hn (by rw [List.length_map,hl]; decide),List.length_map,hl]; rfl
 have q1:(suF 1 l).length=5:=(YPv (by rw [hl]; decide)).trans hl
 have c1:Yp [.loc n,.int 1] σ=some (.none,Hs σ n (suF 1 l)):=YCB (i:=1) hσ hn (by rw [hl]; decide) (by rw [hl]; decide)
 have f1:exSs (Yn [(49,Yp)]) hpB (hpE n (some (.int 1))) σ=some (.next,hpE n (some (.int 1)),Hs σ n (suF 1 l)):=wSs fun k=>k (tb49' c1)
 have f2:exSs (Yn [(49,Yp)]) hpB (hpE n (some (.int 0))) (Hs σ n (suF 1 l))=some (.next,hpE n (some (.int 0)),Hs σ n (suF 0 (suF 1 l))):=wSs fun k=>k (up0 hσ hnl (by rw [q1]; decide) (by rw [q1]; decide))
 have e2:exS (Yn [(49,Yp)]) (.forr 2 (.bin .FloorDiv (.var 1) (.int 2)) hpB) (hpE n none) σ=some (.next,hpE n (some (.int 0)),Hs σ n (suF 0 (suF 1 l))):=by
  refine YON (k:=2) (wE fun k=>k (YDe (by decide) (by decide))) ⟨rfl,by decide⟩ ?_
  exact YJt (k:=2) rfl f1 (YJt (k:=1) rfl f2 (YIb (k:=0) rfl))
 exact YER [some (.loc n),none,none] hσ rfl rfl (wSs fun k=>k l1 e2)
noncomputable def heap0:List Pr:=[(-9,0),(-9,1),(-9,2),(-9,3),(-9,4)]
theorem YIL:suF 0 (suF 1 heap0)=heap0:=by decide
theorem YLW:HO heap0:=by
 exact ⟨(by decide:ltP (-9,1) (-9,0)=false),(by decide:ltP (-9,2) (-9,0)=false),(by decide:ltP (-9,3) (-9,1)=false),(by decide:ltP (-9,4) (-9,1)=false)⟩
end Mine
end
section
namespace Mine
noncomputable def subN (x y:Nat):Nat:=if x=y then 0 else if lowerC x=lowerC y then 1 else 2
theorem YNc (x y:Nat):subC x y=(subN x y:Int):=by
 unfold subC subN
 repeat' split
 all_goals rfl
theorem YFj (x:Nat):subN x x=0:=by simp [subN]
theorem YFz (x y:Nat):subN x y=subN y x:=by
 unfold subN
 by_cases h:x=y
 ·subst h; rfl
 ·rw [if_neg h,if_neg (Ne.symm h)]
  by_cases h2:lowerC x=lowerC y
  ·rw [if_pos h2,if_pos h2.symm]
  ·rw [if_neg h2,if_neg (Ne.symm h2)]
theorem YEL (x y:Nat):subN x y≤2:=by
 unfold subN
 repeat' split
 all_goals (first | exact Ze250 | exact Ze251 | exact Ze252)
theorem YLC (x y z:Nat):subN x z≤subN x y+subN y z:=by
 unfold subN
 by_cases h1:x=y
 ·subst h1; simp
 ·by_cases h2:y=z
  ·subst h2; simp
  ·rw [if_neg h1,if_neg h2]
   by_cases h3:lowerC x=lowerC y
   ·by_cases h4:lowerC y=lowerC z
    ·rw [if_pos h3,if_pos h4,if_pos (h3.trans h4)]
     split <;> (first | exact Ze253 | exact Ze254)
    ·rw [if_pos h3,if_neg h4]
     repeat' split
     all_goals (first | exact Ze255 | exact Ze256 | exact Ze257)
   ·rw [if_neg h3]
    repeat' split
    all_goals lia
inductive Edit:List Nat→List Nat→Nat→Prop
 | nil:Edit [] [] 0
 | del {a b:List Nat} {n:Nat} (x:Nat):Edit a b n→Edit (x::a) b (n+2)
 | ins {a b:List Nat} {n:Nat} (y:Nat):Edit a b n→Edit a (y::b) (n+2)
 | sub {a b:List Nat} {n:Nat} (x y:Nat):Edit a b n→Edit (x::a) (y::b) (n+subN x y)
theorem Edit.symm {a b:List Nat} {n:Nat} (h:Edit a b n):Edit b a n:=by
 induction h with
 | nil=>exact .nil
 | del x _ ih=>exact .ins x ih
 | ins y _ ih=>exact .del y ih
 | sub x y _ ih=>rw [YFz]; exact .sub y x ih
theorem Edit.refl:∀ a:List Nat,Edit a a 0
 | []=>.nil
 | x::a=>by have:=Edit.sub x x (Edit.refl a); rwa [YFj] at this
theorem Edit.append {c e:List Nat} {m:Nat} (k:Edit c e m) {a b:List Nat} {n:Nat} (h:Edit a b n):Edit (a++c) (b++e) (n+m):=by
 induction h with
 | nil=>rw [Nat.zero_add]; exact k
 | @del _ _ n x _ ih=>rw [Nat.add_right_comm]; exact .del x ih
 | @ins _ _ n y _ ih=>rw [Nat.add_right_comm]; exact .ins y ih
 | sub x y _ ih=>rw [Nat.add_right_comm]; exact .sub x y ih
theorem Edit.reverse {a b:List Nat} {n:Nat} (h:Edit a b n):Edit a.reverse b.reverse n:=by
 induction h with
 | nil=>exact .nil
 | del x _ ih=>
  have:=Edit.append (Edit.del x .nil) ih
  rwa [←List.reverse_cons,List.append_nil] at this
 | ins y _ ih=>
  have:=Edit.append (Edit.ins y .nil) ih
  rwa [←List.reverse_cons,List.append_nil] at this
 | sub x y _ ih=>
  have:=Edit.append (Edit.sub x y .nil) ih
  rwa [←List.reverse_cons,←List.reverse_cons,Nat.zero_add] at this
theorem Edit.nil_l {a b:List Nat} {n:Nat} (h:Edit a b n):a=[]→n=2*b.length:=by
 induction h with
 | nil=>exact fun _=>rfl
 | del=>exact fun h=>nomatch h
 | ins y _ ih=>exact fun h=>by rw [ih h]; rfl
 | sub=>exact fun h=>nomatch h
theorem Edit.nil_left {b:List Nat} {n:Nat} (h:Edit [] b n):n=2*b.length:=h.nil_l rfl
theorem Edit.all_ins:∀ b:List Nat,Edit [] b (2*b.length)
 | []=>.nil
 | y::b=>by have:=Edit.ins y (Edit.all_ins b); simpa [Nat.mul_add] using this
theorem Edit.len {a b:List Nat} {n:Nat} (h:Edit a b n):2*b.length≤n+2*a.length∧2*a.length≤n+2*b.length:=by
 induction h with
 | nil=>exact ⟨Nat.le_refl _,Nat.le_refl _⟩
 | del x _ ih=>rw [List.length_cons]; exact ⟨Ze267 ih.1,Ze268 ih.2⟩
 | ins y _ ih=>rw [List.length_cons]; exact ⟨Ze268 ih.1,Ze267 ih.2⟩
 | sub x y _ ih=>rw [List.length_cons,List.length_cons]; exact ⟨Ze269 ih.1,Ze269 ih.2⟩
theorem Edit.tri (N:Nat):∀ {a b c:List Nat} {n m:Nat},a.length+b.length+c.length≤N→Edit a b n→Edit b c m→∃ k,k≤n+m∧Edit a c k:=by
 induction N with
 | zero=>
  intro a b c n m hN h1 h2
  cases h1 with
  | nil=>exact ⟨m,by exact Ze270,h2⟩
  | del x h=>simp at hN
  | ins x h=>simp at hN
  | sub x y h=>simp at hN
 | succ N ih=>
  intro a b c n m hN h1 h2
  cases h1 with
  | nil=>exact ⟨m,by exact Ze270,h2⟩
  | del x h=>
   obtain ⟨k,hk,e⟩:=ih (by simp at hN ⊢; exact Ze271 hN) h h2
   exact ⟨k+2,by exact Ze272 hk,.del x e⟩
  | ins y h=>
   cases h2 with
   | del _ g=>
    obtain ⟨k,hk,e⟩:=ih (by simp at hN ⊢; exact Ze273 hN) h g
    exact ⟨k,by exact Ze274 hk,e⟩
   | ins z g=>
    obtain ⟨k,hk,e⟩:=ih (by simp at hN ⊢; exact Ze275 hN) (.ins y h) g
    exact ⟨k+2,by exact Ze276 hk,.ins z e⟩
   | sub _ z g=>
    obtain ⟨k,hk,e⟩:=ih (by simp at hN ⊢; exact Ze277 hN) h g
    exact ⟨k+2,by exact Ze278 hk,.ins z e⟩
  | sub x y h=>
   cases h2 with
   | del _ g=>
    obtain ⟨k,hk,e⟩:=ih (by simp at hN ⊢; exact Ze279 hN) h g
    exact ⟨k+2,by exact Ze280 hk,.del x e⟩
   | ins z g=>
    obtain ⟨k,hk,e⟩:=ih (by simp at hN ⊢; exact Ze281 hN) (.sub x y h) g
    exact ⟨k+2,by exact Ze282 hk,.ins z e⟩
   | sub _ z g=>
    obtain ⟨k,hk,e⟩:=ih (by simp at hN ⊢; exact Ze283 hN) h g
    exact ⟨k+subN x z,by have:=YLC x y z; exact Ze284 hk this,.sub x z e⟩
noncomputable def IsEd (a b:List Nat) (d:Nat):Prop:=Edit a b d∧∀ n,Edit a b n→d≤n
theorem IsEd.uniq {a b:List Nat} {d d':Nat} (h:IsEd a b d) (h':IsEd a b d'):d=d':=Nat.le_antisymm (h.2 _ h'.1) (h'.2 _ h.1)
theorem IsEd.symm {a b:List Nat} {d:Nat} (h:IsEd a b d):IsEd b a d:=⟨h.1.symm,fun n e=>h.2 n e.symm⟩
theorem IsEd.reverse {a b:List Nat} {d:Nat} (h:IsEd a b d):IsEd a.reverse b.reverse d:=⟨h.1.reverse,fun n e=>h.2 n (by have:=e.reverse; simpa using this)⟩
theorem IsEd.self (a:List Nat):IsEd a a 0:=⟨Edit.refl a,fun _ _=>Nat.zero_le _⟩
theorem IsEd.nil_left (b:List Nat):IsEd [] b (2*b.length):=⟨Edit.all_ins b,fun n e=>by rw [e.nil_left]; exact Nat.le_refl _⟩
theorem IsEd.nil_right (b:List Nat):IsEd b [] (2*b.length):=(IsEd.nil_left b).symm
theorem IsEd.tri {a b c:List Nat} {x y z:Nat} (h1:IsEd a b x) (h2:IsEd b c y) (h3:IsEd a c z):z≤x+y:=by
 obtain ⟨k,hk,e⟩:=Edit.tri _ (Nat.le_refl _) h1.1 h2.1
 exact Nat.le_trans (h3.2 k e) hk
theorem IsEd.cons {a b:List Nat} {d:Nat} (x:Nat) (h:IsEd a b d):IsEd (x::a) (x::b) d:=by
 refine ⟨by have:=Edit.sub x x h.1; rwa [YFj] at this,fun n e=>?_⟩
 have drop:∀ c:List Nat,Edit (x::c) c 2:=fun c=>by have:=Edit.del x (Edit.refl c); simpa using this
 cases e with
 | del _ e=>
  obtain ⟨k,hk,e'⟩:=Edit.tri _ (Nat.le_refl _) e (drop b)
  exact Nat.le_trans (h.2 k e') hk
 | ins _ e=>
  obtain ⟨k,hk,e'⟩:=Edit.tri _ (Nat.le_refl _) (drop a).symm e
  have:=h.2 k e'
  exact Ze285 hk this
 | sub _ _ e=>have:=h.2 _ e; exact Ze161 this
theorem IsEd.pre {a b:List Nat} {d:Nat}:∀ (p:List Nat),IsEd a b d→IsEd (p++a) (p++b) d
 | [],h=>h
 | x::p,h=>IsEd.cons x (IsEd.pre p h)
theorem IsEd.post {a b:List Nat} {d:Nat} (p:List Nat) (h:IsEd a b d):IsEd (a++p) (b++p) d:=by
 have:=(IsEd.pre p.reverse h.reverse).reverse
 simpa using this
theorem IsEd.snoc {a b:List Nat} {x y u v w:Nat} (h1:IsEd a b u) (h2:IsEd (a++[x]) b v) (h3:IsEd a (b++[y]) w):IsEd (a++[x]) (b++[y]) (min (min v w+2) (u+subN x y)):=by
 have e1:Edit (a++[x]) (b++[y]) (u+subN x y):=by have:=Edit.append (Edit.sub x y .nil) h1.1; simpa using this
 have e2:Edit (a++[x]) (b++[y]) (v+2):=by have:=Edit.append (Edit.ins y .nil) h2.1; simpa using this
 have e3:Edit (a++[x]) (b++[y]) (w+2):=by have:=Edit.append (Edit.del x .nil) h3.1; simpa using this
 refine ⟨?_,fun n e=>?_⟩
 ·rcases Nat.le_total (min v w+2) (u+subN x y) with q | q
  ·rw [Nat.min_eq_left q]
   rcases Nat.le_total v w with r | r
   ·rw [Nat.min_eq_left r]; exact e2
   ·rw [Nat.min_eq_right r]; exact e3
  ·rw [Nat.min_eq_right q]; exact e1
 ·have e:=e.reverse
  simp only [List.reverse_append,List.reverse_cons,List.reverse_nil,List.nil_append,List.cons_append] at e
  cases e with
  | del _ f=>
   have g:=f.reverse
   simp only [List.reverse_reverse,List.reverse_cons] at g
   have:=h3.2 _ g
   exact Ze286 this
  | ins _ f=>
   have g:=f.reverse
   simp only [List.reverse_reverse,List.reverse_cons] at g
   have:=h2.2 _ g
   exact Ze287 this
  | sub _ _ f=>
   have g:=f.reverse
   simp only [List.reverse_reverse] at g
   have:=h1.2 _ g
   exact Ze288 this
theorem Edit.cut {a b:List Nat} {n:Nat} (h:Edit a b n):∀ b1 b2,b=b1++b2→∃ a1 a2 n1 n2,a=a1++a2∧n=n1+n2∧Edit a1 b1 n1∧Edit a2 b2 n2:=by
 induction h with
 | nil=>exact fun b1 b2 e=>⟨[],[],0,0,rfl,rfl,by rw [(List.append_eq_nil_iff.mp e.symm).1]; exact .nil,by rw [(List.append_eq_nil_iff.mp e.symm).2]; exact .nil⟩
 | del x _ ih=>
  intro b1 b2 e
  obtain ⟨a1,a2,n1,n2,rfl,rfl,h1,h2⟩:=ih b1 b2 e
  exact ⟨x::a1,a2,n1+2,n2,rfl,Nat.add_right_comm ..,.del x h1,h2⟩
 | ins z h ih=>
  intro b1 b2 e
  cases b1 with
  | nil=>exact ⟨[],_,0,_,rfl,(Nat.zero_add _).symm,.nil,by rw [show b2=_ from e.symm]; exact .ins z h⟩
  | cons y b1=>
   obtain ⟨rfl,e'⟩:=List.cons.inj e
   obtain ⟨a1,a2,n1,n2,rfl,rfl,h1,h2⟩:=ih b1 b2 e'
   exact ⟨a1,a2,n1+2,n2,rfl,Nat.add_right_comm ..,.ins z h1,h2⟩
 | sub x z h ih=>
  intro b1 b2 e
  cases b1 with
  | nil=>exact ⟨[],_,0,_,rfl,(Nat.zero_add _).symm,.nil,by rw [show b2=_ from e.symm]; exact .sub x z h⟩
  | cons y b1=>
   obtain ⟨rfl,e'⟩:=List.cons.inj e
   obtain ⟨a1,a2,n1,n2,rfl,rfl,h1,h2⟩:=ih b1 b2 e'
   exact ⟨x::a1,a2,n1+subN x z,n2,rfl,Nat.add_right_comm ..,.sub x z h1,h2⟩
theorem YPs {a b:List Nat} {d:Nat} (h:IsEd a b d) (ha:a≠[]) {j:Nat} (hj:j<b.length):∃ i k,i<a.length∧k≤d∧Edit (a.take (i+1)) (b.take (j+1)) k:=by
 obtain ⟨a1,a2,n1,n2,rfl,rfl,h1,h2⟩:=h.1.cut (b.take (j+1)) (b.drop (j+1)) (List.take_append_drop ..).symm
 cases a1 with
 | nil=>
  cases a2 with
  | nil=>exact absurd rfl ha
  | cons x a2=>
   have e:=h1.nil_left
   obtain ⟨y,b',hb⟩:∃ y b',b.take (j+1)=y::b':=by
    cases b with
    | nil=>simp at hj
    | cons y r=>exact ⟨y,r.take j,rfl⟩
   rw [hb] at e ⊢
   refine ⟨0,2*b'.length+subN x y,by simp,?_,?_⟩
   ·have:=YEL x y
    simp at e; exact Ze290 e this
   ·have:=Edit.sub x y (Edit.all_ins b')
    simpa using this
 | cons x a1=>
  refine ⟨a1.length,n1,by simp; exact Ze291,by exact Ze12,?_⟩
  have:(x::a1++a2).take (a1.length+1)=x::a1:=by simp
  rw [this]
  exact h1
end Mine
end
section
open PySem PySem.Spec
namespace Mine
noncomputable def cpl:List Nat→List Nat→Nat
 | x::a,y::b=>if x=y then cpl a b+1 else 0
 | _,_=>0
theorem YNm:∀ b:List Nat,cpl [] b=0
 | []=>rfl
 | _::_=>rfl
theorem YNR {x y:Nat} {a b:List Nat} (h:x=y):cpl (x::a) (y::b)=cpl a b+1:=if_pos h
theorem YPY {x y:Nat} {a b:List Nat} (h:¬x=y):cpl (x::a) (y::b)=0:=if_neg h
theorem YGJ {M:List Nat→List Nat→Nat→Prop} (h0:∀ a b,M a b 0) (h1:∀ x a b k,M a b k→M (x::a) (x::b) (k+1)):∀ a b:List Nat,M a b (cpl a b)
 | [],b=>YNm b▸h0 [] b
 | x::a,[]=>h0 _ _
 | x::a,y::b=>by
  by_cases h:x=y
  ·rw [YNR h]; subst h; exact h1 _ _ _ _ (YGJ h0 h1 a b)
  ·rw [YPY h]; exact h0 _ _
theorem YLZ (a b:List Nat):a.take (cpl a b)=b.take (cpl a b):=YGJ (M:=fun a b k=>a.take k=b.take k) (fun _ _=>rfl) (fun x _ _ _ h=>congrArg (x::·) h) a b
theorem YMt (a b:List Nat):cpl a b≤a.length∧cpl a b≤b.length:=YGJ (M:=fun a b k=>k≤a.length∧k≤b.length) (fun _ _=>⟨Nat.zero_le _,Nat.zero_le _⟩) (fun _ _ _ _ h=>⟨Nat.succ_le_succ h.1,Nat.succ_le_succ h.2⟩) a b
theorem za {a:Nat} {b:Nat}:dem [a,b,(min a b)] [(min ((a:Nat):Int) ((b:Nat):Int)),(max (0:Int) (min ((a:Nat):Int) ((b:Nat):Int)))] (.e (.v 1) (.c (.v 2))) []:=imn (.c (.v 0)) (.c (.v 1)) (.v 0) rfl (imx (.k 0) (.v 0) (.v 1) rfl (nmn (.v 0) (.v 1) (.v 2) rfl (ME 1010601 6060101 rfl rfl) (ME 1110601 6060111 rfl rfl)) (nmn (.v 0) (.v 1) (.v 2) rfl (ME 10001 6061101 rfl rfl) (ME 10001 6061111 rfl rfl))) (imx (.k 0) (.v 0) (.v 1) rfl (nmn (.v 0) (.v 1) (.v 2) rfl (ME 1110601 6060111 rfl rfl) (ME 1010601 6060101 rfl rfl)) (nmn (.v 0) (.v 1) (.v 2) rfl (ME 10001 6061111 rfl rfl) (ME 10001 6061101 rfl rfl)))
theorem zb {a:Nat} {b:Nat}:dem [a,b,(min b a),(Int.toNat (((a:Nat):Int)-(((min b a):Nat):Int))),(a-(min b a))] [] (.n (.e (.v 3) (.v 4))) []:=nmn (.v 1) (.v 0) (.v 2) rfl (itn (.s (.c (.v 0)) (.c (.v 2))) (.v 3) rfl (nsp (.v 0) (.v 2) (.v 4) rfl (MN 10601 60101 rfl rfl) (MN 10011 101 rfl rfl)) (nsp (.v 0) (.v 2) (.v 4) rfl (MN 10001 1101 rfl rfl) (MN 10001 101 rfl rfl))) (itn (.s (.c (.v 0)) (.c (.v 2))) (.v 3) rfl (nsp (.v 0) (.v 2) (.v 4) rfl (MN 10601 60101 rfl rfl) (MN 10011 101 rfl rfl)) (nsp (.v 0) (.v 2) (.v 4) rfl (MN 10001 1101 rfl rfl) (MN 10001 101 rfl rfl)))
theorem zc {a:Nat} {b:Nat}:dem [a,b,(b-a)] [(min ((-((a:Nat):Int))+((b:Nat):Int)) ((b:Nat):Int)),(max (0:Int) (min ((-((a:Nat):Int))+((b:Nat):Int)) ((b:Nat):Int)))] (.e (.v 1) (.c (.v 2))) [(.n (.s (.k 0) (.v 0))),(.n (.l (.v 0) (.v 1)))]:=imn (.a (.n (.c (.v 0))) (.c (.v 1))) (.c (.v 1)) (.v 0) rfl (imx (.k 0) (.v 0) (.v 1) rfl (nsp (.v 1) (.v 0) (.v 2) rfl (ME 1010601 6060101 rfl rfl) (ME 1010011 61101 rfl rfl)) (nsp (.v 1) (.v 0) (.v 2) rfl (ME 10001 6061101 rfl rfl) (ME 10001 60101 rfl rfl))) (ME 1010 1010 rfl rfl)
theorem YJK {σ:List AO} {x:List Nat} {lo hi:AV} {l h:Option Int} {p q:Nat} (hx:x.length≤1000) (h1:optI lo=some l) (h2:optI hi=some h) (b1:(sliceBounds l h none x.length).1=(p:Int)) (b2:((sliceBounds l h none x.length).2.1-(p:Int)).toNat=q):sliA σ (.str x) lo hi .none=some (.str ((x.drop p).take q)):=by
 rw [YIa h1 h2 (lm hx),YCM,b1,b2]; rfl
theorem YGa {σ:List AO} {x:List Nat} {k:Nat} (hx:x.length≤1000) (hk:k≤1000):sliA σ (.str x) (.int (k:Int)) .none .none=some (.str (x.drop k)):=by
 rw [YJK hx (YCD (YKS hk)) rfl (show (sliceBounds (some (k:Int)) none none x.length).1=((min k x.length:Nat):Int) from za) (show ((x.length:Int)-((min k x.length:Nat):Int)).toNat=x.length-min k x.length from zb),List.take_of_length_le (by rw [List.length_drop]; exact Nat.le_refl _)]
 rcases Nat.le_total k x.length with q | q
 ·rw [Nat.min_eq_left q]
 ·rw [Nat.min_eq_right q,List.drop_eq_nil_of_le q,List.drop_eq_nil_of_le (Nat.le_refl _)]
theorem YSy {σ:List AO} {x:List Nat} (hx:x.length≤1000):sliA σ (.str x) .none .none .none=some (.str x):=by
 rw [YJK (p:=0) hx rfl rfl rfl rfl]
 exact congrArg (fun s=>some (AV.str s)) (List.take_of_length_le (Nat.le_refl _))
theorem YQv {i:Int} {n:Nat} (h:i<0):(sliceBounds none (some i) none n).2.1=max 0 (min (i+n) n):=by
 show max 0 (min (if i<0 then i+n else i) n)=_
 rw [if_pos h]
theorem YSS {σ:List AO} {x:List Nat} {k:Nat} (hx:x.length≤1000) (hk:0<k) (hk2:k≤x.length):sliA σ (.str x) .none (.int (-(k:Int))) .none=some (.str (x.take (x.length-k))):=by
 exact YJK (p:=0) (q:=x.length-k) hx rfl (YCD (YTn (Nat.le_trans hk2 hx))) rfl ((congrArg Int.toNat ((Int.sub_zero _).trans ((YQv (Int.neg_neg_of_pos (Int.natCast_pos.mpr hk))).trans (show _=((x.length-k:Nat):Int) from zc hk hk2)))).trans rfl)
noncomputable def Wl (Φ:Tab) (T:T) (B:Ss) (m:Nat) (ρ:YF) (σ:List AO) (r:Fl×YF×List AO):Prop:=∀ f,m<f→whlGo (evT Φ T) (exSs Φ B) f ρ σ=some r
section
variable {Φ:Tab} {t:T} {B:Ss} {m:Nat} {ρ ρ':YF} {σ σ1 σ':List AO} {r:Fl×YF×List AO} {fl:Fl}
theorem YSg (h1:evT Φ t ρ σ=some (true,σ1)) (h2:exSs Φ B ρ σ1=some (.next,ρ',σ')) (h:Wl Φ t B m ρ' σ' r):Wl Φ t B (m+1) ρ σ r:=by
 intro f hf
 cases f with
 | zero=>exact absurd hf (Nat.not_lt_zero _)
 | succ f=>exact (YEi h1 h2 (.inl rfl)).trans (h f (Nat.lt_of_succ_lt_succ hf))
theorem YKq (h1:evT Φ t ρ σ=some (false,σ1)):Wl Φ t B m ρ σ (.next,ρ,σ1):=by
 intro f hf
 cases f with
 | zero=>exact absurd hf (Nat.not_lt_zero _)
 | succ f=>exact YGk h1
end
theorem YDP {a u:List Nat} {p:Nat} (h:a.drop p=u) (ha:a.length≤1000):u.length≤lim:=by
 subst h; rw [List.length_drop]; exact lm (Nat.le_trans (Nat.sub_le ..) ha)
theorem YKp {σ:List AO} {x:Nat} {u:List Nat} (h:(x::u).length≤lim):truthA σ (.str (x::u))=some true:=YMp h
theorem YTJ {σ:List AO}:truthA σ (.str [])=some false:=rfl
theorem YGN {σ:List AO} {a u:List Nat} {p:Nat} (ha:a.length≤1000) (hp:p≤1000) (h:a.drop p=u):sliA σ (.str a) (.int (p:Int)) .none .none=some (.str u):=h▸YGa ha hp
noncomputable def preT:T:=.and (.cons (.val (.sli (.var 0) (.var 3) .none .none)) (.cons (.val (.sli (.var 1) (.var 3) .none .none)) (.cons (.cmp .Eq (.sub (.var 0) (.var 3)) (.sub (.var 1) (.var 3))) .nil)))
noncomputable def preB:Ss:=.cons (.aug 3 .Add (.int 1)) .nil
noncomputable def pE (a b:List Nat) (m:Option AV) (p:Int) (r:YF):YF:=some (.str a)::some (.str b)::m::some (.int p)::r
theorem YLd {Φ:Tab} {σ:List AO} {a b:List Nat} {r:YF} {m:Option AV} (ha:a.length≤1000) (hb:b.length≤1000) (a8:∀ c∈a,c<128) (b8:∀ c∈b,c<128) (u:List Nat):∀ (v:List Nat) (p q:Nat),a.drop p=u→b.drop p=v→p≤a.length→p+cpl u v=q→
  Wl Φ preT preB u.length (pE a b m p r) σ (.next,pE a b m q r,σ):=by
 induction u with
 | nil=>
  intro v p q hu hv hpa hq
  rw [YNm] at hq
  cases hq
  exact YKq (wT fun k=>k (YGN ha (Nat.le_trans hpa ha) hu) YTJ)
 | cons x u ih=>
  intro v p q hu hv hpa hq
  have hp:=Nat.le_trans hpa ha
  cases v with
  | nil=>cases hq; exact YKq (wT fun k=>k (YGN ha hp hu) (YKp (YDP hu ha)) (YGN hb hp hv) YTJ)
  | cons y v=>
   refine drp hu fun u1 u2=>drp hv fun v1 v2=>?_
   have e:=eq1 (σ:=σ) (a8 x (List.mem_of_getElem? u1)) (b8 y (List.mem_of_getElem? v1))
   by_cases h:x=y
   ·rw [YNR h] at hq
    exact YSg (wT fun k=>k (YGN ha hp hu) (YKp (YDP hu ha)) (YGN hb hp hv) (YKp (YDP hv hb)) (YFd u1 (lm ha)) (YFd v1 (lm hb)) (e.trans (congrArg some (decide_eq_true h)))) (wSs fun k=>k YRJ) (ih v (p+1) q u2 v2 (List.getElem?_eq_some_iff.mp u1).1 ((Nat.add_right_comm p 1 _).trans hq))
   ·rw [YPY h] at hq
    cases hq
    exact YKq (wT fun k=>k (YGN ha hp hu) (YKp (YDP hu ha)) (YGN hb hp hv) (YKp (YDP hv hb)) (YFd u1 (lm ha)) (YFd v1 (lm hb)) (e.trans (congrArg some (decide_eq_false h))))
noncomputable def cutE (i:Nat):E:=.sli (.var i) .none (.orv (.var 4) .none) .none
noncomputable def postT:T:=.and (.cons (.val (cutE 0)) (.cons (.val (cutE 1)) (.cons (.cmp .Eq (.sub (.var 0) (.bin .Sub (.var 4) (.int 1))) (.sub (.var 1) (.bin .Sub (.var 4) (.int 1)))) .nil)))
noncomputable def postB:Ss:=.cons (.aug 4 .Sub (.int 1)) .nil
theorem YFM {Φ:Tab} {σ:List AO} {x:List Nat} {i k:Nat} {ρ:YF} (hx:x.length≤1000) (hi:ρ[i]?=some (some (.str x))) (h4:ρ[4]?=some (some (.int (-(k:Int))))) (hk:k≤x.length):evE Φ (cutE i) ρ σ=some (.str (x.take (x.length-k)),σ):=by
 have o1:evE Φ (.var 4) ρ σ=some (.int (-(k:Int)),σ):=YGA h4
 have key:∀ v w,evE Φ (.orv (.var 4) .none) ρ σ=some (v,σ)→sliA σ (.str x) .none v .none=some w→evE Φ (cutE i) ρ σ=some (w,σ):=fun v w h1 h2=>bs (YGA hi) (bs YHa (bs h1 (bs YHa (ms h2))))
 by_cases h:k=0
 ·subst h
  rw [Nat.sub_zero,List.take_length]
  exact key .none _ (bs o1 (bs YMz ((if_neg (by decide)).trans YHa))) (YSy hx)
 ·exact key _ _ (bs o1 (bs YMz (if_pos (bne_iff_ne.mpr (by lia))))) (YSS hx (Nat.pos_of_ne_zero h) hk)
theorem YGy {x:List Nat} {k c:Nat} {u:List Nat} (hk:k≤x.length) (h:(x.take (x.length-k)).reverse=c::u):k<x.length∧x[x.length-(k+1)]?=some c∧(x.take (x.length-(k+1))).reverse=u:=by
 have hl:=congrArg List.length h
 simp only [List.length_reverse,List.length_take,List.length_cons] at hl
 have hlt:k<x.length:=by exact Ze56 hl
 refine ⟨hlt,?_,?_⟩
 ·rw [show x.length-(k+1)=x.length-k-1 by exact Ze57]
  rw [List.getElem?_eq_getElem (by exact Ze58 hl)]
  have h2:(List.take (x.length-k) x).reverse[0]?=some c:=by rw [h]; rfl
  rw [List.getElem?_reverse (by simp; exact Ze59 hl)] at h2
  simp only [List.length_take] at h2
  rw [show min (x.length-k) x.length-1-0=x.length-k-1 by exact Ze60,List.getElem?_take_of_lt (by exact Ze61 hl),List.getElem?_eq_getElem (by exact Ze58 hl)] at h2
  exact h2
 ·have h2:=congrArg List.tail h
  simp only [List.tail_cons] at h2
  rw [←h2,List.tail_reverse]
  congr 1
  rw [List.dropLast_eq_take,List.take_take]
  congr 1
  rw [List.length_take]
  exact Ze62
theorem YJF {σ:List AO} {x:List Nat} {k:Nat} {c:Nat} {u:List Nat} (hx:x.length≤1000) (h:(x.take (x.length-k)).reverse=c::u):truthA σ (.str (x.take (x.length-k)))=some true:=by
 rw [YMp (by rw [List.length_take]; unfold lim; exact Ze63 hx)]
 cases h2:x.take (x.length-k) with
 | nil=>rw [h2] at h; simp at h
 | cons _ _=>rfl
theorem YIX {σ:List AO} {x:List Nat} {k:Nat} (h:(x.take (x.length-k)).reverse=[]):truthA σ (.str (x.take (x.length-k)))=some false:=by
 have:x.take (x.length-k)=[]:=by simpa using h
 rw [this]; rfl
noncomputable def qE (a b:List Nat) (m p:Option AV) (k:Int) (r:YF):YF:=some (.str a)::some (.str b)::m::p::some (.int k)::r
theorem aug1 {k:Nat}:augA .Sub (.int (-(k:Int))) (.int 1)=some (.int (-((k+1:Nat):Int))):=congrArg (fun i=>some (AV.int i)) Zi77
theorem bin1 {σ:List AO} {k:Nat}:binA σ .Sub (.int (-(k:Int))) (.int 1)=some (.int (-((k+1:Nat):Int))):=congrArg (fun i=>some (AV.int i)) Zi77
theorem YKM {Φ:Tab} {σ:List AO} {a b:List Nat} {r:YF} {m p:Option AV} (ha:a.length≤1000) (hb:b.length≤1000) (a8:∀ c∈a,c<128) (b8:∀ c∈b,c<128) (u:List Nat):∀ (v:List Nat) (k q:Nat),(a.take (a.length-k)).reverse=u→(b.take (b.length-k)).reverse=v→k≤a.length→k≤b.length→k+cpl u v=q→
  Wl Φ postT postB u.length (qE a b m p (-(k:Int)) r) σ (.next,qE a b m p (-(q:Int)) r,σ):=by
 induction u with
 | nil=>
  intro v k q hu hv hka hkb hq
  rw [YNm] at hq
  cases hq
  have ca:=YFM (Φ:=Φ) (σ:=σ) (i:=0) (ρ:=qE a b m p (-(k:Int)) r) ha rfl rfl hka
  exact YKq (bs (bs ca (ms (YIX hu))) rfl)
 | cons x u ih=>
  intro v k q hu hv hka hkb hq
  have ca:=YFM (Φ:=Φ) (σ:=σ) (i:=0) (ρ:=qE a b m p (-(k:Int)) r) ha rfl rfl hka
  have cb:=YFM (Φ:=Φ) (σ:=σ) (i:=1) (ρ:=qE a b m p (-(k:Int)) r) hb rfl rfl hkb
  have ta:=bs (f:=fun x=>(truthA x.2 x.1).map fun t=>(t,x.2)) ca (ms (YJF ha hu))
  cases v with
  | nil=>cases hq; exact YKq (bs ta (bs (bs cb (ms (YIX hv))) rfl))
  | cons y v=>
   obtain ⟨u0,u1,u2⟩:=YGy hka hu
   obtain ⟨v0,v1,v2⟩:=YGy hkb hv
   have e:=eq1 (σ:=σ) (a8 x (List.mem_of_getElem? u1)) (b8 y (List.mem_of_getElem? v1))
   have t1:∀ t,decide (x=y)=t→evT Φ postT (qE a b m p (-(k:Int)) r) σ=some (t,σ):=fun t ht=>bs ta (bs (bs cb (ms (YJF hb hv))) (bs (wT fun k=>k bin1 (YMr (Nat.succ_pos _) u1 u0 (lm ha)) bin1 (YMr (Nat.succ_pos _) v1 v0 (lm hb)) e) (by rw [ht]; cases t <;> rfl)))
   by_cases h:x=y
   ·rw [YNR h] at hq
    exact YSg (t1 _ (decide_eq_true h)) (wSs fun k=>k aug1) (ih v (k+1) q u2 v2 u0 v0 ((Nat.add_right_comm k 1 _).trans hq))
   ·rw [YPY h] at hq
    cases hq
    exact YKq (t1 _ (decide_eq_false h))
noncomputable def nI (n:Nat):AV:=.int (n:Int)
noncomputable def Φs:Tab:=Yn [(98,YDA)]
theorem Φs_98 {as:List AV} {σ:List AO}:Φs 98 as σ=YDA as σ:=by simp [Φs,Yn]
noncomputable def dpB:Ss:=(.cons (.asg 12 (.bin .Add (.var 9) (.call 98 (.cons (.var 8) (.cons (.sub (.var 0) (.var 11)) .nil)))))
  (.cons (.asg 9 (.sub (.var 5) (.var 11)))
  (.cons (.asg 13 (.bin .Add (.bi .min (.cons (.var 6) (.cons (.var 9) .nil))) (.gint "_MOVE_COST" 2)))
  (.cons (.asg 6 (.bi .min (.cons (.var 13) (.cons (.var 12) .nil))))
  (.cons (.sset (.var 5) (.var 11) (.var 6))
  (.cons (.ite (.cmp .Lt (.var 6) (.var 10)) (.cons (.asg 10 (.var 6))
  .nil) .nil)
  .nil))))))
theorem zmn {a:Nat} {b:Nat}:dem [a,b,(min a b)] [(min ((a:Nat):Int) ((b:Nat):Int))] (.e (.v 0) (.c (.v 2))) []:=imn (.c (.v 0)) (.c (.v 1)) (.v 0) rfl (nmn (.v 0) (.v 1) (.v 2) rfl (ME 10601 60101 rfl rfl) (ME 11601 60111 rfl rfl)) (nmn (.v 0) (.v 1) (.v 2) rfl (ME 11601 60111 rfl rfl) (ME 10601 60101 rfl rfl))
set_option genInjectivity false in
structure DS where
 res:Nat
 dist:Nat
 mn:Int
 idx:Option AV
 x:Option AV
 y:Option AV
 row:List Nat
noncomputable def dE (a:List Nat) (B M P Q BI:AV) (bc rl:Nat) (s:DS):YF:=[some (.str a),some B,some M,some P,some Q,some (.loc rl),some (nI s.res),some BI,some (.str [bc]),some (nI s.dist),some (.int s.mn),s.idx,s.x,s.y]
theorem mI {σ:List AO} {a b c:Int} (h:min a b=c):biA σ .min [.int a,.int b]=some (.int c):=by subst h; exact YTO
theorem YPj {a:List Nat} {B M P Q BI:AV} {bc rl c v t i cell:Nat} {σ σ':List AO} {s:DS} {row:List Nat} (g1:subA σ (.str a) (.int (i:Int))=some (.str [c])) (g2:Φs 98 [.str [bc],.str [c]] σ=some (nI t,σ)) (i2:subA σ (.loc rl) (.int (i:Int))=some (nI v)) (hc:min (min s.res v+2) (s.dist+t)=cell)
  (s1:ssetA σ (.loc rl) (.int (i:Int)) (nI cell)=some σ'):
  exSs Φs dpB ((dE a B M P Q BI bc rl s).set 11 (some (.int (i:Int)))) σ=some (.next,dE a B M P Q BI bc rl ⟨cell,v,min (cell:Int) s.mn,some (.int (i:Int)),some (nI (s.dist+t)),some (nI (min s.res v+2)),row⟩,σ'):=by
 have m1:biA σ .min [nI s.res,nI v]=some (nI (min s.res v)):=mI zmn
 have m2:biA σ .min [nI (min s.res v+2),nI (s.dist+t)]=some (nI cell):=mI (hc▸zmn)
 by_cases h:(cell:Int)<s.mn
 ·rw [Int.min_eq_left (Int.le_of_lt h)]
  exact wSs fun k=>k g1 g2 YAo i2 m1 YAo m2 s1 (YMC.trans (congrArg some (decide_eq_true h)))
 ·rw [Int.min_eq_right (Int.not_lt.mp h)]
  exact wSs fun k=>k g1 g2 YAo i2 m1 YAo m2 s1 (YMC.trans (congrArg some (decide_eq_false h)))
theorem YDp (k:Nat) (l:List Nat):noLocs k (l.map nI)=true:=by
 rw [Yg,List.all_eq_true]
 intro v hv
 obtain ⟨x,_,rfl⟩:=List.mem_map.mp hv
 rfl
theorem YCx {a:List Nat} {i x:Nat} (h:a[i]?=some x):a.take (i+1)=a.take i++[x]:=by
 rw [List.take_add_one,h]; rfl
noncomputable def dS (σ0:List AO) (rl:Nat) (row:List Nat):List AO:=σ0.set rl (.list (row.map nI))
set_option genInjectivity false in
structure DG (a b:List Nat) (j i:Nat) (s:DS):Prop where
 hr:s.row.length=a.length
 hd:IsEd (a.take i) (b.take j) s.dist
 h0:i=0→s.res=s.dist
 h1:0<i→IsEd (a.take i) (b.take (j+1)) s.res
 lo:∀ k v,k<i→s.row[k]?=some v→IsEd (a.take (k+1)) (b.take (j+1)) v∧s.mn≤(v:Int)
 hi:∀ k v,i≤k→s.row[k]?=some v→IsEd (a.take (k+1)) (b.take j) v
noncomputable def InvIn (a b:List Nat) (j bc rl:Nat) (B M P Q BI:AV) (σ0:List AO) (i:Nat) (ρ:YF) (σ:List AO):Prop:=∃ s,ρ=dE a B M P Q BI bc rl s∧σ=dS σ0 rl s.row∧DG a b j i s
theorem gtl {α:Type} {l:List α} {i:Nat} {G:Prop} (h:i<l.length) (k:∀ x,l[i]?=some x→G):G:=k _ (List.getElem?_eq_getElem h)
theorem YFb {α:Type} {l:List α} {i:Nat} {x:α} (h:l[i]?=some x):i<l.length:=(List.getElem?_eq_some_iff.mp h).1
section
variable {a b:List Nat} {j bc rl i c v:Nat} {B M P Q BI:AV} {σ0:List AO} {s:DS}
theorem YOd (hac:a[i]?=some c) (hbc:b[j]?=some bc) (g:DG a b j i s) (hv:s.row[i]?=some v):IsEd (a.take (i+1)) (b.take (j+1)) (min (min s.res v+2) (s.dist+subN bc c)):=by
 have h:=g.hi i v (Nat.le_refl _) hv
 rw [YCx hac] at h ⊢
 rw [YCx hbc,Nat.min_comm s.res,YFz]
 by_cases q:i=0
 ·have e1:=g.h0 q
  have e2:IsEd (a.take i) (b.take j++[bc]) (s.dist+2):=by
   subst q
   rw [IsEd.uniq g.hd (IsEd.nil_left (b.take j))]
   have:=IsEd.nil_left (b.take j++[bc])
   rw [List.length_append,Nat.mul_add] at this
   exact this
  rw [e1,show min (min v s.dist+2) (s.dist+subN c bc)=min (min v (s.dist+2)+2) (s.dist+subN c bc) from Ze65 (YEL c bc)]
  exact IsEd.snoc g.hd h e2
 ·exact IsEd.snoc g.hd h (by rw [←YCx hbc]; exact g.h1 (Nat.pos_of_ne_zero q))
theorem YHq (hσ:Ok σ0) (hrl:rl<σ0.length) (ha:a.length≤1000) (a8:∀ c∈a,c<128) (hbc:b[j]?=some bc) (b8:bc<128) {ρ:YF} {σ:List AO} (hi:i<a.length) (I:InvIn a b j bc rl B M P Q BI σ0 i ρ σ):
  ∃ ρ' σ',exSs Φs dpB (ρ.set 11 (some (.int (i:Int)))) σ=some (.next,ρ',σ')∧InvIn a b j bc rl B M P Q BI σ0 (i+1) ρ' σ':=by
 obtain ⟨s,rfl,rfl,g⟩:=I
 refine gtl hi fun c hac=>gtl (l:=s.row) (by rw [g.hr]; exact hi) fun v hv=>?_
 have hrow:i<s.row.length:=YFb hv
 have hget:(dS σ0 rl s.row)[rl]?=some (.list (s.row.map nI)):=List.getElem?_set_self hrl
 have g1:subA (dS σ0 rl s.row) (.str a) (.int (i:Int))=some (.str [c]):=YFd hac (lm ha)
 have g2:Φs 98 [.str [bc],.str [c]] (dS σ0 rl s.row)=some (nI (subN bc c),dS σ0 rl s.row):=
  Φs_98.trans ((YFT (YDR hσ (show aoOk σ0.length (.list (s.row.map nI))=true from YDp _ _)) b8 (a8 c (List.mem_of_getElem? hac))).trans (by rw [YNc]; rfl))
 have g3:subA (dS σ0 rl s.row) (.loc rl) (.int (i:Int))=some (nI v):=by
  rw [YGd hget (Nat.lt_of_lt_of_le hi (Nat.le_trans ha (by decide))),List.getElem?_map,hv]; rfl
 have hnew:=YOd hac hbc g hv
 generalize hc:min (min s.res v+2) (s.dist+subN bc c)=cell at hnew
 have g4:ssetA (dS σ0 rl s.row) (.loc rl) (.int (i:Int)) (nI cell)=some (dS σ0 rl (s.row.set i cell)):=by
  rw [YIo hget (by rw [List.length_map]; exact hrow) (by rw [List.length_map,g.hr]; exact lm ha),dS,List.set_set,dS,List.map_set]
 refine ⟨_,_,YPj (row:=s.row.set i cell) g1 g2 g3 hc g4,_,rfl,rfl,by rw [List.length_set]; exact g.hr,g.hi i v (Nat.le_refl _) hv,fun q=>absurd q (Nat.succ_ne_zero i),fun _=>hnew,fun k w hk hkw=>?_,fun k w hk hkw=>?_⟩
 ·by_cases q:k=i
  ·subst q
   rw [List.getElem?_set_self hrow] at hkw
   cases hkw
   exact ⟨hnew,Int.min_le_left _ _⟩
  ·rw [List.getElem?_set_ne (Ne.symm q)] at hkw
   obtain ⟨z1,z2⟩:=g.lo k w (Nat.lt_of_le_of_ne (Nat.le_of_lt_succ hk) q) hkw
   exact ⟨z1,Int.le_trans (Int.min_le_right _ _) z2⟩
 ·rw [List.getElem?_set_ne (Nat.ne_of_lt hk)] at hkw
  exact g.hi k w (Nat.le_of_lt hk) hkw
end
theorem YSk {n i:Nat} {v:AV} (h:((List.range n).map fun (i:Nat)=>AV.int i)[i]?=some v):i<n∧v=.int (i:Int):=by
 rw [List.getElem?_map,Option.map_eq_some_iff] at h
 obtain ⟨k,h1,rfl⟩:=h
 have hlt:=YFb h1
 rw [List.length_range] at hlt
 rw [List.getElem?_range hlt] at h1
 cases h1
 exact ⟨hlt,rfl⟩
theorem YNB (n:Nat):((List.range n).map fun (i:Nat)=>AV.int i).length=n:=by rw [List.length_map,List.length_range]
theorem YMw {Φ:Tab} {i:Nat} {it:E} {b:Ss} {ρ:YF} {σ:List AO} {n:Nat} {r:Option (Fl×YF×List AO)} (h:evE Φ it ρ σ=some (.rng 0 (n:Int) 1,σ)) (k:forGo (fun v ρ σ=>exSs Φ b (ρ.set i (some v)) σ) (.rng 0 (n:Int) 1) (((List.range n).map fun (i:Nat)=>AV.int i).length+1) 0 ρ σ=r):exS Φ (.for_ i it b) ρ σ=r:=
 bs h ((congrArg (fun t=>forGo _ _ t _ _ _) (YDB (σ:=σ) n).tn).trans k)
theorem YIM {a b:List Nat} {j bc rl:Nat} {B M P Q BI:AV} {σ0:List AO} (hσ:Ok σ0) (hrl:rl<σ0.length) (ha:a.length≤1000) (a8:∀ c∈a,c<128) (hbc:b[j]?=some bc) (b8:bc<128) {s:DS} (g:DG a b j 0 s):
  ∃ s',exS Φs (.for_ 11 (.bi .range (.cons (.bi .len (.cons (.var 0) .nil)) .nil)) dpB) (dE a B M P Q BI bc rl s) (dS σ0 rl s.row)=some (.next,dE a B M P Q BI bc rl s',dS σ0 rl s'.row)∧DG a b j a.length s':=by
 obtain ⟨ρ',σ',e,s',rfl,rfl,g'⟩:=YKT (f:=fun v ρ σ=>exSs Φs dpB (ρ.set 11 (some v)) σ) (fun σ i=>(YDB (σ:=σ) a.length).nth i) (InvIn a b j bc rl B M P Q BI σ0)
  (fun i v ρ σ hv hI=>by
   obtain ⟨hlt,rfl⟩:=YSk hv
   exact YHq hσ hrl ha a8 hbc b8 hlt hI) ⟨s,rfl,rfl,g⟩ rfl
 rw [YNB] at g'
 exact ⟨s',YMw (wE fun k=>k (YCs (lm ha)) (YCK (YKS ha))) e,g'⟩
noncomputable def rowB:Ss:=(.cons (.asg 8 (.sub (.var 1) (.var 7)))
  (.cons (.asg2 9 6 (.bin .Mult (.var 7) (.gint "_MOVE_COST" 2)))
  (.cons (.asg 10 (.int 9223372036854775807))
  (.cons (.for_ 11 (.bi .range (.cons (.bi .len (.cons (.var 0) .nil)) .nil)) dpB)
  (.cons (.ite (.cmp .Gt (.var 10) (.var 2)) (.cons (.ret (.bin .Add (.var 2) (.int 1)))
  .nil) .nil)
  .nil)))))
set_option genInjectivity false in
structure RS where
 res:Nat
 row:List Nat
 x7:Option AV
 x8:Option AV
 x9:Option AV
 x10:Option AV
 x11:Option AV
 x12:Option AV
 x13:Option AV
noncomputable def rE (a b:List Nat) (m:Int) (P Q:AV) (rl:Nat) (s:RS):YF:=[some (.str a),some (.str b),some (.int m),some P,some Q,some (.loc rl),some (nI s.res),s.x7,s.x8,s.x9,s.x10,s.x11,s.x12,s.x13]
set_option genInjectivity false in
structure RG (a b:List Nat) (j:Nat) (s:RS):Prop where
 hr:s.row.length=a.length
 hrow:∀ (k v:Nat),s.row[k]?=some v→IsEd (a.take (k+1)) (b.take j) v
 hres:0<j→IsEd a (b.take j) s.res
noncomputable def InvOut (a b:List Nat) (rl:Nat) (m:Int) (P Q:AV) (σ0:List AO) (j:Nat) (ρ:YF) (σ:List AO):Prop:=∃ s,ρ=rE a b m P Q rl s∧σ=dS σ0 rl s.row∧RG a b j s
noncomputable def Stop (a b:List Nat) (rl:Nat) (m:Int) (σ0:List AO) (v:AV) (σ':List AO):Prop:=v=.int (m+1)∧(∀ d,IsEd a b d→m<(d:Int))∧∃ row:List Nat,σ'=dS σ0 rl row
theorem zj2 {a:Nat}:dem [a] [] (.e (.r (.c (.v 0)) 2) (.c (.m 2 (.v 0)))) []:=ME 1 1 rfl rfl
theorem YMG {a b:List Nat} {rl:Nat} {m:Int} {P Q:AV} {σ0:List AO} (hσ:Ok σ0) (hrl:rl<σ0.length) (ha0:a≠[]) (ha:a.length≤1000) (hb:b.length≤1000) (a8:∀ c∈a,c<128) (b8:∀ c∈b,c<128) {j:Nat} {ρ:YF} {σ:List AO} (hj:j<b.length) (I:InvOut a b rl m P Q σ0 j ρ σ):
  ∃ fl ρ' σ',exSs Φs rowB (ρ.set 7 (some (.int (j:Int)))) σ=some (fl,ρ',σ')∧((fl=.next∧InvOut a b rl m P Q σ0 (j+1) ρ' σ')∨(fl=.cont∧InvOut a b rl m P Q σ0 (j+1) ρ' σ')∨∃ v,fl=.ret v∧Stop a b rl m σ0 v σ'):=by
 obtain ⟨s,rfl,rfl,g⟩:=I
 refine gtl hj fun bc hbj=>?_
 have g1:subA (dS σ0 rl s.row) (.str b) (.int (j:Int))=some (.str [bc]):=YFd hbj (lm hb)
 have hm:binA (dS σ0 rl s.row) .Mult (.int (j:Int)) (.int 2)=some (nI (2*j)):=(YLI (Bool.and_eq_true_iff.mpr ⟨YKS (Nat.le_trans (Nat.le_of_lt hj) hb),rfl⟩)).trans (congrArg (fun i=>some (AV.int i)) zj2)
 have d0:IsEd (a.take 0) (b.take j) (2*j):=by
  have:=IsEd.nil_left (b.take j)
  rw [List.length_take,Nat.min_eq_left (Nat.le_of_lt hj)] at this
  exact this
 obtain ⟨s1,e4,g4⟩:=YIM (B:=.str b) (M:=.int m) (P:=P) (Q:=Q) (BI:=.int (j:Int)) (s:=⟨2*j,2*j,9223372036854775807,s.x11,s.x12,s.x13,s.row⟩) hσ hrl ha a8 hbj (b8 bc (List.mem_of_getElem? hbj))
  ⟨g.hr,d0,fun _=>rfl,fun q=>absurd q (Nat.lt_irrefl 0),fun k v hk=>absurd hk (Nat.not_lt_zero k),fun k v _=>g.hrow k v⟩
 by_cases hmn:m<s1.mn
 ·refine ⟨.ret (.int (m+1)),_,_,wSs fun k=>k g1 hm e4 (YPO.trans (congrArg some (decide_eq_true hmn))) YAo,.inr (.inr ⟨_,rfl,rfl,fun d hd=>?_,_,rfl⟩)⟩
  obtain ⟨i,k,hi,hk,hed⟩:=YPs hd ha0 hj
  refine gtl (l:=s1.row) (by rw [g4.hr]; exact hi) fun v hri=>?_
  obtain ⟨q1,q2⟩:=g4.lo i v hi hri
  exact Zi83 hmn q2 (q1.2 k hed) hk
 ·refine ⟨.next,_,_,wSs fun k=>k g1 hm e4 (YPO.trans (congrArg some (decide_eq_false hmn))),.inl ⟨rfl,⟨s1.res,s1.row,_,_,_,_,_,_,_⟩,rfl,rfl,g4.hr,fun k v hkv=>?_,fun _=>?_⟩⟩
  ·have hk:=YFb hkv
   exact (g4.lo k v (by rw [←g4.hr]; exact hk) hkv).1
  ·have:=g4.h1 (List.length_pos_iff.mpr ha0)
   rwa [List.take_length] at this
theorem rows {a b:List Nat} {rl:Nat} {m:Int} {P Q:AV} {σ0:List AO} (hσ:Ok σ0) (hrl:rl<σ0.length) (ha0:a≠[]) (hb0:b≠[]) (ha:a.length≤1000) (hb:b.length≤1000) (a8:∀ c∈a,c<128) (b8:∀ c∈b,c<128) {s:RS} (g:RG a b 0 s):
  ∃ (v:Int) (ρ':YF) (row:List Nat),exSs Φs (.cons (.for_ 7 (.bi .range (.cons (.bi .len (.cons (.var 1) .nil)) .nil)) rowB) (.cons (.ret (.var 6)) .nil)) (rE a b m P Q rl s) (dS σ0 rl s.row)=some (.ret (.int v),ρ',dS σ0 rl row)∧((∃ d,IsEd a b d∧v=(d:Int))∨(v=m+1∧∀ d,IsEd a b d→m<(d:Int))):=by
 obtain ⟨fl,ρ',σ',e,z⟩:=YEw (f:=fun v ρ σ=>exSs Φs rowB (ρ.set 7 (some v)) σ) (fun σ i=>(YDB (σ:=σ) b.length).nth i) (InvOut a b rl m P Q σ0) (fun v ρ' σ'=>Stop a b rl m σ0 v σ')
  (fun i v ρ σ hv hI=>by
   obtain ⟨hlt,rfl⟩:=YSk hv
   exact YMG hσ hrl ha0 ha hb a8 b8 hlt hI) _ 0 _ _ (Nat.zero_add _) ⟨s,rfl,rfl,g⟩
 have ef:=YMw (ρ:=rE a b m P Q rl s) (σ:=dS σ0 rl s.row) (it:=.bi .range (.cons (.bi .len (.cons (.var 1) .nil)) .nil)) (wE fun k=>k (YCs (lm hb)) (YCK (YKS hb))) e
 rcases z with ⟨rfl,z⟩ | ⟨v,rfl,rfl,z,row,rfl⟩
 ·rw [YNB] at z
  obtain ⟨s',rfl,rfl,g'⟩:=z
  have h4:=g'.hres (List.length_pos_iff.mpr hb0)
  rw [List.take_length] at h4
  exact ⟨(s'.res:Int),_,_,wSs fun k=>k ef,.inl ⟨_,h4,rfl⟩⟩
 ·exact ⟨m+1,ρ',row,wSs fun k=>k ef,.inr ⟨rfl,z⟩⟩
theorem least {P:Nat→Prop}:∀ n,P n→∃ d,P d∧∀ k,P k→d≤k:=by
 intro n
 induction n using Nat.strongRecOn with
 | _ n ih=>
  intro h
  by_cases q:∃ k,k<n∧P k
  ·obtain ⟨k,hk,hp⟩:=q
   exact ih k hk hp
  ·exact ⟨n,h,fun k hk=>by
    rcases Nat.lt_or_ge k n with z | z
    ·exact absurd ⟨k,z,hk⟩ q
    ·exact z⟩
theorem IsEd.ex (a b:List Nat):∃ d,IsEd a b d:=by
 have h:Edit (a++[]) ([]++b) (2*a.length+2*b.length):=Edit.append (Edit.all_ins b) (Edit.all_ins a).symm
 rw [List.append_nil,List.nil_append] at h
 exact least _ h
noncomputable def Told (a b:List Nat) (m v:Int):Prop:=(∃ d,IsEd a b d∧v=(d:Int))∨(v=m+1∧∀ d,IsEd a b d→m<(d:Int))
theorem Told.symm {a b:List Nat} {m v:Int} (h:Told a b m v):Told b a m v:=by
 rcases h with ⟨d,h,e⟩ | ⟨e,h⟩
 ·exact .inl ⟨d,h.symm,e⟩
 ·exact .inr ⟨e,fun d hd=>h d hd.symm⟩
theorem YHG (n:Nat):rlen 2 (2*((n:Int)+1)) 2=n:=by
 show (if (0:Int)<2 then _ else _:Int).toNat=n
 rw [if_pos (by decide)]
 show (if (2:Int)<2*((n:Int)+1) then (2*((n:Int)+1)-2-1)/2+1 else 0).toNat=n
 by_cases h:(2:Int)<2*((n:Int)+1)
 ·rw [if_pos h]; exact Zi84
 ·rw [if_neg h]; exact Zi85 h
theorem YJN (i:Nat):AV.int (2+2*(i:Int))=nI (2*(i+1)):=by
 have:(2+2*(i:Int))=((2*(i+1):Nat):Int):=by exact Zi86
 rw [this]; rfl
theorem YHx (n:Nat):((List.range n).map fun (i:Nat)=>AV.int (2+2*(i:Int)))=((List.range n).map fun i=>2*(i+1)).map nI:=by
 rw [List.map_map]
 exact List.map_congr_left fun i _=>YJN i
noncomputable def row14:E:=.mrange (.cons (.bi .range (.cons (.gint "_MOVE_COST" 2) (.cons (.bin .Mult (.gint "_MOVE_COST" 2) (.bin .Add (.bi .len (.cons (.var 0) .nil)) (.int 1))) (.cons (.gint "_MOVE_COST" 2) .nil)))) .nil)
noncomputable def tail13:Ss:=(.cons (.ite (.cmp .Gt (.bin .Mult (.bin .Sub (.bi .len (.cons (.var 1) .nil)) (.bi .len (.cons (.var 0) .nil))) (.gint "_MOVE_COST" 2)) (.var 2)) (.cons (.ret (.bin .Add (.var 2) (.int 1))) .nil) .nil)
  (.cons (.asg 5 row14) (.cons (.asg 6 (.int 0)) (.cons (.for_ 7 (.bi .range (.cons (.bi .len (.cons (.var 1) .nil)) .nil)) rowB) (.cons (.ret (.var 6)) .nil)))))
noncomputable def apS:Ss→Ss→Ss
 | .nil,r=>r
 | .cons s p,r=>.cons s (apS p r)
theorem YDl {Φ:Tab} {r:Ss}:∀ (p:Ss) {ρ ρ':YF} {σ σ':List AO},exSs Φ p ρ σ=some (.next,ρ',σ')→exSs Φ (apS p r) ρ σ=exSs Φ r ρ' σ'
 | .nil,ρ,ρ',σ,σ',h=>by cases h; rfl
 | .cons s p,ρ,ρ',σ,σ',h=>by
  cases q:exS Φ s ρ σ with
  | none=>cases (show (none:Option (Fl×YF×List AO))=_ from (congrArg (Option.bind · _) q).symm.trans h)
  | some x=>
   obtain ⟨fl,ρ1,σ1⟩:=x
   cases fl with
   | next=>exact (YC q).trans (YDl p ((YC q).symm.trans h))
   | brk=>cases (show exSs Φ (.cons s p) ρ σ=some (.brk,ρ1,σ1) from bs q rfl).symm.trans h
   | cont=>cases (show exSs Φ (.cons s p) ρ σ=some (.cont,ρ1,σ1) from bs q rfl).symm.trans h
   | ret v=>cases (YMf q).symm.trans h
noncomputable def lv (a b:List Nat) (m:Int) (P Q R S:Option AV):YF:=[some (.str a),some (.str b),some (.int m),P,Q,R,S,none,none,none,none,none,none,none]
noncomputable def lev15:Ss:=(.cons (.ite (.cmp .Gt (.bin .Mult (.bin .Sub (.bi .len (.cons (.var 1) .nil)) (.bi .len (.cons (.var 0) .nil))) (.gint "_MOVE_COST" 2)) (.var 2)) (.cons (.ret (.bin .Add (.var 2) (.int 1))) .nil) .nil) (.cons (.asg 5 row14) (.cons (.asg 6 (.int 0)) .nil)))
theorem YSP {i:Int} (h : -1000≤i) (h2:i≤1000):fits i=true:=Bool.and_eq_true_iff.mpr ⟨decide_eq_true (Int.le_trans (by decide) h),decide_eq_true (Int.le_trans h2 (by decide))⟩
theorem YPk {σ:List AO} {i j:Int} (h : -1000≤i) (h2:i≤1000) (g : -1000≤j) (g2:j≤1000):binA σ .Mult (.int i) (.int j)=some (.int (i*j)):=YLI (Bool.and_eq_true_iff.mpr ⟨YSP h h2,YSP g g2⟩)
theorem zga {a:Nat} {b:Nat}:dem [a,b] [] (.l (.n (.k 1000)) (.s (.c (.v 0)) (.c (.v 1)))) [(.n (.l (.v 1) (.k 100)))]:=M 11 rfl
theorem zgb {a:Nat} {b:Nat}:dem [a,b] [] (.l (.s (.c (.v 0)) (.c (.v 1))) (.k 1000)) [(.n (.l (.v 0) (.k 100)))]:=M 11 rfl
theorem zgc {a:Nat}:dem [a] [] (.l (.n (.k 1000)) (.a (.c (.v 0)) (.k 1))) []:=M 1 rfl
theorem zgd {a:Nat}:dem [a] [] (.l (.a (.c (.v 0)) (.k 1)) (.k 1000)) [(.n (.l (.v 0) (.k 100)))]:=M 11 rfl
theorem YHX {a b:List Nat} {m:Int} {P Q:AV} {σ:List AO} (hσ:Ok σ) (ha0:a≠[]) (hb0:b≠[]) (ha:a.length≤100) (hb:b.length≤100) (hab:a.length≤b.length) (a8:∀ c∈a,c<128) (b8:∀ c∈b,c<128):
  ∃ (v:Int) (ρ':YF) (σ':List AO),exSs Φs tail13 (lv a b m (some P) (some Q) none none) σ=some (.ret (.int v),ρ',σ')∧Told a b m v∧σ'.take σ.length=σ∧σ.length≤σ'.length:=by
 have la:=YCs (σ:=σ) (Nat.le_trans ha (by decide):a.length≤lim)
 have lb:=YCs (σ:=σ) (Nat.le_trans hb (by decide):b.length≤lim)
 have mm:binA σ .Mult (.int ((b.length:Int)-a.length)) (.int 2)=some (.int (((b.length:Int)-a.length)*2)):=YPk (zga ha) (zgb hb) (by decide) (by decide)
 by_cases h13:m<((b.length:Int)-a.length)*2
 ·exact ⟨m+1,_,σ,wSs fun k=>k lb la YEt mm (YPO.trans (congrArg some (decide_eq_true h13))) YAo,.inr ⟨rfl,fun d hd=>Zi89 h13 hd.1.len.1⟩,Yi,Nat.le_refl _⟩
 ·have m2:binA σ .Mult (.int 2) (.int ((a.length:Int)+1))=some (.int (2*((a.length:Int)+1))):=YPk (by decide) (by decide) (zgc) (zgd ha)
  have rg:biA σ .range [.int 2,.int (2*((a.length:Int)+1)),.int 2]=some (.rng 2 (2*((a.length:Int)+1)) 2):=YOY (by simp [fits]; exact ⟨Zi92,Zi93 ha⟩)
  have ls:mrA [.rng 2 (2*((a.length:Int)+1)) 2]=some (((List.range a.length).map fun i=>2*(i+1)).map nI):=by
   rw [YTu (by rw [YHG]; exact Nat.le_trans ha (by decide)),YHG,YHx]
  have nl:newL true σ (((List.range a.length).map fun i=>2*(i+1)).map nI)=_:=YBU (by rw [List.length_map,List.length_map,List.length_range]; exact Nat.le_trans ha (by decide))
  have e15:exSs Φs lev15 (lv a b m (some P) (some Q) none none) σ=some (.next,lv a b m (some P) (some Q) (some (.loc σ.length)) (some (nI 0)),σ++[.list (((List.range a.length).map fun i=>2*(i+1)).map nI)]):=
   wSs fun k=>k lb la YEt mm (YPO.trans (congrArg some (decide_eq_false h13))) la YAo m2 rg ls nl
  have ok0:Ok (σ++[.list (((List.range a.length).map fun i=>2*(i+1)).map nI)]):=YDi hσ (by
   simp only [List.all_cons,List.all_nil,Bool.and_true]
   exact YDp _ _)
  have hlt:σ.length<(σ++[AO.list (((List.range a.length).map fun i=>2*(i+1)).map nI)]).length:=by simp
  have g0:RG a b 0 ⟨0,(List.range a.length).map fun i=>2*(i+1),none,none,none,none,none,none,none⟩:=by
   refine ⟨by rw [List.length_map,List.length_range],fun k v hkv=>?_,fun q=>absurd q (Nat.lt_irrefl 0)⟩
   have hk:=YFb hkv
   rw [List.length_map,List.length_range] at hk
   rw [List.getElem?_map,List.getElem?_range hk] at hkv
   cases hkv
   have:=IsEd.nil_right (a.take (k+1))
   rw [List.length_take,Nat.min_eq_left hk] at this
   exact this
  obtain ⟨v,ρ',row,e,z⟩:=rows (m:=m) (P:=P) (Q:=Q) ok0 hlt ha0 hb0 (Nat.le_trans ha (by decide)) (Nat.le_trans hb (by decide)) a8 b8 g0
  rw [show dS (σ++[.list (((List.range a.length).map fun i=>2*(i+1)).map nI)]) σ.length _=_ from List.set_append_right _ _ (Nat.le_refl _),Nat.sub_self] at e
  refine ⟨v,ρ',_,(YDl lev15 e15).trans e,z,?_,?_⟩
  ·rw [dS,List.set_append_right _ _ (Nat.le_refl _),List.take_left]
  ·rw [dS,List.length_set,List.length_append]; exact Nat.le_add_right _ _
noncomputable def st10:S:=(.ite (.or (.cons (.not (.val (.var 0))) (.cons (.not (.val (.var 1))) .nil))) (.cons (.ret (.bin .Mult (.gint "_MOVE_COST" 2) (.bin .Add (.bi .len (.cons (.var 0) .nil)) (.bi .len (.cons (.var 1) .nil))))) .nil) .nil)
noncomputable def st11:S:=(.ite (.or (.cons (.cmp .Gt (.bi .len (.cons (.var 0) .nil)) (.gint "_MAX_STRING_SIZE" 40)) (.cons (.cmp .Gt (.bi .len (.cons (.var 1) .nil)) (.gint "_MAX_STRING_SIZE" 40)) .nil))) (.cons (.ret (.bin .Add (.var 2) (.int 1))) .nil) .nil)
noncomputable def st12:S:=(.ite (.cmp .Lt (.bi .len (.cons (.var 1) .nil)) (.bi .len (.cons (.var 0) .nil))) (.cons (.swap 0 1 (.tup (.cons (.var 1) (.cons (.var 0) .nil)))) .nil) .nil)
noncomputable def lev12:Ss:=.cons st10 (.cons st11 (.cons st12 .nil))
theorem zge {a:Nat} {b:Nat}:dem [a,b] [] (.l (.n (.k 1000)) (.a (.c (.v 0)) (.c (.v 1)))) []:=M 1 rfl
theorem zgf {a:Nat} {b:Nat}:dem [a,b] [] (.l (.a (.c (.v 0)) (.c (.v 1))) (.k 1000)) [(.n (.l (.v 0) (.k 30))),(.n (.l (.v 1) (.k 30)))]:=M 111 rfl
theorem YLn {a b:List Nat} {m:Int} {P Q:AV} {σ:List AO} (hσ:Ok σ) (ha:a.length≤30) (hb:b.length≤30) (a8:∀ c∈a,c<128) (b8:∀ c∈b,c<128):
  ∃ (v:Int) (ρ':YF) (σ':List AO),exSs Φs (.cons st10 (.cons st11 (.cons st12 tail13))) (lv a b m (some P) (some Q) none none) σ=some (.ret (.int v),ρ',σ')∧Told a b m v∧σ'.take σ.length=σ∧σ.length≤σ'.length:=by
 have A:=Nat.le_trans ha (show 30≤lim by decide)
 have B:=Nat.le_trans hb (show 30≤lim by decide)
 have la:=YCs (σ:=σ) A
 have lb:=YCs (σ:=σ) B
 have mm:binA σ .Mult (.int 2) (.int ((a.length:Int)+b.length))=some (.int (2*((a.length:Int)+b.length))):=YPk (by decide) (by decide) zge (zgf ha hb)
 cases a with
 | nil=>exact ⟨_,_,σ,wSs fun k=>k YTJ la lb YAo mm,.inl ⟨_,IsEd.nil_left b,by simp⟩,Yi,Nat.le_refl _⟩
 | cons x a=>cases b with
  | nil=>exact ⟨_,_,σ,wSs fun k=>k (YKp A) YTJ la lb YAo mm,.inl ⟨_,IsEd.nil_right (x::a),by simp⟩,Yi,Nat.le_refl _⟩
  | cons y b=>
   have g40:∀ {n:Nat},n≤30→cmpA σ .Gt (.int (n:Int)) (.int 40)=some false:=fun h=>YPO.trans (congrArg some (decide_eq_false (Zi94 (Zi98 h))))
   by_cases h:(x::a).length≤(y::b).length
   ·have e:exSs Φs lev12 (lv (x::a) (y::b) m (some P) (some Q) none none) σ=some (.next,lv (x::a) (y::b) m (some P) (some Q) none none,σ):=
     wSs fun k=>k (YKp A) (YKp B) la (g40 ha) lb (g40 hb) lb la (YMC.trans (congrArg some (decide_eq_false (Zi95 (Zi99 h)))))
    obtain ⟨v,ρ',σ',e',t,k⟩:=YHX (m:=m) (P:=P) (Q:=Q) hσ (List.cons_ne_nil x a) (List.cons_ne_nil y b) (Ze75 ha) (Ze75 hb) h a8 b8
    exact ⟨v,ρ',σ',(YDl lev12 e).trans e',t,k⟩
   ·have e:exSs Φs lev12 (lv (x::a) (y::b) m (some P) (some Q) none none) σ=some (.next,lv (y::b) (x::a) m (some P) (some Q) none none,σ):=
     wSs fun k=>k (YKp A) (YKp B) la (g40 ha) lb (g40 hb) lb la (YMC.trans (congrArg some (decide_eq_true (Zi100 h)))) (show 2≤lim by decide) rfl
    obtain ⟨v,ρ',σ',e',t,k⟩:=YHX (m:=m) (P:=P) (Q:=Q) hσ (List.cons_ne_nil y b) (List.cons_ne_nil x a) (Ze75 hb) (Ze75 ha) (Ze76 h) b8 a8
    exact ⟨v,ρ',σ',(YDl lev12 e).trans e',t.symm,k⟩
theorem YFq (a b:List Nat):∃ p,a=p++a.drop (cpl a b)∧b=p++b.drop (cpl a b):=⟨a.take (cpl a b),(List.take_append_drop ..).symm,by rw [YLZ,List.take_append_drop]⟩
theorem YIB (a b:List Nat):∃ p,a=a.take (a.length-cpl a.reverse b.reverse)++p∧b=b.take (b.length-cpl a.reverse b.reverse)++p:=by
 obtain ⟨p,h1,h2⟩:=YFq a.reverse b.reverse
 have e1:=congrArg List.reverse h1
 have e2:=congrArg List.reverse h2
 simp only [List.reverse_reverse,List.reverse_append,List.reverse_drop,List.length_reverse] at e1 e2
 exact ⟨p.reverse,e1,e2⟩
theorem Told.lift {a b A B:List Nat} {m v:Int} (h:∀ d,IsEd A B d→IsEd a b d) (t:Told A B m v):Told a b m v:=by
 rcases t with ⟨d,hd,hv⟩ | ⟨hv,hd⟩
 ·exact .inl ⟨d,h d hd,hv⟩
 ·refine .inr ⟨hv,fun d q=>?_⟩
  obtain ⟨d',hd'⟩:=IsEd.ex A B
  rw [IsEd.uniq q (h d' hd')]
  exact hd d' hd'
noncomputable def levQ:Ss:=.cons (.asg 4 (.int 0)) (.cons (.whl 100 postT postB) .nil)
noncomputable def levP:Ss:=.cons (.ite (.cmp .Eq (.var 0) (.var 1)) (.cons (.ret (.int 0)) .nil) .nil) (.cons (.asg 3 (.int 0)) (.cons (.whl 100 preT preB) (.cons (.asg 0 (.sli (.var 0) (.var 3) .none .none)) (.cons (.asg 1 (.sli (.var 1) (.var 3) .none .none)) .nil))))
noncomputable def levR:Ss:=apS levQ (.cons (.asg 0 (cutE 0)) (.cons (.asg 1 (cutE 1)) (.cons st10 (.cons st11 (.cons st12 tail13)))))
theorem YMj {Φ:Tab} {i:Nat} {e:E} {ρ:YF} {σ σ1:List AO} {v:AV} (h:evE Φ e ρ σ=some (v,σ1)):exS Φ (.asg i e) ρ σ=some (.next,ρ.set i (some v),σ1):=ms h
theorem YLc {A B:List Nat} {m:Int} {P:AV} {σ:List AO} (hσ:Ok σ) (la:A.length≤20) (lb:B.length≤20) (a8:∀ c∈A,c<128) (b8:∀ c∈B,c<128):
  ∃ (v:Int) (ρ':YF) (σ':List AO),exSs Φs levR (lv A B m (some P) none none none) σ=some (.ret (.int v),ρ',σ')∧Told A B m v∧σ'.take σ.length=σ∧σ.length≤σ'.length:=by
 have hk:=YMt A.reverse B.reverse
 have p:=YKM (Φ:=Φs) (σ:=σ) (m:=some (.int m)) (p:=some P) (r:=[none,none,none,none,none,none,none,none,none]) (Nat.le_trans la (by decide)) (Nat.le_trans lb (by decide)) a8 b8 A.reverse B.reverse 0 _ (by rw [Nat.sub_zero,List.take_length]) (by rw [Nat.sub_zero,List.take_length]) (Nat.zero_le _) (Nat.zero_le _) (Nat.zero_add _) 100 (by rw [List.length_reverse]; exact Nat.lt_of_le_of_lt la (by decide))
 obtain ⟨s,ss1,ss2⟩:=YIB A B
 generalize cpl A.reverse B.reverse=k at p hk ss1 ss2
 rw [List.length_reverse,List.length_reverse] at hk
 have e:exSs Φs levQ (lv A B m (some P) none none none) σ=some (.next,lv A B m (some P) (some (.int (-(k:Int)))) none none,σ):=wSs fun q=>q ((YHk ..).trans p)
 have c1:=YFM (Φ:=Φs) (σ:=σ) (x:=A) (i:=0) (k:=k) (ρ:=lv A B m (some P) (some (.int (-(k:Int)))) none none) (Nat.le_trans la (by decide)) rfl rfl hk.1
 have c2:=YFM (Φ:=Φs) (σ:=σ) (x:=B) (i:=1) (k:=k) (ρ:=lv (A.take (A.length-k)) B m (some P) (some (.int (-(k:Int)))) none none) (Nat.le_trans lb (by decide)) rfl rfl hk.2
 obtain ⟨v,ρ',σ',e',t,r⟩:=YLn (a:=A.take (A.length-k)) (b:=B.take (B.length-k)) (m:=m) (P:=P) (Q:=.int (-(k:Int))) hσ (by rw [List.length_take]; exact Ze81 la) (by rw [List.length_take]; exact Ze81 lb) (fun c hc=>a8 c (List.mem_of_mem_take hc)) (fun c hc=>b8 c (List.mem_of_mem_take hc))
 refine ⟨v,ρ',σ',(YDl levQ e).trans ((YC (YMj c1)).trans ((YC (YMj c2)).trans e')),t.lift fun d hd=>?_,r⟩
 have h:=IsEd.post s hd
 rw [←ss1,←ss2] at h
 exact h
theorem YII {a b:List Nat} {m:Int} {σ:List AO} (hσ:Ok σ) (ha:a.length≤20) (hb:b.length≤20) (a8:∀ c∈a,c<128) (b8:∀ c∈b,c<128) (sa:SOk a=true) (sb:SOk b=true):
  ∃ v:Int,YIY [.str a,.str b,.int m] σ=some (.int v,σ)∧Told a b m v:=by
 by_cases hab:a=b
 ·subst hab
  exact ⟨0,YAf (lv a a m none none none none) hσ rfl rfl (wSs fun k=>k ((YFi sa sa).trans (congrArg some (decide_eq_true rfl)))) rfl,.inl ⟨0,IsEd.self a,rfl⟩⟩
 ·have hp:=YMt a b
  have p:=YLd (Φ:=Φs) (σ:=σ) (m:=some (.int m)) (r:=[none,none,none,none,none,none,none,none,none,none]) (Nat.le_trans ha (by decide)) (Nat.le_trans hb (by decide)) a8 b8 a b 0 _ rfl rfl (Nat.zero_le _) (Nat.zero_add _) 100 (Nat.lt_of_le_of_lt ha (by decide))
  obtain ⟨q,sp1,sp2⟩:=YFq a b
  generalize cpl a b=pre at p hp sp1 sp2
  have hp1:pre≤1000:=Nat.le_trans hp.1 (Nat.le_trans ha (by decide))
  have e:exSs Φs levP (lv a b m none none none none) σ=some (.next,lv (a.drop pre) (b.drop pre) m (some (.int (pre:Int))) none none none,σ):=
   wSs fun k=>k ((YFi sa sb).trans (congrArg some (decide_eq_false hab))) ((YHk ..).trans p) (YGa (Nat.le_trans ha (by decide)) hp1) (YGa (Nat.le_trans hb (by decide)) hp1)
  obtain ⟨v,ρ',σ',e',t,ht,hle⟩:=YLc (A:=a.drop pre) (B:=b.drop pre) (m:=m) (P:=.int (pre:Int)) hσ (by rw [List.length_drop]; exact Ze80 ha) (by rw [List.length_drop]; exact Ze80 hb) (fun c hc=>a8 c (List.mem_of_mem_drop hc)) (fun c hc=>b8 c (List.mem_of_mem_drop hc))
  refine ⟨v,(Yt (lv a b m none none none none) rfl rfl ((YDl levP e).trans e') hle (by rw [ht]; exact hσ) (YZ rfl)).trans (by rw [ht]),t.lift fun d hd=>?_⟩
  have h:=IsEd.pre q hd
  rw [←sp1,←sp2] at h
  exact h
end Mine
end
section
namespace Mine
noncomputable def cost:List Nat→List Nat→Nat
 | x::p,y::q=>subN x y+cost p q
 | _,_=>0
theorem YAv {p a:List Nat} (h:p.Sublist a):∀ {q b:List Nat},q.Sublist b→p.length=q.length→Edit a b (2*(a.length-p.length)+2*(b.length-q.length)+cost p q):=by
 induction h with
 | slnil=>
  intro q b hq hl
  have:q=[]:=List.length_eq_zero_iff.mp (by simpa using hl.symm)
  subst this
  have:=Edit.all_ins b
  simpa [cost] using this
 | cons x h ih=>
  intro q b hq hl
  have e:=Edit.del x (ih hq hl)
  have:=h.length_le
  rename_i l₁ l₂
  rw [show 2*((x::l₂).length-l₁.length)+2*(b.length-q.length)+cost l₁ q=2*(l₂.length-l₁.length)+2*(b.length-q.length)+cost l₁ q+2 by simp; exact Ze292 this]
  exact e
 | cons_cons x h ih=>
  rename_i l₁ l₂
  intro q b hq hl
  induction hq with
  | slnil=>simp at hl
  | @cons q' b' y hq ihq=>
   have e:=Edit.ins y (ihq hl)
   have:=hq.length_le
   rw [show 2*((x::l₂).length-(x::l₁).length)+2*((y::b').length-q'.length)+cost (x::l₁) q'=2*((x::l₂).length-(x::l₁).length)+2*(b'.length-q'.length)+cost (x::l₁) q'+2 by simp; exact Ze293 this]
   exact e
  | @cons_cons q' b' y hq _=>
   have e:=Edit.sub x y (ih hq (by simpa using hl))
   rw [show 2*((x::l₂).length-(x::l₁).length)+2*((y::b').length-(y::q').length)+cost (x::l₁) (y::q')=2*(l₂.length-l₁.length)+2*(b'.length-q'.length)+cost l₁ q'+subN x y by simp [cost]; exact Ze294]
   exact e
theorem YES {a b:List Nat} {n:Nat} (h:Edit a b n):∃ p q,p.Sublist a∧q.Sublist b∧p.length=q.length∧n=2*(a.length-p.length)+2*(b.length-q.length)+cost p q:=by
 induction h with
 | nil=>exact ⟨[],[],.slnil,.slnil,rfl,rfl⟩
 | del x _ ih=>
  obtain ⟨p,q,h1,h2,h3,rfl⟩:=ih
  exact ⟨p,q,.cons x h1,h2,h3,by rw [List.length_cons]; exact Ze295 h1.length_le⟩
 | ins y _ ih=>
  obtain ⟨p,q,h1,h2,h3,rfl⟩:=ih
  exact ⟨p,q,h1,.cons y h2,h3,by rw [List.length_cons]; exact Ze296 h2.length_le⟩
 | sub x y _ ih=>
  obtain ⟨p,q,h1,h2,h3,rfl⟩:=ih
  exact ⟨x::p,y::q,.cons_cons x h1,.cons_cons y h2,congrArg (·+1) h3,by show _=2*(_+1-(_+1))+2*(_+1-(_+1))+(subN x y+cost p q); rw [Nat.add_sub_add_right,Nat.add_sub_add_right]; exact Ze297⟩
noncomputable def YY (w:List Nat) (mask:Nat):List Nat:=((List.range w.length).filter fun k=>decide (mask/2 ^ k%2=1)).map fun k=>w.getD k 0
theorem YSx (w:List Nat):(List.range w.length).map (fun k=>w.getD k 0)=w:=by
 refine List.ext_getElem (by rw [List.length_map,List.length_range]) fun i h1 h2=>?_
 rw [List.getElem_map,List.getElem_range,List.getD_eq_getElem?_getD,List.getElem?_eq_getElem h2]; rfl
theorem YMI {w:List Nat} (hw:w.length≤3) {mask:Nat} (hm:mask<2 ^ w.length):(YY w mask).Sublist w:=by
 have h:=(List.filter_sublist (p:=fun k=>decide (mask/2 ^ k%2=1)) (l:=List.range w.length)).map fun k=>w.getD k 0
 rw [YSx] at h
 exact h
theorem YLt {w p:List Nat} (hw:w.length≤3) (h:p.Sublist w):∃ mask,mask<2 ^ w.length∧YY w mask=p:=by
 rcases w with _ | ⟨a,_ | ⟨b,_ | ⟨c,_ | ⟨d,r⟩⟩⟩⟩
 ·cases h; exact ⟨0,by decide,by kernel_rfl⟩
 ·cases h with
  | cons _ h=>cases h; exact ⟨0,Nat.lt_of_lt_of_le (by decide:0<2 ^ 1) (Nat.le_refl _),by kernel_rfl⟩
  | cons_cons _ h=>cases h; exact ⟨1,Nat.lt_of_lt_of_le (by decide:1<2 ^ 1) (Nat.le_refl _),by kernel_rfl⟩
 ·cases h with
  | cons _ h=>cases h with
   | cons _ h=>cases h; exact ⟨0,Nat.lt_of_lt_of_le (by decide:0<2 ^ 2) (Nat.le_refl _),by kernel_rfl⟩
   | cons_cons _ h=>cases h; exact ⟨2,Nat.lt_of_lt_of_le (by decide:2<2 ^ 2) (Nat.le_refl _),by kernel_rfl⟩
  | cons_cons _ h=>cases h with
   | cons _ h=>cases h; exact ⟨1,Nat.lt_of_lt_of_le (by decide:1<2 ^ 2) (Nat.le_refl _),by kernel_rfl⟩
   | cons_cons _ h=>cases h; exact ⟨3,Nat.lt_of_lt_of_le (by decide:3<2 ^ 2) (Nat.le_refl _),by kernel_rfl⟩
 ·cases h with
  | cons _ h=>cases h with
   | cons _ h=>cases h with
    | cons _ h=>cases h; exact ⟨0,Nat.lt_of_lt_of_le (by decide:0<2 ^ 3) (Nat.le_refl _),by kernel_rfl⟩
    | cons_cons _ h=>cases h; exact ⟨4,Nat.lt_of_lt_of_le (by decide:4<2 ^ 3) (Nat.le_refl _),by kernel_rfl⟩
   | cons_cons _ h=>cases h with
    | cons _ h=>cases h; exact ⟨2,Nat.lt_of_lt_of_le (by decide:2<2 ^ 3) (Nat.le_refl _),by kernel_rfl⟩
    | cons_cons _ h=>cases h; exact ⟨6,Nat.lt_of_lt_of_le (by decide:6<2 ^ 3) (Nat.le_refl _),by kernel_rfl⟩
  | cons_cons _ h=>cases h with
   | cons _ h=>cases h with
    | cons _ h=>cases h; exact ⟨1,Nat.lt_of_lt_of_le (by decide:1<2 ^ 3) (Nat.le_refl _),by kernel_rfl⟩
    | cons_cons _ h=>cases h; exact ⟨5,Nat.lt_of_lt_of_le (by decide:5<2 ^ 3) (Nat.le_refl _),by kernel_rfl⟩
   | cons_cons _ h=>cases h with
    | cons _ h=>cases h; exact ⟨3,Nat.lt_of_lt_of_le (by decide:3<2 ^ 3) (Nat.le_refl _),by kernel_rfl⟩
    | cons_cons _ h=>cases h; exact ⟨7,Nat.lt_of_lt_of_le (by decide:7<2 ^ 3) (Nat.le_refl _),by kernel_rfl⟩
 ·exact absurd hw (Nat.not_le_of_lt (Nat.le_add_left 4 r.length))
noncomputable def partsK (w:List Nat) (k:Nat):List (List Nat):=((List.range (2 ^ w.length)).map (YY w)).filter fun p=>decide (p.length=k)
theorem YBM {w p:List Nat} {k:Nat} (hw:w.length≤3):p∈partsK w k↔p.Sublist w∧p.length=k:=by
 unfold partsK
 simp only [List.mem_filter,List.mem_map,List.mem_range,decide_eq_true_eq]
 constructor
 ·rintro ⟨⟨m,hm,rfl⟩,h⟩
  exact ⟨YMI hw hm,h⟩
 ·rintro ⟨h1,h2⟩
  obtain ⟨m,hm,e⟩:=YLt hw h1
  exact ⟨⟨m,hm,e⟩,h2⟩
noncomputable def waysK (a b:List Nat) (k:Nat):List Nat:=(partsK a k).flatMap fun p=>(partsK b k).map fun q=>2*(a.length+b.length-2*k)+cost p q
noncomputable def waysOf (a b:List Nat):List Nat:=(List.range 4).flatMap (waysK a b)
theorem YEk {a b:List Nat} (ha:a.length≤3) (hb:b.length≤3) {n:Nat}:n∈waysOf a b↔Edit a b n:=by
 unfold waysOf waysK
 simp only [List.mem_flatMap,List.mem_map,List.mem_range,YBM ha,YBM hb]
 constructor
 ·rintro ⟨k,hk,p,⟨hp,rfl⟩,q,⟨hq,hl⟩,rfl⟩
  have h1:=hp.length_le
  have h2:=hq.length_le
  have:=YAv hp hq hl.symm
  rwa [show 2*(a.length-p.length)+2*(b.length-q.length)+cost p q=2*(a.length+b.length-2*p.length)+cost p q by exact Ze298 hl h2 h1] at this
 ·intro h
  obtain ⟨p,q,hp,hq,hl,rfl⟩:=YES h
  have h1:=hp.length_le
  have h2:=hq.length_le
  exact ⟨p.length,by exact Ze299 ha h1,p,⟨hp,rfl⟩,q,⟨hq,hl.symm⟩,by exact Ze300 hl h1 h2⟩
theorem YBc {l:List Nat} {k y:Nat}:y∈l.take k↔∃ i,i<k∧l[i]?=some y:=by
 rw [List.mem_iff_getElem?]
 constructor
 ·rintro ⟨i,hi⟩
  rw [List.getElem?_take] at hi
  split at hi
  ·rename_i q; exact ⟨i,q,hi⟩
  ·cases hi
 ·rintro ⟨i,q,hi⟩
  exact ⟨i,by rw [List.getElem?_take_of_lt q]; exact hi⟩
noncomputable def mt (D:Nat→Nat→Nat) (P:List Nat) (i:Nat):Nat:=P.foldl (fun m c=>min m (D i c)) 9
theorem YOt (D:Nat→Nat→Nat) (P:List Nat) (c i:Nat):mt D (P++[c]) i=min (mt D P i) (D i c):=by simp [mt]
theorem YEg (f:Nat→Nat):∀ (P:List Nat) (m:Nat),P.foldl (fun m c=>min m (f c)) m≤m∧(∀ c∈P,P.foldl (fun m c=>min m (f c)) m≤f c)∧(P.foldl (fun m c=>min m (f c)) m=m∨∃ c∈P,P.foldl (fun m c=>min m (f c)) m=f c)
 | [],m=>⟨Nat.le_refl _,fun _ q=>(nomatch q),.inl rfl⟩
 | c::P,m=>by
  obtain ⟨h1,h2,h3⟩:=YEg f P (min m (f c))
  rw [List.foldl_cons]
  refine ⟨by exact Ze106 h1,fun d hd=>?_,?_⟩
  ·rcases List.mem_cons.mp hd with rfl | hd
   ·exact Ze107 h1
   ·exact h2 d hd
  ·rcases h3 with h3 | ⟨d,hd,h3⟩
   ·rcases Nat.le_total m (f c) with q | q
    ·left; exact Ze301 h3 q
    ·exact .inr ⟨c,by simp,by exact Ze302 h3 q⟩
   ·exact .inr ⟨d,by simp [hd],h3⟩
theorem YHY (D:Nat→Nat→Nat) (P:List Nat) (i:Nat):mt D P i≤9:=(YEg (D i) P 9).1
theorem YRg {D:Nat→Nat→Nat} {P:List Nat} {i c:Nat} (h:c∈P):mt D P i≤D i c:=(YEg (D i) P 9).2.1 c h
theorem YHg (D:Nat→Nat→Nat) (P:List Nat) (i:Nat):mt D P i=9∨∃ c∈P,mt D P i=D i c:=(YEg (D i) P 9).2.2
theorem YKd {D:Nat→Nat→Nat} {P Q:List Nat} {i:Nat} (h:∀ c∈P,c∈Q):mt D Q i≤mt D P i:=by
 rcases YHg D P i with q | ⟨c,hc,q⟩
 ·rw [q]; exact YHY ..
 ·rw [q]; exact YRg (h c hc)
set_option genInjectivity false in
structure Pick (D:Nat→Nat→Nat) (P left:List Nat) (x:Nat×Nat):Prop where
 mem:x.2∈left
 price:x.1=mt D P x.2
 far:∀ y∈left,mt D P y≤x.1∧(mt D P y=x.1→x.2≤y)
theorem Pick.uniq {D:Nat→Nat→Nat} {P left:List Nat} {x y:Nat×Nat} (h:Pick D P left x) (h':Pick D P left y):x=y:=by
 have a:=h.far _ h'.mem
 have b:=h'.far _ h.mem
 rw [←h'.price] at a
 rw [←h.price] at b
 have e1:x.1=y.1:=by exact Ze303 b.1 a.1
 have e2:x.2=y.2:=Nat.le_antisymm (a.2 e1.symm) (b.2 e1)
 exact Prod.ext e1 e2
inductive Greedy (D:Nat→Nat→Nat):List Nat→List Nat→List (Nat×Nat)→Prop
 | nil {P:List Nat}:Greedy D P [] []
 | cons {P left:List Nat} {x:Nat×Nat} {r:List (Nat×Nat)}:Pick D P left x→Greedy D (P++[x.2]) (left.filter fun y=>decide (y≠x.2)) r→Greedy D P left (x::r)
theorem Greedy.uniq {D:Nat→Nat→Nat} {P left:List Nat} {r s:List (Nat×Nat)} (h:Greedy D P left r):Greedy D P left s→r=s:=by
 induction h generalizing s with
 | nil=>
  intro h
  cases h with
  | nil=>rfl
  | cons p _=>exact absurd p.mem (by simp)
 | cons p _ ih=>
  intro h
  cases h with
  | nil=>exact absurd p.mem (by simp)
  | cons p' h'=>
   have:=p.uniq p'
   subst this
   rw [ih h']
theorem Greedy.all {D:Nat→Nat→Nat} {P left:List Nat} {r:List (Nat×Nat)} (h:Greedy D P left r):(∀ y,y∈r.map (·.2)↔y∈left)∧∀ k x,r[k]?=some x→x.1=mt D (P++(r.take k).map (·.2)) x.2∧∀ y,y∈left→y∉(r.take k).map (·.2)→mt D (P++(r.take k).map (·.2)) y≤x.1:=by
 induction h with
 | nil=>exact ⟨fun y=>by simp,fun k x hx=>by simp at hx⟩
 | @cons P left x r p _ ih=>
  obtain ⟨i1,i2⟩:=ih
  refine ⟨fun y=>?_,fun k z hz=>?_⟩
  ·rw [List.map_cons,List.mem_cons,i1 y,List.mem_filter]
   constructor
   ·rintro (rfl | ⟨h,_⟩)
    ·exact p.mem
    ·exact h
   ·intro h
    by_cases q:y=x.2
    ·exact .inl q
    ·exact .inr ⟨h,by simpa using q⟩
  ·cases k with
   | zero=>
    simp at hz; subst hz
    simp only [List.take_zero,List.map_nil,List.append_nil]
    exact ⟨p.price,fun y hy _=>(p.far y hy).1⟩
   | succ k=>
    have hz:r[k]?=some z:=by simpa using hz
    obtain ⟨j1,j2⟩:=i2 k z hz
    simp only [List.take_succ_cons,List.map_cons]
    rw [show P++(x.2::(r.take k).map (·.2))=P++[x.2]++(r.take k).map (·.2) by simp]
    refine ⟨j1,fun y hy hn=>j2 y ?_ fun q=>hn (List.mem_cons_of_mem _ q)⟩
    rw [List.mem_filter]
    refine ⟨hy,decide_eq_true fun q=>hn ?_⟩
    rw [q]; exact List.mem_cons_self ..
theorem Greedy.nodup {D:Nat→Nat→Nat} {P left:List Nat} {r:List (Nat×Nat)} (h:Greedy D P left r):(r.map (·.2)).Nodup:=by
 induction h with
 | nil=>simp
 | @cons P left x r p g ih=>
  rw [List.map_cons,List.nodup_cons]
  refine ⟨fun q=>?_,ih⟩
  have:=(g.all.1 _).mp q
  simp at this
theorem pigeon {f:Nat→Nat}:∀ (xs cs:List Nat),xs.Nodup→cs.length<xs.length→(∀ x∈xs,f x∈cs)→∃ a b:Nat,∃ x y,a<b∧xs[a]?=some x∧xs[b]?=some y∧f x=f y
 | [],cs,_,h,_=>by simp at h
 | x::xs,cs,hn,h,hf=>by
  rw [List.nodup_cons] at hn
  by_cases q:∃ y∈xs,f y=f x
  ·obtain ⟨y,hy,e⟩:=q
   obtain ⟨b,hb⟩:=List.mem_iff_getElem?.mp hy
   exact ⟨0,b+1,x,y,by exact Ze304,rfl,by simpa using hb,e.symm⟩
  ·have hx:=hf x (by simp)
   have hl:(cs.erase (f x)).length<xs.length:=by
    rw [List.length_erase_of_mem hx]
    have:0<cs.length:=List.length_pos_of_mem hx
    simp at h; exact Ze305 this h
   obtain ⟨a,b,u,v,hab,ha,hb,e⟩:=pigeon xs (cs.erase (f x)) hn.2 hl fun y hy=>by
    have hne:f y≠f x:=fun z=>q ⟨y,hy,z⟩
    exact (List.mem_erase_of_ne hne).mpr (hf y (by simp [hy]))
   exact ⟨a+1,b+1,u,v,by exact Ze95 hab,by simpa using ha,by simpa using hb,e⟩
set_option genInjectivity false in
structure Met (D:Nat→Nat→Nat):Prop where
 self:∀ i,i<5→D i i=0
 symm:∀ i j,i<5→j<5→D i j=D j i
 tri:∀ i j k,i<5→j<5→k<5→D i k≤D i j+D j k
theorem gonzalez {D:Nat→Nat→Nat} (M:Met D) {r:List (Nat×Nat)} (h:Greedy D [] [0,1,2,3,4] r) {k:Nat} {x:Nat×Nat} (hx:r[k]?=some x) {S:List Nat} {R:Nat} (hS:S.length≤k) (hS5:∀ c∈S,c<5) (hR:∀ i,i<5→∃ c∈S,D i c≤R):x.1≤2*R:=by
 obtain ⟨a1,a2⟩:=h.all
 have lt5:∀ y,y∈r.map (·.2)→y<5:=fun y hy=>by
  have:=(a1 y).mp hy
  simp at this; lia
 have hk:=(List.getElem?_eq_some_iff.mp hx).1
 -- the first k+1 picks
 have hnd:((r.take (k+1)).map (·.2)).Nodup:=by
  rw [List.map_take]
  exact (List.take_sublist ..).nodup h.nodup
 have hlen:((r.take (k+1)).map (·.2)).length=k+1:=by rw [List.length_map,List.length_take]; exact Ze306 hk
 have mem5:∀ y∈(r.take (k+1)).map (·.2),y<5:=fun y hy=>lt5 y (by rw [List.map_take] at hy; exact List.mem_of_mem_take hy)
 have ch:∃ f:Nat→Nat,∀ i,i<5→f i∈S∧D i (f i)≤R:=by
  refine ⟨fun i=>if q:i<5 then (hR i q).choose else 0,fun i hi=>?_⟩
  simp only [hi,dif_pos]
  exact (hR i hi).choose_spec
 obtain ⟨f,hf⟩:=ch
 obtain ⟨a,b,u,v,hab,hu,hv,e⟩:=pigeon (f:=f) ((r.take (k+1)).map (·.2)) S hnd (by exact Ze307 hlen hS) fun y hy=>(hf y (mem5 y hy)).1
 have hb:b<k+1:=by rw [←hlen]; exact (List.getElem?_eq_some_iff.mp hv).1
 rw [List.getElem?_map,List.getElem?_take_of_lt (by first | assumption | exact Ze308 hb hab),Option.map_eq_some_iff] at hu hv
 obtain ⟨pu,hu,rfl⟩:=hu
 obtain ⟨pv,hv,rfl⟩:=hv
 have u5:=lt5 pu.2 (List.mem_map_of_mem (f:=(·.2)) (List.mem_of_getElem? hu))
 have v5:=lt5 pv.2 (List.mem_map_of_mem (f:=(·.2)) (List.mem_of_getElem? hv))
 have x5:=lt5 x.2 (List.mem_map_of_mem (f:=(·.2)) (List.mem_of_getElem? hx))
 -- v's price is no dearer than its way to u
 obtain ⟨b1,b2⟩:=a2 b pv hv
 have m1:pv.1≤D pv.2 pu.2:=by
  rw [b1]
  refine YRg ?_
  rw [List.nil_append,List.map_take,YBc]
  exact ⟨a,hab,by rw [List.getElem?_map,hu]; rfl⟩
 -- x's price is no dearer than v's
 have m2:x.1≤pv.1:=by
  obtain ⟨c1,_⟩:=a2 k x hx
  rw [c1]
  by_cases q:b=k
  ·subst q
   rw [hx] at hv; cases hv
   rw [←c1]; exact Nat.le_refl _
  ·have hn:x.2∉(r.take b).map (·.2):=fun z=>by
    rw [List.map_take,YBc] at z
    obtain ⟨i,hi,z⟩:=z
    have hk2:(r.map (·.2))[k]?=some x.2:=by rw [List.getElem?_map,hx]; rfl
    have:=YEq h.nodup z hk2 (by exact Ze309 hb hi)
    exact this rfl
   refine Nat.le_trans (YKd fun c hc=>?_) (b2 x.2 ((a1 _).mp (List.mem_map_of_mem (f:=(·.2)) (List.mem_of_getElem? hx))) hn)
   rw [List.nil_append,List.map_take,YBc] at hc ⊢
   obtain ⟨i,hi,z⟩:=hc
   exact ⟨i,by exact Ze46 hb hi,z⟩
 have hfu:=(hf _ u5)
 have hfv:=(hf _ v5)
 have t:=M.tri pv.2 (f pv.2) pu.2 v5 (hS5 _ hfv.1) u5
 have s:=M.symm (f pv.2) pu.2 (hS5 _ hfv.1) u5
 rw [s,←e] at t
 rw [←e] at hfv
 exact Ze310 m1 m2 hfu.2 hfv.2 t
end Mine
end
section
open PySem PySem.Spec
namespace Mine
noncomputable def pv (D:Nat→Nat→Nat):AV:=.lst ((List.range 5).map fun i=>.lst ((List.range 5).map fun j=>nI (D i j)))
noncomputable def tupN (x:Nat×Nat):AV:=.tup [nI x.1,nI x.2]
theorem Yu:∀ l:List Nat,intsOf (l.map nI)=some (l.map fun (n:Nat)=>(n:Int))
 | []=>rfl
 | a::r=>by simp only [List.map_cons,nI,intsOf,Yu r,Option.map_some]
theorem YHH (l:List Nat):∀ m:Nat,(l.map fun (n:Nat)=>(n:Int)).foldl (fun m y=>if y<m then y else m) (m:Int)=((l.foldl min m:Nat):Int):=by
 induction l with
 | nil=>intro m; rfl
 | cons a r ih=>
  intro m
  rw [List.map_cons,List.foldl_cons,List.foldl_cons,←ih (min m a)]
  congr 1
  split <;> (first | exact Zi101 ‹_› | exact Zi102 ‹_›)
theorem YHj (l:List Nat):∀ m:Nat,(l.map fun (n:Nat)=>(n:Int)).foldl (fun m y=>if y>m then y else m) (m:Int)=((l.foldl max m:Nat):Int):=by
 induction l with
 | nil=>intro m; rfl
 | cons a r ih=>
  intro m
  rw [List.map_cons,List.foldl_cons,List.foldl_cons,←ih (max m a)]
  congr 1
  split <;> (first | exact Zi103 ‹_› | exact Zi104 ‹_›)
theorem YHJ {σ:List AO} {v:AV} {a:Nat} {r:List Nat} (h:items σ v=some ((a::r).map nI)):biA σ .min [v]=some (nI (r.foldl min a)):=by
 cases v <;> first | (cases h; done) | exact YG (P:=SndL (biVal .min) σ [_]) h (YG (Yu (a::r)) (YG (congrArg some (YHH r a)) rfl)) | (unfold biA biC; refine YG h ?_; refine YG (Yu (a::r)) ?_; exact YG (congrArg some (YHH r a)) rfl)
theorem YHf {σ:List AO} {v:AV} {a:Nat} {r:List Nat} (h:items σ v=some ((a::r).map nI)):biA σ .max [v]=some (nI (r.foldl max a)):=by
 cases v <;> first | (cases h; done) | exact YG (P:=SndL (biVal .max) σ [_]) h (YG (Yu (a::r)) (YG (congrArg some (YHj r a)) rfl)) | (unfold biA biC; refine YG h ?_; refine YG (Yu (a::r)) ?_; exact YG (congrArg some (YHj r a)) rfl)
theorem YFf:∀ n:Fin 10,PyData.weight (.int (n.val:Int))≤5:=by decide
theorem YGw:∀ (l:List Nat),(∀ n∈l,n≤9)→PyData.canLayAll0 (l.map fun (n:Nat)=>PyData.int (n:Int))=true∧PyData.depthAll (l.map fun (n:Nat)=>PyData.int (n:Int))=0∧PyData.weightAll (l.map fun (n:Nat)=>PyData.int (n:Int))≤6*l.length
 | [],_=>by simp [PyData.canLayAll0,PyData.depthAll,PyData.weightAll]
 | a::r,h=>by
  obtain ⟨h1,h2,h3⟩:=YGw r fun n hn=>h n (by simp [hn])
  have:=YFf ⟨a,by have:=h a (by simp); exact Ze82 this⟩
  simp only [List.map_cons,PyData.canLayAll0,PyData.canLay0,h1,Bool.and_self,PyData.depthAll,PyData.depth,h2,PyData.weightAll,List.length_cons,true_and]
  refine ⟨rfl,?_⟩
  simp only at this
  exact Ze83 h3 this
theorem YHu (l:List Nat) (m:Nat):(l.map fun (n:Nat)=>(n:Int)).idxOf (m:Int)=l.idxOf m:=by
 induction l with
 | nil=>rfl
 | cons a r ih=>
  rw [List.map_cons,List.idxOf_cons,List.idxOf_cons,ih]
  have:((a:Int)==(m:Int))=(a==m):=by
   by_cases h:a=m
   ·subst h; simp
   ·rw [beq_eq_false_iff_ne.mpr h,beq_eq_false_iff_ne]; lia
  rw [this]
theorem YHr {σ:List AO} {l:List Nat} {m:Nat} (hl:l.length≤5) (h9:∀ n∈l,n≤9) (hm:m∈l):meA σ .index (.lst (l.map nI)) [nI m]=some (nI (l.idxOf m),σ):=by
 have c:(l.map fun (n:Nat)=>(n:Int)).contains (m:Int)=true:=by
  rw [List.contains_iff_mem]; exact List.mem_map_of_mem hm
 have ly:(PyData.list ((l.map fun (n:Nat)=>(n:Int)).map .int)).layable0=true:=by
  obtain ⟨h1,h2,h3⟩:=YGw l h9
  rw [List.map_map]
  show PyData.layable0 (.list (l.map fun (n:Nat)=>PyData.int (n:Int)))=true
  unfold PyData.layable0
  simp only [PyData.canLay0,h1,PyData.depth,h2,PyData.weight,Bool.true_and,Bool.and_eq_true,decide_eq_true_eq]
  exact ⟨by exact Ze84,decide_eq_true (by exact Ze85 h3 hl)⟩
 rw [←YHu]
 unfold meA meC nI
 exact YG YFX (YG (Yu l) (YO ⟨c,ly⟩ rfl))
theorem YAG:∀ (r:List Nat) (a:Nat),r.foldl max a∈a::r∧∀ y∈a::r,y≤r.foldl max a
 | [],a=>by simp
 | b::r,a=>by
  obtain ⟨h1,h2⟩:=YAG r (max a b)
  rw [List.foldl_cons]
  have hb:=h2 (max a b) (by simp)
  refine ⟨?_,fun y hy=>?_⟩
  ·rcases List.mem_cons.mp h1 with h | h
   ·rw [h]
    rcases Nat.le_total a b with q | q
    ·rw [Nat.max_eq_right q]; simp
    ·rw [Nat.max_eq_left q]; simp
   ·simp [h]
  ·simp only [List.mem_cons] at hy
   rcases hy with rfl | rfl | hy
   ·exact Ze86 hb
   ·exact Ze87 hb
   ·exact h2 y (by simp [hy])
theorem YPF (D:Nat→Nat→Nat) (P:List Nat) (i:Nat):(P.map (D i)).foldl min 9=mt D P i:=by
 unfold mt; rw [List.foldl_map]
theorem YHo {f:Nat→Nat} {a:Nat} {L:List Nat} (hs:(a::L).Pairwise (·<·)):∃ i,(a::L)[((a::L).map f).idxOf ((L.map f).foldl max (f a))]?=some i∧f i=(L.map f).foldl max (f a)∧∀ y∈a::L,f y≤(L.map f).foldl max (f a)∧(f y=(L.map f).foldl max (f a)→i≤y):=by
 obtain ⟨h1,h2⟩:=YAG (L.map f) (f a)
 generalize (L.map f).foldl max (f a)=M at h1 h2
 have h1:M∈(a::L).map f:=h1
 have hlt:((a::L).map f).idxOf M<((a::L).map f).length:=List.idxOf_lt_length_of_mem h1
 have hlt2:((a::L).map f).idxOf M<(a::L).length:=by simpa using hlt
 have hv:((a::L).map f)[((a::L).map f).idxOf M]=M:=List.getElem_idxOf hlt
 rw [List.getElem_map] at hv
 refine ⟨(a::L)[((a::L).map f).idxOf M],List.getElem?_eq_getElem hlt2,hv,fun y hy=>⟨h2 _ (List.mem_map_of_mem (f:=f) hy),fun e=>?_⟩⟩
 obtain ⟨k,hk,rfl⟩:=List.getElem_of_mem hy
 rcases Nat.lt_or_ge k (((a::L).map f).idxOf M) with q | q
 ·exfalso
  have:=List.not_of_lt_findIdx (p:=fun z=>z==M) (xs:=(a::L).map f) q
  simp only [List.getElem_map] at this
  rw [e] at this
  simp at this
 ·rcases Nat.eq_or_lt_of_le q with q | q
  ·simp only [q]; exact Nat.le_refl _
  ·exact Nat.le_of_lt (List.pairwise_iff_getElem.mp hs _ _ hlt2 hk q)
theorem YCp {α β:Type} (h:α→β) (p:α→Bool):∀ l:List α,l.flatMap (fun x=>if p x then [h x] else [])=(l.filter p).map h
 | []=>rfl
 | a::r=>by
  rw [List.flatMap_cons,YCp h p r,List.filter_cons]
  cases p a <;> rfl
section
variable {Φ:Tab} {ρ:YF} {σ:List AO} {α β:Type}
theorem YBy {m:Bool} {elt it:E} {t:T} {itv:AV} {l:List α} {e h:α→AV} {p:α→Bool} (h1:evE Φ it ρ σ=some (itv,σ)) (hI:Ym σ itv (l.map e)) (ht:∀ x∈l,evT Φ t (ρ++[some (e x)]) σ=some (p x,σ))
  (h2:∀ x∈l,p x=true→evE Φ elt (ρ++[some (e x)]) σ=some (h x,σ)):
  evE Φ (.comp m elt it (.cons t .nil)) ρ σ=newL m σ ((l.filter p).map h):=by
 refine bs h1 (bs (YCg (g:=fun x=>if p x then [h x] else []) hI fun x hx=>bs (bs (ht x hx) (?_:_=some (p x,σ))) ?_) (congrArg (newL m σ) (YCp h p l)))
 ·cases p x <;> rfl
 ·cases q:p x with
  | true=>exact ms (h2 x hx q)
  | false=>rfl
theorem YFA {m:Bool} {elt it1 it2:E} {itv:AV} {l:List α} {e:α→AV} {k:α→AV} {l2:α→List β} {e2:β→AV} {h:α→β→AV} (h1:evE Φ it1 ρ σ=some (itv,σ)) (hI:Ym σ itv (l.map e)) (h2:∀ x∈l,evE Φ it2 (ρ++[some (e x),none]) σ=some (k x,σ)∧Ym σ (k x) ((l2 x).map e2))
  (h3:∀ x∈l,∀ y∈l2 x,evE Φ elt (ρ++[some (e x),some (e2 y)]) σ=some (h x y,σ)):
  evE Φ (.comp2 m elt it1 it2) ρ σ=newL m σ (l.flatMap fun x=>(l2 x).map (h x)):=by
 exact bs h1 (bs (YCg (g:=fun x=>(l2 x).map (h x)) hI fun x hx=>bs (h2 x hx).1 ((YCg (g:=fun y=>[h x y]) (h2 x hx).2 fun y hy=>ms (h3 x hx y hy)).trans (by rw [YEh]))) rfl)
end
theorem YCR {σ:List AO} {n m k:Nat} {vs ws:List AV} (hm:n≤m) (h:σ[m]?=some (.list vs)) (hf:fzs σ n k vs=some ws):fz σ n (k+1) (.loc m)=some (.lst ws):=
 (if_neg (fun e=>Nat.not_lt.mpr hm (of_decide_eq_true e))).trans ((YIr h).trans (congrArg (Option.map AV.lst) hf))
theorem YAr {α:Type} {σ:List AO} {n k:Nat} {f g:α→AV}:∀ l:List α,(∀ x∈l,fz σ n k (f x)=some (g x))→fzs σ n k (l.map f)=some (l.map g)
 | [],_=>rfl
 | a::r,h=>(congrArg (Option.bind · _) (h a (List.mem_cons_self ..))).trans (congrArg (Option.map (g a::·)) (YAr r fun x hx=>h x (List.mem_cons_of_mem _ hx)))
theorem YR (σ:List AO) (n:Nat):Ym σ (.rng 0 (n:Int) 1) ((List.range n).map nI):=YDB n
theorem YMe {σ:List AO} {D:Nat→Nat→Nat} {i:Nat} (hi:i<5):subA σ (pv D) (nI i)=some (.lst ((List.range 5).map fun j=>nI (D i j))):=by
 unfold pv nI
 rw [YBv (by exact Nat.lt_of_lt_of_le (by assumption) (by decide)),List.getElem?_map,List.getElem?_range hi]
 rfl
theorem YSN {σ:List AO} {D:Nat→Nat→Nat} {i j:Nat} (hj:j<5):subA σ (.lst ((List.range 5).map fun j=>nI (D i j))) (nI j)=some (nI (D i j)):=by
 unfold nI
 rw [YBv (by exact Nat.lt_of_lt_of_le (by assumption) (by decide)),List.getElem?_map,List.getElem?_range hj]
 rfl
theorem YGT {σ:List AO} {x:Nat×Nat}:subA σ (tupN x) (.int 1)=some (nI x.2):=YQN (i:=1) (by exact Ze91)
theorem YOk {σ:List AO} {x:Nat×Nat}:subA σ (tupN x) (.int 0)=some (nI x.1):=YQN (i:=0) (by exact Ze47)
noncomputable def farE:E:=(.comp false (.bi .min (.cons (.bin .Add (.lst false (.cons (.int 9) .nil)) (.comp false (.sub (.sub (.var 0) (.var 5)) (.sub (.var 6) (.int 1))) (.var 1) .nil)) .nil)) (.var 2) .nil)
noncomputable def farB:Ss:=(.cons (.asg 3 farE)
  (.cons (.asg 4 (.sub (.var 2) (.me .index (.var 3) (.cons (.bi .max (.cons (.var 3) .nil)) .nil))))
  (.cons (.expr (.me .append (.var 1) (.cons (.tup (.cons (.bi .max (.cons (.var 3) .nil)) (.cons (.var 4) .nil))) .nil)))
  (.cons (.asg 2 (.comp false (.var 5) (.var 2) (.cons (.cmp .NotEq (.var 5) (.var 4)) .nil)))
  .nil))))
noncomputable def farT:T:=.cmp .NotEq (.var 2) (.lst false .nil)
noncomputable def farI:E:=(.comp false (.sub (.sub (.var 0) (.var 5)) (.sub (.var 6) (.int 1))) (.var 1) .nil)
theorem YNW {Φ:Tab} {a b c d e x:AV} {v1 v2 v3 v4:Option AV} {σ:List AO} (a1:subA σ a b=some c) (a3:subA σ x (.int 1)=some d) (a2:subA σ c d=some e):evE Φ (.sub (.sub (.var 0) (.var 5)) (.sub (.var 6) (.int 1))) [some a,v1,v2,v3,v4,some b,some x] σ=some (e,σ):=
 wE fun k=>k a1 a3 a2
theorem YQq {Φ:Tab} {D:Nat→Nat→Nat} {σ:List AO} {q i:Nat} {out:List (Nat×Nat)} {v2 v3 v4:Option AV} (hq:σ[q]?=some (.list (out.map tupN))) (ho:out.length≤lim) (ho5:∀ x∈out,x.2<5) (hi5:i<5):
  evE Φ farI [some (pv D),some (.loc q),v2,v3,v4,some (nI i)] σ=some (.lst ((out.map fun x=>D i x.2).map nI),σ):=by
 unfold farI
 rw [Yc (l:=out) (e:=tupN) (h:=fun x=>nI (D i x.2)) rfl (YDH hq) ?_,YX (by rw [List.length_map]; exact ho),List.map_map]
 ·rfl
 ·intro x hx
  exact YNW (YMe hi5) YGT (YSN (ho5 x hx))
theorem YOe {σ:List AO} {l:List Nat} (h:l.length<lim):binA σ .Add (.lst [.int 9]) (.lst (l.map nI))=some (.lst ((9::l).map nI)):=by
 rw [YJe (by rw [List.length_map,List.length_singleton]; exact Ze92 h)]
 rfl
theorem YNa {σ:List AO} {D:Nat→Nat→Nat} {out:List (Nat×Nat)} {i:Nat}:biA σ .min [.lst ((9::out.map fun x=>D i x.2).map nI)]=some (nI (mt D (out.map (·.2)) i)):=by
 rw [YHJ (a:=9) (r:=out.map fun x=>D i x.2) rfl]
 have:(out.map fun x=>D i x.2).foldl min 9=mt D (out.map (·.2)) i:=by
  rw [←YPF,List.map_map]
  rfl
 rw [this]
theorem YPf {Φ:Tab} {σ:List AO} {ρ:YF} {w1 w2 w3:AV} (c1:evE Φ farI ρ σ=some (w1,σ)) (c2:binA σ .Add (.lst [.int 9]) w1=some w2) (c3:biA σ .min [w2]=some w3):evE Φ (.bi .min (.cons (.bin .Add (.lst false (.cons (.int 9) .nil)) farI) .nil)) ρ σ=some (w3,σ):=
 wE fun k=>k (YX (show 1≤lim by decide)) c1 c2 c3
theorem far1 {Φ:Tab} {D:Nat→Nat→Nat} {σ:List AO} {q:Nat} {out:List (Nat×Nat)} {L:List Nat} {x3 x4:Option AV} (hq:σ[q]?=some (.list (out.map tupN))) (ho:out.length<lim) (ho5:∀ x∈out,x.2<5) (hL:L.length<lim) (h5:∀ i∈L,i<5):
  evE Φ farE [some (pv D),some (.loc q),some (.lst (L.map nI)),x3,x4] σ=some (.lst (L.map fun i=>nI (mt D (out.map (·.2)) i)),σ):=by
 unfold farE
 rw [Yc (l:=L) (e:=nI) (h:=fun i=>nI (mt D (out.map (·.2)) i)) rfl (Yl ..) ?_,YX (by rw [List.length_map]; exact Nat.le_of_lt (by assumption))]
 intro i hi
 exact YPf (YQq hq (by exact Nat.le_of_lt (by assumption)) ho5 (h5 i hi)) (YOe (by rw [List.length_map]; assumption)) YNa
theorem YSW {σ:List AO} {y i:Nat}:cmpA σ .NotEq (nI y) (nI i)=some (decide (y≠i)):=by
 refine YUJ.trans (congrArg some ?_)
 by_cases q:y=i
 ·rw [q,decide_eq_true rfl,decide_eq_false (fun h=>h rfl)]; rfl
 ·rw [decide_eq_false (show ¬(y:Int)=i from fun h=>q (Int.ofNat.inj h)),decide_eq_true q]; rfl
theorem YSX {Φ:Tab} {σ:List AO} {a b d:Option AV} {L:List Nat} {i:Nat} (hL:L.length≤lim):evE Φ (.comp false (.var 5) (.var 2) (.cons (.cmp .NotEq (.var 5) (.var 4)) .nil)) [a,b,some (.lst (L.map nI)),d,some (nI i)] σ=some (.lst ((L.filter fun y=>decide (y≠i)).map nI),σ):=by
 rw [YBy (l:=L) (e:=nI) (h:=nI) (p:=fun y=>decide (y≠i)) rfl (Yl ..) (fun y _=>by exact wT fun k=>k YSW) (fun y _ _=>rfl),YX]
 rw [List.length_map]
 exact Nat.le_trans (List.length_filter_le ..) hL
noncomputable def fE (D:Nat→Nat→Nat) (q:Nat) (L:List Nat) (x3 x4:Option AV):YF:=[some (pv D),some (.loc q),some (.lst (L.map nI)),x3,x4]
noncomputable def fS (σ:List AO) (out:List (Nat×Nat)):List AO:=σ++[.list (out.map tupN)]
set_option genInjectivity false in
structure FG (D:Nat→Nat→Nat) (L:List Nat) (out:List (Nat×Nat)):Prop where
 hl:out.length+L.length≤5
 hs:L.Pairwise (·<·)
 h5:∀ i∈L,i<5
 ho5:∀ x∈out,x.2<5
 hg:∀ r,Greedy D (out.map (·.2)) L r→Greedy D [] [0,1,2,3,4] (out++r)
theorem YQC (L:List Nat):((L.map nI).all fun v=>gd 0 v)=true:=by
 rw [List.all_eq_true]
 intro v hv
 obtain ⟨x,_,rfl⟩:=List.mem_map.mp hv
 rfl
theorem YIg {L:List Nat} {i:Nat} (h:i∈L):(L.filter fun y=>decide (y≠i)).length<L.length:=by
 induction L with
 | nil=>cases h
 | cons a r ih=>
  rw [List.filter_cons]
  by_cases q:a=i
  ·rw [if_neg (by rw [decide_eq_true_iff]; exact fun h=>h q)]
   exact Nat.lt_succ_of_le (List.length_filter_le ..)
  ·rw [if_pos (decide_eq_true q)]
   exact Nat.succ_lt_succ (ih ((List.mem_cons.mp h).resolve_left fun z=>q z.symm))
theorem YFe {σ:List AO} {o:AO}:(σ++[o])[σ.length]?=some o:=by rw [List.getElem?_append_right (Nat.le_refl _),Nat.sub_self]; rfl
theorem YLl {D:Nat→Nat→Nat} {σ:List AO} (m:Nat):∀ (L:List Nat) (out:List (Nat×Nat)) (x3 x4:Option AV),L.length≤m→FG D L out→
  ∃ out' x3' x4',Wl (Yn []) farT farB m (fE D σ.length L x3 x4) (fS σ out) (.next,fE D σ.length [] x3' x4',fS σ out')∧Greedy D [] [0,1,2,3,4] out':=by
 induction m with
 | zero=>
  intro L out x3 x4 hm g
  cases List.length_eq_zero_iff.mp (Nat.le_zero.mp hm)
  have:=g.hg [] .nil
  rw [List.append_nil] at this
  exact ⟨out,x3,x4,YKq (wT fun k=>k (YX (Nat.zero_le _)) (YMK (k:=3) (.inl rfl) rfl (by decide))),this⟩
 | succ m ih=>
  intro L out x3 x4 hm g
  cases L with
  | nil=>
   have:=g.hg [] .nil
   rw [List.append_nil] at this
   exact ⟨out,x3,x4,YKq (wT fun k=>k (YX (Nat.zero_le _)) (YMK (k:=3) (.inl rfl) rfl (by decide))),this⟩
  | cons a L=>
   have hq:(fS σ out)[σ.length]?=some (.list (out.map tupN)):=YFe
   have hlL:(a::L).length≤5:=Nat.le_trans (Nat.le_add_left _ _) g.hl
   have hlo:out.length<5:=Nat.lt_of_lt_of_le (Nat.lt_add_of_pos_right (Nat.succ_pos _)) g.hl
   have l5:5≤lim:=by decide
   obtain ⟨i,hi,hv,hmax⟩:=YHo (f:=mt D (out.map (·.2))) g.hs
   have h9:∀ n∈(a::L).map (mt D (out.map (·.2))),n≤9:=fun n hn=>by
    obtain ⟨y,_,rfl⟩:=List.mem_map.mp hn
    exact YHY ..
   have hmem:(L.map (mt D (out.map (·.2)))).foldl max (mt D (out.map (·.2)) a)∈(a::L).map (mt D (out.map (·.2))):=(YAG _ _).1
   have e1:=far1 (Φ:=Yn []) (D:=D) (x3:=x3) (x4:=x4) hq (Nat.lt_of_lt_of_le hlo l5) g.ho5 (Nat.lt_of_le_of_lt hlL (by decide)) g.h5
   have mx:biA (fS σ out) .max [.lst ((a::L).map fun i=>nI (mt D (out.map (·.2)) i))]=some (nI ((L.map (mt D (out.map (·.2)))).foldl max (mt D (out.map (·.2)) a))):=
    YHf (by have:=(List.map_map (l:=a::L) (f:=mt D (out.map (·.2))) (g:=nI)).symm; exact congrArg some this)
   have ix:=YHr (σ:=fS σ out) (by rw [List.length_map]; exact hlL) h9 hmem
   generalize hM:(L.map (mt D (out.map (·.2)))).foldl max (mt D (out.map (·.2)) a)=M at hi hv hmax hmem mx ix
   have hil:((a::L).map (mt D (out.map (·.2)))).idxOf M<(a::L).length:=YFb hi
   rw [List.map_map] at ix
   have sb:subA (fS σ out) (.lst ((a::L).map nI)) (nI (((a::L).map (mt D (out.map (·.2)))).idxOf M))=some (nI i):=
    (YBv (Nat.lt_of_lt_of_le hil (Nat.le_trans hlL (by decide)))).trans (by rw [List.getElem?_map,hi]; rfl)
   have ap:meA (fS σ out) .append (.loc σ.length) [.tup [nI M,nI i]]=some (.none,fS σ (out++[(M,i)])):=by
    rw [YIl hq (by rw [List.length_map]; exact Nat.le_trans (Nat.le_of_lt hlo) l5),fS,List.set_append_right _ _ (Nat.le_refl _),Nat.sub_self,fS,List.map_append]; rfl
   have lt:=YIg (List.mem_of_getElem? hi)
   obtain ⟨out',x3',x4',w,hg'⟩:=ih ((a::L).filter fun y=>decide (y≠i)) (out++[(M,i)]) (some (.lst ((a::L).map fun i=>nI (mt D (out.map (·.2)) i)))) (some (nI i)) (Nat.le_of_lt_succ (Nat.lt_of_lt_of_le lt hm))
    ⟨by rw [List.length_append,Nat.add_assoc,Nat.add_comm [(M,i)].length]; exact Nat.le_trans (Nat.add_le_add_left lt _) g.hl,g.hs.filter _,fun y hy=>g.h5 y (List.mem_filter.mp hy).1,fun x hx=>(List.mem_append.mp hx).elim (g.ho5 x) fun hx=>by rw [List.mem_singleton.mp hx]; exact g.h5 i (List.mem_of_getElem? hi),fun r hr=>by
     rw [List.append_assoc]
     rw [List.map_append] at hr
     exact g.hg _ (.cons ⟨List.mem_of_getElem? hi,hv.symm,fun y hy=>hmax y hy⟩ hr)⟩
   exact ⟨out',x3',x4',YSg (wT fun k=>k (YX (Nat.zero_le _)) (YMK (.inl rfl) (YQC _) (by decide))) (wSs fun k=>k e1 rfl mx ix sb (YCO (by decide) hq) mx (show 2≤lim by decide) ap (YSX (Nat.le_trans hlL l5))) w,hg'⟩
theorem YDJ {D:Nat→Nat→Nat} {σ:List AO} (hσ:Ok σ):∃ out,Greedy D [] [0,1,2,3,4] out∧YAd [pv D] σ=some (.lst (out.map tupN),σ):=by
 obtain ⟨out,x3,x4,w,hg⟩:=YLl (D:=D) (σ:=σ) 5 [0,1,2,3,4] [] none none (Nat.le_refl _) ⟨Nat.le_refl _,by decide,by decide,fun x h=>(nomatch h),fun r h=>h⟩
 have l:(fS σ out).take σ.length=σ:=List.take_left
 have e:exSs (Yn []) Yv [some (pv D),none,none,none,none] σ=some (.ret (.loc σ.length),fE D σ.length [] x3 x4,fS σ out):=
  wSs fun k=>k (YBU (Nat.zero_le _)) (YX (show 5≤lim by decide)) ((YHk ..).trans (w 100 (by decide)))
 exact ⟨out,hg,(Yt [some (pv D),none,none,none,none] rfl rfl e (show σ.length≤(σ++_).length by rw [List.length_append]; exact Nat.le_add_right _ _) (by rw [l]; exact hσ) (YCR (Nat.le_refl _) YFe (YAr (g:=tupN) out fun x _=>YZ rfl))).trans (by rw [l])⟩
theorem YGY {σ:List AO} {i:Nat} (h:i≤16):binA σ .Pow (.int 2) (nI i)=some (nI (2 ^ i)):=by
 unfold nI
 rw [YSA h (by decide) (by decide)]
 simp
theorem YJD {i:Nat} (h:i≤16):2 ^ i≤65536:=Nat.pow_le_pow_right (n:=2) (by decide) h
theorem YIh {σ:List AO} {m i:Nat} (h:i≤16):binA σ .FloorDiv (nI m) (nI (2 ^ i))=some (nI (m/2 ^ i)):=by
 have h1:=YJD h
 have h2:0<2 ^ i:=Nat.pow_pos (by decide)
 generalize 2 ^ i=p at h1 h2
 unfold nI
 rw [YDe (by exact Zi116 h2) (by exact Zi117 h1)]
 rfl
theorem YKX {σ:List AO} {m:Nat}:binA σ .Mod (nI m) (.int 2)=some (nI (m%2)):=by
 unfold nI
 rw [YJU (by decide)]
 rfl
theorem YMs {σ:List AO} {m:Nat}:cmpA σ .Eq (nI m) (.int 1)=some (decide (m=1)):=by
 unfold nI
 rw [YEI]
 have:decide ((m:Int)=1)=decide (m=1):=by
  by_cases q:m=1
  ·subst q; rfl
  ·rw [decide_eq_false q,decide_eq_false (by lia)]
 rw [this]
noncomputable def mnl:List Nat→Nat
 | []=>0
 | a::r=>r.foldl min a
noncomputable def mxl:List Nat→Nat
 | []=>0
 | a::r=>r.foldl max a
theorem YMq {σ:List AO} {v:AV} {l:List Nat} (h:items σ v=some (l.map nI)) (h0:l≠[]):biA σ .min [v]=some (nI (mnl l)):=by
 cases l with
 | nil=>exact absurd rfl h0
 | cons a r=>exact YHJ h
theorem YSd {σ:List AO} {v:AV} {l:List Nat} (h:items σ v=some (l.map nI)) (h0:l≠[]):biA σ .max [v]=some (nI (mxl l)):=by
 cases l with
 | nil=>exact absurd rfl h0
 | cons a r=>exact YHf h
theorem YBX:∀ (r:List Nat) (a:Nat),r.foldl min a∈a::r∧∀ y∈a::r,r.foldl min a≤y
 | [],a=>by simp
 | b::r,a=>by
  obtain ⟨h1,h2⟩:=YBX r (min a b)
  rw [List.foldl_cons]
  have hb:=h2 (min a b) (by simp)
  refine ⟨?_,fun y hy=>?_⟩
  ·rcases List.mem_cons.mp h1 with h | h
   ·rw [h]
    rcases Nat.le_total a b with q | q
    ·rw [Nat.min_eq_left q]; simp
    ·rw [Nat.min_eq_right q]; simp
   ·simp [h]
  ·simp only [List.mem_cons] at hy
   rcases hy with rfl | rfl | hy
   ·exact Ze106 hb
   ·exact Ze107 hb
   ·exact h2 y (by simp [hy])
theorem YEE {l:List Nat} (h:l≠[]):mnl l∈l∧∀ y∈l,mnl l≤y:=by
 cases l with
 | nil=>exact absurd rfl h
 | cons a r=>exact YBX r a
theorem YHd {l:List Nat} (h:l≠[]):mxl l∈l∧∀ y∈l,y≤mxl l:=by
 cases l with
 | nil=>exact absurd rfl h
 | cons a r=>exact YAG r a
noncomputable def bits (m:Nat):List Nat:=(List.range 5).filter fun i=>decide (m/2 ^ i%2=1)
noncomputable def rc (D:Nat→Nat→Nat) (S:List Nat):Nat:=mxl ((List.range 5).map fun i=>mnl (S.map (D i)))
noncomputable def bstep (D:Nat→Nat→Nat) (b:List Nat) (m:Nat):List Nat:=b.set (bits m).length (min (b.getD (bits m).length 0) (rc D (bits m)))
theorem YJL {m i:Nat} (h:i∈bits m):i<5:=by
 exact List.mem_range.mp (List.mem_filter.mp h).1
theorem YED (m:Nat):(bits m).length≤5:=by
 have:=List.length_filter_le (fun i=>decide (m/2 ^ i%2=1)) (List.range 5)
 rwa [List.length_range] at this
theorem YIx:∀ m:Fin 31,bits (m.val+1)≠[]:=by decide +kernel
noncomputable def bs1:S:=(.asg 3 (.comp false (.var 5) (.bi .range (.cons (.int 5) .nil)) (.cons (.cmp .Eq (.bin .Mod (.bin .FloorDiv (.var 2) (.bin .Pow (.int 2) (.var 5))) (.int 2)) (.int 1)) .nil)))
noncomputable def bsI:E:=(.comp false (.sub (.sub (.var 0) (.var 5)) (.var 6)) (.var 3) .nil)
noncomputable def bs2:S:=(.asg 4 (.bi .max (.cons (.comp false (.bi .min (.cons bsI .nil)) (.bi .range (.cons (.int 5) .nil)) .nil) .nil)))
noncomputable def bs3:S:=(.sset (.var 1) (.bi .len (.cons (.var 3) .nil)) (.bi .min (.cons (.sub (.var 1) (.bi .len (.cons (.var 3) .nil))) (.cons (.var 4) .nil))))
noncomputable def bsB:Ss:=(.cons bs1 (.cons bs2 (.cons bs3 .nil)))
theorem YUc {Φ:Tab} {σ:List AO} {a b c d:Option AV} {m x y z i:AV} {t:Bool} (h1:binA σ .Pow (.int 2) i=some x) (h2:binA σ .FloorDiv m x=some y) (h3:binA σ .Mod y (.int 2)=some z) (h4:cmpA σ .Eq z (.int 1)=some t):
  evT Φ (.cmp .Eq (.bin .Mod (.bin .FloorDiv (.var 2) (.bin .Pow (.int 2) (.var 5))) (.int 2)) (.int 1)) [a,b,some m,c,d,some i] σ=some (t,σ):=wT fun k=>k h1 h2 h3 h4
theorem rng5 {Φ:Tab} {σ:List AO} {ρ:YF}:evE Φ (.bi .range (.cons (.int 5) .nil)) ρ σ=some (.rng 0 ((5:Nat):Int) 1,σ):=wE fun k=>k (YCK rfl)
theorem YQh {Φ:Tab} {σ:List AO} {a b c d:Option AV} {m:Nat}:exS Φ bs1 [a,b,some (nI m),c,d] σ=some (.next,[a,b,some (nI m),some (.lst ((bits m).map nI)),d],σ):=by
 unfold bs1
 rw [YDT,YBy (l:=List.range 5) (e:=nI) (h:=nI) (p:=fun i=>decide (m/2 ^ i%2=1)) rng5 (YR _ 5) ?_ (fun y _ _=>rfl),YX]
 ·rfl
 ·rw [List.length_map]
  have:=YED m
  unfold bits at this
  unfold lim
  exact Nat.le_trans (by assumption) (by decide)
 ·intro i hi
  have hi:i<5:=by simpa using hi
  exact YUc (YGY (by exact Ze108 hi)) (YIh (by exact Ze108 hi)) YKX YMs
theorem YSq {Φ:Tab} {a b c d e:AV} {v1 v2 v3 v4:Option AV} {σ:List AO} (a1:subA σ a b=some c) (a2:subA σ c d=some e):evE Φ (.sub (.sub (.var 0) (.var 5)) (.var 6)) [some a,v1,v2,v3,v4,some b,some d] σ=some (e,σ):=wE fun k=>k a1 a2
theorem YTj {Φ:Tab} {D:Nat→Nat→Nat} {σ:List AO} {i:Nat} {S:List Nat} {v1 v2 v4:Option AV} (ho:S.length≤lim) (h5:∀ c∈S,c<5) (hi5:i<5):
  evE Φ bsI [some (pv D),v1,v2,some (.lst (S.map nI)),v4,some (nI i)] σ=some (.lst ((S.map (D i)).map nI),σ):=by
 unfold bsI
 rw [Yc (l:=S) (e:=nI) (h:=fun c=>nI (D i c)) rfl (Yl ..) ?_,YX (by rw [List.length_map]; exact ho),List.map_map]
 ·rfl
 ·intro c hc
  exact YSq (YMe hi5) (YSN (h5 c hc))
theorem YRU {Φ:Tab} {σ:List AO} {ρ:YF} {w w3:AV} (c1:evE Φ bsI ρ σ=some (w,σ)) (c3:biA σ .min [w]=some w3):evE Φ (.bi .min (.cons bsI .nil)) ρ σ=some (w3,σ):=wE fun k=>k c1 c3
theorem YTD {Φ:Tab} {D:Nat→Nat→Nat} {σ:List AO} {S:List Nat} {v1 v2 v4:Option AV} (ho:S.length≤lim) (h5:∀ c∈S,c<5) (h0:S≠[]):
  exS Φ bs2 [some (pv D),v1,v2,some (.lst (S.map nI)),v4] σ=some (.next,[some (pv D),v1,v2,some (.lst (S.map nI)),some (nI (rc D S))],σ):=by
 have c1:evE Φ (.comp false (.bi .min (.cons bsI .nil)) (.bi .range (.cons (.int 5) .nil)) .nil) [some (pv D),v1,v2,some (.lst (S.map nI)),v4] σ=some (.lst (((List.range 5).map fun i=>mnl (S.map (D i))).map nI),σ):=by
  rw [Yc (l:=List.range 5) (e:=nI) (h:=fun i=>nI (mnl (S.map (D i)))) rng5 (YR _ 5) ?_,YX (by rw [List.length_map,List.length_range]; unfold lim; exact Ze49),List.map_map]
  ·rfl
  ·intro i hi
   exact YRU (YTj ho h5 (List.mem_range.mp hi)) (YMq rfl fun e=>h0 (List.map_eq_nil_iff.mp e))
 have c2:biA σ .max [.lst (((List.range 5).map fun i=>mnl (S.map (D i))).map nI)]=some (nI (rc D S)):=YSd rfl (fun e=>nomatch e)
 generalize AV.lst (((List.range 5).map fun i=>mnl (S.map (D i))).map nI)=w at c1 c2
 exact wS fun k=>k c1 c2
theorem YPP {Φ:Tab} {σ τ:List AO} {a c:Option AV} {q S n x y z:AV} (h1:biA σ .len [S]=some n) (h2:subA σ q n=some x) (h3:biA σ .min [x,y]=some z) (h4:ssetA σ q n z=some τ):exS Φ bs3 [a,some q,c,some S,some y] σ=some (.next,[a,some q,c,some S,some y],τ):=wS fun k=>k h1 h2 h3 h1 h4
theorem YSn {Φ:Tab} {σ:List AO} {a c:Option AV} {b S:List Nat} {r:Nat} (hS:S.length<b.length) (hb:b.length≤100):
  exS Φ bs3 [a,some (.loc σ.length),c,some (.lst (S.map nI)),some (nI r)] (σ++[.list (b.map nI)])=some (.next,[a,some (.loc σ.length),c,some (.lst (S.map nI)),some (nI r)],σ++[.list ((b.set S.length (min (b.getD S.length 0) r)).map nI)]):=by
 have hq:(σ++[AO.list (b.map nI)])[σ.length]?=some (.list (b.map nI)):=YFe
 refine YPP (n:=nI S.length) (x:=nI (b.getD S.length 0)) (z:=nI (min (b.getD S.length 0) r)) ?_ ?_ ?_ ?_
 ·rw [YKz (by rw [List.length_map]; unfold lim; exact Ze109 hS hb),List.length_map]; rfl
 ·refine (YGd (i:=S.length) hq (by exact Ze110 hS hb)).trans ?_
  rw [List.getElem?_map,List.getD_eq_getElem?_getD,List.getElem?_eq_getElem hS]; rfl
 ·exact mI zmn
 ·refine (YIo (i:=S.length) hq (by rw [List.length_map]; exact hS) (by rw [List.length_map]; unfold lim; exact Nat.le_trans (by assumption) (by decide))).trans ?_
  rw [List.set_append_right _ _ (Nat.le_refl _),Nat.sub_self,List.set_cons_zero,List.map_set]
noncomputable def bests (D:Nat→Nat→Nat) (k:Nat):List Nat:=((List.range k).map (·+1)).foldl (bstep D) [9,9,9,9,9,9]
theorem YCj (D:Nat→Nat→Nat) (k:Nat):(bests D k).length=6:=by
 unfold bests
 generalize (List.range k).map (·+1)=l
 have:∀ b:List Nat,b.length=6→(l.foldl (bstep D) b).length=6:=by
  induction l with
  | nil=>intro b h; exact h
  | cons a r ih=>intro b h; exact ih _ (by simp [bstep,h])
 exact this _ rfl
theorem YDy (D:Nat→Nat→Nat) (k:Nat):bests D (k+1)=bstep D (bests D k) (k+1):=by
 unfold bests
 rw [List.range_succ,List.map_append,List.foldl_append]
 rfl
theorem YKf {α:Type} {Φ:Tab} {b:Ss} {vi:Nat} {it:E} {xs:List α} {e:α→AV} {itv:AV} {ρ:YF} {σ:List AO} (I:Nat→YF→List AO→Prop) (h:evE Φ it ρ σ=some (itv,σ)) (hI:∀ σ,Ym σ itv (xs.map e))
  (step:∀ i x ρ σ,xs[i]?=some x→I i ρ σ→∃ ρ' σ',exSs Φ b (ρ.set vi (some (e x))) σ=some (.next,ρ',σ')∧I (i+1) ρ' σ') (h0:I 0 ρ σ):∃ ρ' σ',exS Φ (.for_ vi it b) ρ σ=some (.next,ρ',σ')∧I xs.length ρ' σ':=by
 obtain ⟨ρ',σ',a,c⟩:=YKT (f:=fun v ρ σ=>exSs Φ b (ρ.set vi (some v)) σ) (it:=itv) (fun σ i=>(hI σ).nth i) I (fun i v ρ σ hv hi=>by
  rw [List.getElem?_map] at hv
  obtain ⟨x,hx,rfl⟩:=Option.map_eq_some_iff.mp hv
  exact step i x ρ σ hx hi) h0 (hI σ).tn
 rw [List.length_map] at c
 exact ⟨ρ',σ',by rw [YRE,h]; exact a,c⟩
theorem YHy (σ:List AO):Ym σ (.rng 1 32 1) ((List.range 31).map fun i=>nI (i+1)):=by
 have h:=YEf (σ:=σ) 1 31
 have e:((List.range 31).map fun (i:Nat)=>AV.int (1+(i:Int)))=(List.range 31).map fun i=>nI (i+1):=by
  refine List.map_congr_left fun i _=>?_
  have:(1+(i:Int))=((i+1:Nat):Int):=by exact Zi119
  rw [this]; rfl
 rw [e] at h
 exact h
theorem YJQ {D:Nat→Nat→Nat} {σ:List AO} {x2 x3 x4:Option AV}:∃ ρ' σ',exS (Yn []) (.for_ 2 (.bi .range (.cons (.int 1) (.cons (.int 32) .nil))) bsB) [some (pv D),some (.loc σ.length),x2,x3,x4] (σ++[.list ((bests D 0).map nI)])=some (.next,ρ',σ')∧∃ x2 x3 x4,ρ'=[some (pv D),some (.loc σ.length),x2,x3,x4]∧σ'=σ++[.list ((bests D 31).map nI)]:=by
 have r1:evE (Yn []) (.bi .range (.cons (.int 1) (.cons (.int 32) .nil))) [some (pv D),some (.loc σ.length),x2,x3,x4] (σ++[AO.list ((bests D 0).map nI)])=some (.rng 1 32 1,σ++[AO.list ((bests D 0).map nI)]):=wE fun k=>k (YRD rfl)
 have:=YKf (Φ:=Yn []) (b:=bsB) (vi:=2) (it:=.bi .range (.cons (.int 1) (.cons (.int 32) .nil))) (xs:=List.range 31) (e:=fun i=>nI (i+1)) (itv:=.rng 1 32 1) (ρ:=[some (pv D),some (.loc σ.length),x2,x3,x4]) (σ:=σ++[.list ((bests D 0).map nI)])
  (fun i ρ τ=>∃ x2 x3 x4,ρ=[some (pv D),some (.loc σ.length),x2,x3,x4]∧τ=σ++[.list ((bests D i).map nI)]) r1 YHy ?_ ⟨_,_,_,rfl,rfl⟩
 ·rw [List.length_range] at this
  exact this
 ·intro i x ρ τ hv h
  obtain ⟨x2,x3,x4,rfl,rfl⟩:=h
  have hi:i<31:=by
   have:=(List.getElem?_eq_some_iff.mp hv).1
   rwa [List.length_range] at this
  rw [List.getElem?_range hi] at hv
  injection hv with hv
  subst hv
  refine ⟨[some (pv D),some (.loc σ.length),some (nI (i+1)),some (.lst ((bits (i+1)).map nI)),some (nI (rc D (bits (i+1))))],σ++[.list ((bests D (i+1)).map nI)],?_,_,_,_,rfl,rfl⟩
  show exSs (Yn []) bsB [some (pv D),some (.loc σ.length),some (nI (i+1)),x3,x4] _=_
  have l1:=YED (i+1)
  have l2:=YCj D i
  have l3:bits (i+1)≠[]:=YIx ⟨i,hi⟩
  rw [YDy]
  exact (YC YQh).trans ((YC (YTD (Nat.le_trans l1 (by decide)) (fun c hc=>YJL hc) l3)).trans (YC (YSn (Ze111 l2 l1) (Ze112 l2))))
theorem YGf {D:Nat→Nat→Nat} {σ:List AO} (hσ:Ok σ):YFF [pv D] σ=some (.lst ((bests D 31).map nI),σ):=by
 obtain ⟨ρ',σ',e,x2,x3,x4,rfl,rfl⟩:=YJQ (D:=D) (σ:=σ) (x2:=none) (x3:=none) (x4:=none)
 have b:exSs (Yn []) YAk [some (pv D),none,none,none,none] σ=some (.ret (.loc σ.length),[some (pv D),some (.loc σ.length),x2,x3,x4],σ++[.list ((bests D 31).map nI)]):=wSs fun k=>k (YBU (show 6≤lim by decide)) e
 generalize bests D 31=B at b
 have l:(σ++[AO.list (B.map nI)]).take σ.length=σ:=List.take_left
 exact (Yt [some (pv D),none,none,none,none] rfl rfl b (by rw [List.length_append]; exact Nat.le_add_right _ _) (by rw [l]; exact hσ) (YCR (Nat.le_refl _) YFe (YAr (g:=nI) B fun x _=>YZ rfl))).trans (by rw [l])
theorem YAw {P:Nat→Prop} (a:P 97) (b:P 65) (d:P 98) (e:P 32) (f:P 34) (g:P 92):∀ z∈signs,P z:=
 have c:∀ {a:Nat} {l:List Nat},P a→(∀ z∈l,P z)→∀ z∈a::l,P z:=fun h k=>List.forall_mem_cons.mpr ⟨h,k⟩
 c a (c b (c d (c e (c f (c g fun _ q=>nomatch q)))))
theorem YIQ {σ:List AO} {x y:Nat} (hσ:Ok σ) (hx:x∈signs) (hy:y∈signs):YJa [.str [x],.str [y]] σ=some (nI (subN x y),σ):=
 have row:∀ x∈signs,∀ y∈signs,exSs (Yn []) YBR [some (.str [x]),some (.str [y])] σ=some (.ret (nI (subN x y)),[some (.str [x]),some (.str [y])],σ):=
  YAw
  (YAw (by kernel_rfl) (by kernel_rfl) (by kernel_rfl) (by kernel_rfl) (by kernel_rfl) (by kernel_rfl))
  (YAw (by kernel_rfl) (by kernel_rfl) (by kernel_rfl) (by kernel_rfl) (by kernel_rfl) (by kernel_rfl))
  (YAw (by kernel_rfl) (by kernel_rfl) (by kernel_rfl) (by kernel_rfl) (by kernel_rfl) (by kernel_rfl))
  (YAw (by kernel_rfl) (by kernel_rfl) (by kernel_rfl) (by kernel_rfl) (by kernel_rfl) (by kernel_rfl))
  (YAw (by kernel_rfl) (by kernel_rfl) (by kernel_rfl) (by kernel_rfl) (by kernel_rfl) (by kernel_rfl))
  (YAw (by kernel_rfl) (by kernel_rfl) (by kernel_rfl) (by kernel_rfl) (by kernel_rfl) (by kernel_rfl))
 YAf _ hσ rfl rfl (row x hx y hy) rfl
noncomputable def pvw (p:List Nat):AV:=.lst (p.map fun c=>.str [c])
noncomputable def pAt (w:List Nat) (i k:Nat):List (List Nat):=((List.range i).map (YY w)).filter fun p=>decide (p.length=k)
theorem YKw (w:List Nat) (i k:Nat):pAt w (i+1) k=if (YY w i).length=k then pAt w i k++[YY w i] else pAt w i k:=by
 unfold pAt
 rw [List.range_succ,List.map_append,List.filter_append]
 by_cases h:(YY w i).length=k
 ·simp [h]
 ·simp [h]
noncomputable def pSt (w:List Nat) (n i:Nat):List AO:=[.list ((pAt w i 0).map pvw),.list ((pAt w i 1).map pvw),.list ((pAt w i 2).map pvw),.list ((pAt w i 3).map pvw),.list [.loc n,.loc (n+1),.loc (n+2),.loc (n+3)]]
noncomputable def pa1:S:=(.asg 3 (.comp false (.sub (.var 0) (.var 4)) (.bi .range (.cons (.bi .len (.cons (.var 0) .nil)) .nil)) (.cons (.cmp .Eq (.bin .Mod (.bin .FloorDiv (.var 2) (.bin .Pow (.int 2) (.var 4))) (.int 2)) (.int 1)) .nil)))
noncomputable def pa2:S:=(.expr (.me .append (.sub (.var 1) (.bi .len (.cons (.var 3) .nil))) (.cons (.var 3) .nil)))
noncomputable def paB:Ss:=(.cons pa1 (.cons pa2 .nil))
theorem YUV {Φ:Tab} {σ:List AO} {a b d:Option AV} {m x y z i:AV} {t:Bool} (h1:binA σ .Pow (.int 2) i=some x) (h2:binA σ .FloorDiv m x=some y) (h3:binA σ .Mod y (.int 2)=some z) (h4:cmpA σ .Eq z (.int 1)=some t):
  evT Φ (.cmp .Eq (.bin .Mod (.bin .FloorDiv (.var 2) (.bin .Pow (.int 2) (.var 4))) (.int 2)) (.int 1)) [a,b,some m,d,some i] σ=some (t,σ):=by
 exact wT fun k=>k h1 h2 h3 h4
theorem YUf {Φ:Tab} {σ:List AO} {b c d:Option AV} {a i x:AV} (h1:subA σ a i=some x):evE Φ (.sub (.var 0) (.var 4)) [some a,b,c,d,some i] σ=some (x,σ):=by
 exact wE fun k=>k h1
theorem rngL {Φ:Tab} {σ:List AO} {ρ:YF} {a n r:AV} (h1:biA σ .len [a]=some n) (h2:biA σ .range [n]=some r):evE Φ (.bi .range (.cons (.bi .len (.cons (.var 0) .nil)) .nil)) (some a::ρ) σ=some (r,σ):=by
 exact wE fun k=>k h1 h2
theorem YRM {Φ:Tab} {σ:List AO} {b d:Option AV} {w:List Nat} {m:Nat} (hw:w.length≤3):exS Φ pa1 [some (.str w),b,some (nI m),d] σ=some (.next,[some (.str w),b,some (nI m),some (pvw (YY w m))],σ):=by
 have hl:w.length≤lim:=by unfold lim; exact Nat.le_trans (by assumption) (by decide)
 have r1:biA σ .range [nI w.length]=some (.rng 0 (w.length:Int) 1):=YCK (by simp [fits]; exact Zi120 hw)
 unfold pa1
 rw [YDT,YBy (l:=List.range w.length) (e:=nI) (h:=fun i=>.str [w.getD i 0]) (p:=fun i=>decide (m/2 ^ i%2=1)) (rngL (YCs hl) r1) (YR _ w.length) ?_ ?_,YX]
 ·unfold YY pvw
  rw [List.map_map]
  rfl
 ·rw [List.length_map]
  have:=List.length_filter_le (fun i=>decide (m/2 ^ i%2=1)) (List.range w.length)
  rw [List.length_range] at this
  unfold lim
  exact Ze90 hw this
 ·intro i hi
  have hi:i<w.length:=by simpa using hi
  exact YUV (YGY (by exact Ze114 hi hw)) (YIh (by exact Ze114 hi hw)) YKX YMs
 ·intro i hi _
  have hi:i<w.length:=by simpa using hi
  refine YUf (YFd (i:=i) ?_ hl)
  rw [List.getElem?_eq_getElem hi]
  simp [List.getD,List.getElem?_eq_getElem hi]
theorem YOU {Φ:Tab} {σ τ:List AO} {a c:Option AV} {q p n l r:AV} (h1:biA σ .len [p]=some n) (h2:subA σ q n=some l) (h3:meOk σ .append l=true) (h4:meA σ .append l [p]=some (r,τ)):exS Φ pa2 [a,some q,c,some p] σ=some (.next,[a,some q,c,some p],τ):=by
 exact wS fun k=>k h1 h2 h3 h4
theorem YMQ {w:List Nat} (hw:w.length≤3) (m:Nat):(YY w m).length≤3:=by
 unfold YY
 rw [List.length_map]
 have:=List.length_filter_le (fun k=>decide (m/2 ^ k%2=1)) (List.range w.length)
 rw [List.length_range] at this
 exact Ze115 hw this
theorem YJE (w:List Nat) (i k:Nat):(pAt w i k).length≤i:=by
 unfold pAt
 have:=List.length_filter_le (fun p:List Nat=>decide (p.length=k)) ((List.range i).map (YY w))
 simpa using this
theorem YBG {σ τ:List AO} {k:Nat}:(σ++τ)[σ.length+k]?=τ[k]?:=by
 rw [List.getElem?_append_right (by exact Ze12),Nat.add_sub_cancel_left]
theorem YCF {σ τ:List AO} {k:Nat} {o:AO}:(σ++τ).set (σ.length+k) o=σ++τ.set k o:=by
 rw [List.set_append_right _ _ (by exact Ze12),Nat.add_sub_cancel_left]
theorem YOS {w:List Nat} {n i:Nat} (hp:(YY w i).length≤3):(pSt w n i).set (YY w i).length (.list ((pAt w i (YY w i).length).map pvw++[pvw (YY w i)]))=pSt w n (i+1):=by
 have s:=YKw w i
 have s0:=s 0
 have s1:=s 1
 have s2:=s 2
 have s3:=s 3
 unfold pSt
 generalize YY w i=q at hp s0 s1 s2 s3
 have m:∀ L:List (List Nat),L.map pvw++[pvw q]=(L++[q]).map pvw:=fun L=>by rw [List.map_append]; rfl
 rw [m]
 generalize h:q.length=k at hp s0 s1 s2 s3
 rw [s0,s1,s2,s3]
 rcases k with _ | _ | _ | _ | k
 ·rfl
 ·rfl
 ·rfl
 ·rfl
 ·lia
theorem YSi {Φ:Tab} {σ:List AO} {a c:Option AV} {w:List Nat} {i:Nat} (hw:w.length≤3) (hi:i≤100):
  exS Φ pa2 [a,some (.loc (σ.length+4)),c,some (pvw (YY w i))] (σ++pSt w σ.length i)=some (.next,[a,some (.loc (σ.length+4)),c,some (pvw (YY w i))],σ++pSt w σ.length (i+1)):=by
 have hp:=YMQ hw i
 have hl:biA (σ++pSt w σ.length i) .len [pvw (YY w i)]=some (nI (YY w i).length):=by
  unfold pvw
  rw [YKz (by rw [List.length_map]; unfold lim; exact Nat.le_trans (by assumption) (by decide)),List.length_map]
  rfl
 have hq:(σ++pSt w σ.length i)[σ.length+4]?=some (.list [.loc σ.length,.loc (σ.length+1),.loc (σ.length+2),.loc (σ.length+3)]):=by rw [YBG]; rfl
 have hs:subA (σ++pSt w σ.length i) (.loc (σ.length+4)) (nI (YY w i).length)=some (.loc (σ.length+(YY w i).length)):=by
  refine (YGd hq (by exact Ze116 hp)).trans ?_
  generalize (YY w i).length=k at hp
  rcases k with _ | _ | _ | _ | k
  ·rfl
  ·rfl
  ·rfl
  ·rfl
  ·lia
 have hk:(σ++pSt w σ.length i)[σ.length+(YY w i).length]?=some (.list ((pAt w i (YY w i).length).map pvw)):=by
  rw [YBG]
  generalize (YY w i).length=k at hp
  rcases k with _ | _ | _ | _ | k
  ·rfl
  ·rfl
  ·rfl
  ·rfl
  ·lia
 refine YOU (r:=.none) hl hs (YCO (by simp) hk) ((YIl hk (by rw [List.length_map]; have:=YJE w i (YY w i).length; unfold lim; exact Ze117 hi this)).trans ?_)
 rw [YCF,YOS hp]
theorem YIH {Φ:Tab} {σ:List AO} {w:List Nat} (hw:w.length≤3) {it:E} (h:evE Φ it [some (.str w),some (.loc (σ.length+4)),none,none] (σ++pSt w σ.length 0)=some (.rng 0 ((2 ^ w.length:Nat):Int) 1,σ++pSt w σ.length 0)):
  ∃ x2 x3,exS Φ (.for_ 2 it paB) [some (.str w),some (.loc (σ.length+4)),none,none] (σ++pSt w σ.length 0)=some (.next,[some (.str w),some (.loc (σ.length+4)),x2,x3],σ++pSt w σ.length (2 ^ w.length)):=by
 have h8:2 ^ w.length≤8:=Nat.pow_le_pow_right (n:=2) (by decide) hw
 obtain ⟨ρ',σ',e,x2,x3,rfl,rfl⟩:=YKf (Φ:=Φ) (b:=paB) (vi:=2) (xs:=List.range (2 ^ w.length)) (e:=nI)
  (fun i ρ τ=>∃ x2 x3,ρ=[some (.str w),some (.loc (σ.length+4)),x2,x3]∧τ=σ++pSt w σ.length i) h (fun τ=>YR τ _) (by
   intro i x ρ τ hv h
   obtain ⟨x2,x3,rfl,rfl⟩:=h
   have hi:i<2 ^ w.length:=by
    have:=(List.getElem?_eq_some_iff.mp hv).1
    rwa [List.length_range] at this
   rw [List.getElem?_range hi] at hv
   injection hv with hv
   subst hv
   refine ⟨[some (.str w),some (.loc (σ.length+4)),some (nI i),some (pvw (YY w i))],σ++pSt w σ.length (i+1),?_,_,_,rfl,rfl⟩
   show exSs Φ paB [some (.str w),some (.loc (σ.length+4)),some (nI i),x3] _=_
   unfold paB
   rw [YC (YRM hw),YC (YSi hw (by exact Ze118 hi h8)),YBp]) ⟨none,none,rfl,rfl⟩
 rw [List.length_range] at e
 exact ⟨x2,x3,e⟩
theorem YND {Φ:Tab} {ρ:YF} {σ:List AO}:evE Φ (.lst true .nil) ρ σ=some (.loc σ.length,σ++[.list []]):=by
 rw [YRu,YKK,Option.bind_some]
 exact YBU (by simp)
theorem YEF {Φ:Tab} {ρ:YF} {σ:List AO} {r:Es} {vs:List AV} {τ:List AO} (h:evEs Φ r ρ (σ++[.list []])=some (vs,τ)):evEs Φ (.cons (.lst true .nil) r) ρ σ=some (.loc σ.length::vs,τ):=by
 rw [YOg,YND,Option.bind_some,h]
 rfl
theorem YSv {Φ:Tab} {σ:List AO} {w:List Nat} {a c d:Option AV}:exS Φ (.asg 1 (.lst true (.cons (.lst true .nil) (.cons (.lst true .nil) (.cons (.lst true .nil) (.cons (.lst true .nil) .nil)))))) [a,none,c,d] σ=some (.next,[a,some (.loc (σ.length+4)),c,d],σ++pSt w σ.length 0):=by
 have e4:evEs Φ (.cons (.lst true .nil) (.cons (.lst true .nil) (.cons (.lst true .nil) (.cons (.lst true .nil) .nil)))) [a,none,c,d] σ=some ([.loc σ.length,.loc (σ.length+1),.loc (σ.length+2),.loc (σ.length+3)],σ++[.list [],.list [],.list [],.list []]):=by
  refine (YEF (YEF (YEF (YEF YKK)))).trans ?_
  simp
 rw [YDT,YRu,e4,Option.bind_some]
 dsimp only
 rw [YBU (by show 4≤1000000; exact Ze119)]
 simp [pSt,pAt]
theorem rngP {Φ:Tab} {σ:List AO} {ρ:YF} {a n p r:AV} (h1:biA σ .len [a]=some n) (h2:binA σ .Pow (.int 2) n=some p) (h3:biA σ .range [p]=some r):evE Φ (.bi .range (.cons (.bin .Pow (.int 2) (.bi .len (.cons (.var 0) .nil))) .nil)) (some a::ρ) σ=some (r,σ):=by
 exact wE fun k=>k h1 h2 h3
noncomputable def partsV (w:List Nat):AV:=.lst ((List.range 4).map fun k=>.lst ((partsK w k).map pvw))
theorem YKY (w:List Nat) (k:Nat):pAt w (2 ^ w.length) k=partsK w k:=rfl
theorem YKi (n:Nat) (p:List Nat):noLoc n (pvw p)=true:=by
 unfold pvw
 show noLocs n _=true
 rw [Yg]
 simp [noLoc]
theorem YFw {w:List Nat} {σ:List AO} (hσ:Ok σ) (hw:w.length≤3):YCq [.str w] σ=some (partsV w,σ):=by
 have hl:w.length≤lim:=by unfold lim; exact Nat.le_trans (by assumption) (by decide)
 have h8:2 ^ w.length≤8:=Nat.pow_le_pow_right (n:=2) (by decide) hw
 have e1:biA (σ++pSt w σ.length 0) .len [.str w]=some (nI w.length):=YCs hl
 have e2:binA (σ++pSt w σ.length 0) .Pow (.int 2) (nI w.length)=some (nI (2 ^ w.length)):=YGY (by exact Ze120 hw)
 have e3:biA (σ++pSt w σ.length 0) .range [nI (2 ^ w.length)]=some (.rng 0 ((2 ^ w.length:Nat):Int) 1):=by
  generalize 2 ^ w.length=q at h8
  exact YCK (by simp [fits]; exact Zi121 h8)
 obtain ⟨x2,x3,e⟩:=YIH (Φ:=Yn []) (σ:=σ) hw (rngP e1 e2 e3)
 have b:exSs (Yn []) YAK [some (.str w),none,none,none] σ=some (.ret (.loc (σ.length+4)),[some (.str w),some (.loc (σ.length+4)),x2,x3],σ++pSt w σ.length (2 ^ w.length)):=by
  unfold YAK
  rw [YC (YSv (w:=w))]
  refine (YC e).trans ?_
  generalize σ++pSt w σ.length (2 ^ w.length)=τ
  exact wSs fun k=>k
 have f:∀ k,k<4→(σ++pSt w σ.length (2 ^ w.length))[σ.length+k]?=some (.list ((partsK w k).map pvw)):=by
  intro k hk
  rw [YBG,←YKY]
  rcases k with _ | _ | _ | _ | k
  ·rfl
  ·rfl
  ·rfl
  ·rfl
  ·lia
 have f4:(σ++pSt w σ.length (2 ^ w.length))[σ.length+4]?=some (.list ((List.range 4).map fun k=>.loc (σ.length+k))):=by
  rw [YBG]; rfl
 have fz1:fz (σ++pSt w σ.length (2 ^ w.length)) σ.length 6 (.loc (σ.length+4))=some (partsV w):=by
  refine YCR (by exact Ze121) f4 (YAr (f:=fun k=>.loc (σ.length+k)) (g:=fun k=>.lst ((partsK w k).map pvw)) _ fun k hk=>?_)
  have hk:k<4:=by simpa using hk
  exact YCR (by exact Ze12) (f k hk) (YAr (g:=pvw) _ fun p _=>YZ (YKi _ p))
 refine (Yt [some (.str w),none,none,none] rfl rfl b (by simp) (by simp; exact List.all_eq_true.mp hσ) fz1).trans (by simp)
theorem YIT (l:List Nat):(l.map fun (n:Nat)=>(n:Int)).sum=((l.sum:Nat):Int):=by
 induction l with
 | nil=>rfl
 | cons a r ih=>rw [List.map_cons,List.sum_cons,List.sum_cons,ih]; exact Zi122
theorem YLP {σ:List AO} {l:List Nat} (h:∀ n∈l,n≤1000) (hl:l.length≤1000):biA σ .sum [.lst (l.map nI)]=some (nI l.sum):=by
 rw [YNG (Yu l),YIT]; rfl
theorem YHD:∀ (p q:List Nat),p.length=q.length→((List.range p.length).map fun t=>subN (p.getD t 0) (q.getD t 0)).sum=cost p q
 | [],q,_=>by simp [cost]
 | x::p,[],h=>by simp at h
 | x::p,y::q,h=>by
  rw [List.length_cons,List.range_succ_eq_map,List.map_cons,List.sum_cons,List.map_map]
  have:=YHD p q (by simpa using h)
  simp only [cost,←this]
  rfl
noncomputable def tbC:E:=.comp false (.call 139 (.cons (.sub (.var 8) (.var 10)) (.cons (.sub (.var 9) (.var 10)) .nil))) (.bi .range (.cons (.var 6) .nil)) .nil
noncomputable def tbX:E:=.bin .Add (.var 7) (.bi .sum (.cons tbC .nil))
noncomputable def tb2:E:=.comp2 false tbX (.sub (.sub (.var 1) (.var 3)) (.var 6)) (.sub (.sub (.var 1) (.var 4)) (.var 6))
noncomputable def tb7:S:=.asg 7 (.bin .Mult (.int 2) (.bin .Sub (.bin .Add (.bi .len (.cons (.sub (.var 0) (.var 3)) .nil)) (.bi .len (.cons (.sub (.var 0) (.var 4)) .nil))) (.bin .Mult (.int 2) (.var 6))))
noncomputable def tb8:S:=.expr (.me .extend (.var 5) (.cons tb2 .nil))
noncomputable def tbB:Ss:=.cons tb7 (.cons tb8 .nil)
theorem YPp {Φ:Tab} {σ:List AO} {v0 v1 v2 v3 v4 v5 v6 v7:Option AV} {P Q t x y v:AV} (h1:subA σ P t=some x) (h2:subA σ Q t=some y) (h3:Φ 139 [x,y] σ=some (v,σ)):
  evE Φ (.call 139 (.cons (.sub (.var 8) (.var 10)) (.cons (.sub (.var 9) (.var 10)) .nil))) [v0,v1,v2,v3,v4,v5,v6,v7,some P,some Q,some t] σ=some (v,σ):=by
 exact wE fun k=>k h1 h2 h3
theorem rng6 {Φ:Tab} {σ:List AO} {v0 v1 v2 v3 v4 v5:Option AV} {k r:AV} {ρ:YF} (h:biA σ .range [k]=some r):evE Φ (.bi .range (.cons (.var 6) .nil)) (v0::v1::v2::v3::v4::v5::some k::ρ) σ=some (r,σ):=by
 exact wE fun k=>k h
theorem YMk {σ:List AO} {p:List Nat} {t:Nat} (h:t<p.length) (hp:p.length≤1000):subA σ (pvw p) (nI t)=some (.str [p.getD t 0]):=by
 unfold pvw nI
 rw [YBv (by exact Ze64 h hp),List.getElem?_map,List.getElem?_eq_getElem h]
 simp [List.getD,List.getElem?_eq_getElem h]
noncomputable def tbΦ:Tab:=Yn [(132,YCq),(139,YJa)]
theorem YOD {as:List AV} {σ:List AO}:tbΦ 139 as σ=YJa as σ:=by simp [tbΦ,Yn]
theorem YNT {as:List AV} {σ:List AO}:tbΦ 132 as σ=YCq as σ:=by simp [tbΦ,Yn]
theorem YHV {p:List Nat} {t:Nat} (h:t<p.length):p.getD t 0∈p:=by
 simp [List.getD,List.getElem?_eq_getElem h]
theorem YQc {σ:List AO} {v0 v1 v2 v3 v4 v5 v7:Option AV} {p q:List Nat} {k:Nat} (hσ:Ok σ) (hp:p.length=k) (hq:q.length=k) (hk:k≤3) (sp:∀ c∈p,c∈signs) (sq:∀ c∈q,c∈signs):
  evE tbΦ tbC [v0,v1,v2,v3,v4,v5,some (nI k),v7,some (pvw p),some (pvw q)] σ=some (.lst (((List.range k).map fun t=>subN (p.getD t 0) (q.getD t 0)).map nI),σ):=by
 have r1:biA σ .range [nI k]=some (.rng 0 (k:Int) 1):=YCK (by simp [fits]; exact Zi120 hk)
 unfold tbC
 rw [Yc (l:=List.range k) (e:=nI) (h:=fun t=>nI (subN (p.getD t 0) (q.getD t 0))) (rng6 r1) (YR _ k) ?_,YX,List.map_map]
 ·rfl
 ·rw [List.length_map,List.length_range]; unfold lim; exact Nat.le_trans (by assumption) (by decide)
 ·intro t ht
  have ht:t<k:=by simpa using ht
  exact YPp (YMk (by exact Ze14 ht hp) (by exact Ze122 hp hk)) (YMk (by exact Ze14 ht hq) (by exact Ze122 hq hk)) (YOD.trans (YIQ hσ (sp _ (YHV (by exact Ze14 ht hp))) (sq _ (YHV (by exact Ze14 ht hq)))))
theorem YPR {Φ:Tab} {σ:List AO} {v0 v1 v2 v3 v4 v5 v6 v8 v9:Option AV} {r l s v:AV} (h1:evE Φ tbC [v0,v1,v2,v3,v4,v5,v6,some r,v8,v9] σ=some (l,σ)) (h2:biA σ .sum [l]=some s) (h3:binA σ .Add r s=some v):
  evE Φ tbX [v0,v1,v2,v3,v4,v5,v6,some r,v8,v9] σ=some (v,σ):=by
 exact wE fun k=>k h1 h2 h3
theorem YTI {σ:List AO} {a b:Nat}:binA σ .Add (nI a) (nI b)=some (nI (a+b)):=by
 unfold nI
 rw [YAo,Int.natCast_add]
theorem YQp {σ:List AO} {v0 v1 v2 v3 v4 v5:Option AV} {p q:List Nat} {k r:Nat} (hσ:Ok σ) (hp:p.length=k) (hq:q.length=k) (hk:k≤3) (sp:∀ c∈p,c∈signs) (sq:∀ c∈q,c∈signs):
  evE tbΦ tbX [v0,v1,v2,v3,v4,v5,some (nI k),some (nI r),some (pvw p),some (pvw q)] σ=some (nI (r+cost p q),σ):=by
 refine YPR (YQc hσ hp hq hk sp sq) (YLP ?_ (by simp; exact Nat.le_trans (by assumption) (by decide))) ?_
 ·intro n hn
  obtain ⟨t,_,rfl⟩:=List.mem_map.mp hn
  have:=YEL (p.getD t 0) (q.getD t 0)
  exact Nat.le_trans (by assumption) (by decide)
 ·have:=YHD p q (by exact Ze123 hp hq)
  rw [hp] at this
  rw [this]
  exact YTI
theorem YPK {Φ:Tab} {σ:List AO} {v0 v2 v4 v5 v7:Option AV} {P i k x y:AV} {ρ:YF} (h1:subA σ P i=some x) (h2:subA σ x k=some y):evE Φ (.sub (.sub (.var 1) (.var 3)) (.var 6)) (v0::some P::v2::some i::v4::v5::some k::ρ) σ=some (y,σ):=by
 exact wE fun k=>k h1 h2
theorem YQU {Φ:Tab} {σ:List AO} {v0 v2 v3 v5 v7:Option AV} {P i k x y:AV} {ρ:YF} (h1:subA σ P i=some x) (h2:subA σ x k=some y):evE Φ (.sub (.sub (.var 1) (.var 4)) (.var 6)) (v0::some P::v2::v3::some i::v5::some k::ρ) σ=some (y,σ):=by
 exact wE fun k=>k h1 h2
theorem YFS {σ:List AO} {w:List Nat} {k:Nat} (hk:k<4):subA σ (partsV w) (nI k)=some (.lst ((partsK w k).map pvw)):=by
 unfold partsV nI
 rw [YBv (by exact Nat.lt_of_lt_of_le (by assumption) (by decide)),List.getElem?_map,List.getElem?_range hk]
 rfl
theorem YDr (w:List Nat) (hw:w.length≤3) (k:Nat):(partsK w k).length≤8:=by
 have h8:2 ^ w.length≤8:=Nat.pow_le_pow_right (n:=2) (by decide) hw
 have:=YJE w (2 ^ w.length) k
 rw [YKY] at this
 exact Ze124 h8 this
theorem YEs {α β:Type} (f:α→List β) (m:Nat):∀ l:List α,(∀ x∈l,(f x).length≤m)→(l.flatMap f).length≤l.length*m
 | [],_=>by simp
 | a::r,h=>by
  have h1:=h a (by simp)
  have h2:=YEs f m r fun x hx=>h x (by simp [hx])
  rw [List.flatMap_cons,List.length_append,List.length_cons,Nat.succ_mul]
  exact Ze125 h1 h2
theorem YDN {a b:List Nat} (ha:a.length≤3) (hb:b.length≤3) (k:Nat):(waysK a b k).length≤64:=by
 unfold waysK
 have h1:=YEs (fun p=>(partsK b k).map fun q=>2*(a.length+b.length-2*k)+cost p q) 8 (partsK a k) fun x _=>by rw [List.length_map]; exact YDr b hb k
 have h2:=YDr a ha k
 exact Ze126 h1 h2
theorem YSp {σ:List AO} {v0 v2 v5:Option AV} {P:AV} {a b:List Nat} {i j k:Nat} {r:Int} (hσ:Ok σ) (ha:a.length≤3) (hb:b.length≤3) (sa:∀ c∈a,c∈signs) (sb:∀ c∈b,c∈signs) (hk:k<4)
  (hi:subA σ P (nI i)=some (partsV a)) (hj:subA σ P (nI j)=some (partsV b)) (hr:r=2*((a.length:Int)+b.length-2*k)):
  evE tbΦ tb2 [v0,some P,v2,some (nI i),some (nI j),v5,some (nI k),some (.int r)] σ=some (.lst ((waysK a b k).map nI),σ):=by
 unfold tb2
 rw [YFA (l:=partsK a k) (e:=pvw) (k:=fun _=>.lst ((partsK b k).map pvw)) (l2:=fun _=>partsK b k) (e2:=pvw) (h:=fun p q=>nI (2*(a.length+b.length-2*k)+cost p q)) (YPK (v7:=none) hi (YFS hk)) (Yl ..) ?_ ?_,YX]
 ·unfold waysK
  rw [List.map_flatMap]
  simp only [List.map_map]
  rfl
 ·have:=YDN ha hb k
  unfold waysK at this
  rw [List.length_flatMap] at this ⊢
  simp only [List.length_map] at this ⊢
  unfold lim
  exact Nat.le_trans (by assumption) (by decide)
 ·intro p _
  exact ⟨YQU (v7:=none) hj (YFS hk),Yl ..⟩
 ·intro p hp q hq
  rw [YBM ha] at hp
  rw [YBM hb] at hq
  have l1:=hp.1.length_le
  have l2:=hq.1.length_le
  have e:(AV.int r)=nI (2*(a.length+b.length-2*k)):=by
   unfold nI
   rw [hr]
   congr 1
   exact Zi123 hp.2 l1 hq.2 l2
  rw [e]
  exact YQp hσ hp.2 hq.2 (by exact Ze127 hk) (fun c hc=>sa c (hp.1.subset hc)) (fun c hc=>sb c (hq.1.subset hc))
theorem YNu {Φ:Tab} {σ:List AO} {v1 v2 v5 x7:Option AV} {W i j k a b la lb s t u r:AV} (h1:subA σ W i=some a) (h2:biA σ .len [a]=some la) (h3:subA σ W j=some b) (h4:biA σ .len [b]=some lb) (h5:binA σ .Add la lb=some s) (h6:binA σ .Mult (.int 2) k=some t) (h7:binA σ .Sub s t=some u) (h8:binA σ .Mult (.int 2) u=some r):
  exS Φ tb7 [some W,v1,v2,some i,some j,v5,some k,x7] σ=some (.next,[some W,v1,v2,some i,some j,v5,some k,some r],σ):=by
 exact wS fun k=>k h1 h2 h3 h4 h5 h6 h7 h8
theorem YPg {Φ:Tab} {σ τ:List AO} {v0 v1 v2 v3 v4 v6 v7:Option AV} {l w r:AV} (h1:evE Φ tb2 [v0,v1,v2,v3,v4,some l,v6,v7] σ=some (w,σ)) (h2:meOk σ .extend l=true) (h3:meA σ .extend l [w]=some (r,τ)):
  exS Φ tb8 [v0,v1,v2,v3,v4,some l,v6,v7] σ=some (.next,[v0,v1,v2,v3,v4,some l,v6,v7],τ):=by
 exact wS fun k=>k h2 h1 h3
noncomputable def waysTo (a b:List Nat) (k:Nat):List Nat:=(List.range k).flatMap (waysK a b)
theorem YGc (a b:List Nat) (k:Nat):waysTo a b (k+1)=waysTo a b k++waysK a b k:=by
 unfold waysTo
 rw [List.range_succ,List.flatMap_append]
 simp
theorem YIA {a b:List Nat} (ha:a.length≤3) (hb:b.length≤3) (k:Nat):(waysTo a b k).length≤64*k:=by
 have:=YEs (waysK a b) 64 (List.range k) fun x _=>YDN ha hb x
 rw [List.length_range] at this
 unfold waysTo
 exact Ze128 this
theorem rng4 {Φ:Tab} {σ:List AO} {ρ:YF}:evE Φ (.bi .range (.cons (.int 4) .nil)) ρ σ=some (.rng 0 ((4:Nat):Int) 1,σ):=by
 exact wE fun k=>k (YCK rfl)
theorem mul2 {σ:List AO} {x:Int} (h:fits x=true):binA σ .Mult (.int 2) (.int x)=some (.int (2*x)):=YLI (by rw [h]; simp [fits])
theorem YKG {τ:List AO} {W P:AV} {v2 x7:Option AV} {a b:List Nat} {i j:Nat} (hτ:Ok τ) (ha:a.length≤3) (hb:b.length≤3) (sa:∀ c∈a,c∈signs) (sb:∀ c∈b,c∈signs)
  (wi:∀ σ,subA σ W (nI i)=some (.str a)) (wj:∀ σ,subA σ W (nI j)=some (.str b)) (hi:∀ σ,subA σ P (nI i)=some (partsV a)) (hj:∀ σ,subA σ P (nI j)=some (partsV b)) (x6:Option AV):
  ∃ x6 x7,exS tbΦ (.for_ 6 (.bi .range (.cons (.int 4) .nil)) tbB) [some W,some P,v2,some (nI i),some (nI j),some (.loc τ.length),x6,x7] (τ++[.list []])=some (.next,[some W,some P,v2,some (nI i),some (nI j),some (.loc τ.length),x6,x7],τ++[.list ((waysOf a b).map nI)]):=by
 obtain ⟨ρ',σ',e,x6',x7',rfl,rfl⟩:=YKf (Φ:=tbΦ) (b:=tbB) (vi:=6) (xs:=List.range 4) (e:=nI) (itv:=.rng 0 ((4:Nat):Int) 1) (ρ:=[some W,some P,v2,some (nI i),some (nI j),some (.loc τ.length),x6,x7]) (σ:=τ++[.list []])
  (fun k ρ σ=>∃ x6 x7,ρ=[some W,some P,v2,some (nI i),some (nI j),some (.loc τ.length),x6,x7]∧σ=τ++[.list ((waysTo a b k).map nI)]) rng4 (fun σ=>YR σ 4) (by
   intro k x ρ σ hv h
   obtain ⟨x6,x7,rfl,rfl⟩:=h
   have hk:k<4:=by
    have:=(List.getElem?_eq_some_iff.mp hv).1
    rwa [List.length_range] at this
   rw [List.getElem?_range hk] at hv
   injection hv with hv
   subst hv
   have hl:=YIA ha hb k
   have hl2:=YDN ha hb k
   have al:a.length≤lim:=by unfold lim; exact Nat.le_trans (by assumption) (by decide)
   have bl:b.length≤lim:=by unfold lim; exact Nat.le_trans (by assumption) (by decide)
   have hq:(τ++[AO.list ((waysTo a b k).map nI)])[τ.length]?=some (.list ((waysTo a b k).map nI)):=by simp
   have hok:Ok (τ++[AO.list ((waysTo a b k).map nI)]):=YDi hτ (by
    simp only [List.all_cons,List.all_nil,Bool.and_true,aoOk,Yg]
    rw [List.all_map,List.all_eq_true]
    intro x _
    rfl)
   refine ⟨[some W,some P,v2,some (nI i),some (nI j),some (.loc τ.length),some (nI k),some (.int (2*((a.length:Int)+b.length-2*k)))],τ++[.list ((waysTo a b (k+1)).map nI)],?_,_,_,rfl,rfl⟩
   show exSs tbΦ tbB [some W,some P,v2,some (nI i),some (nI j),some (.loc τ.length),some (nI k),x7] _=_
   have m1:binA (τ++[AO.list ((waysTo a b k).map nI)]) .Mult (.int 2) (nI k)=some (.int (2*(k:Int))):=mul2 (by simp [fits]; exact Zi124 hk)
   have m2:binA (τ++[AO.list ((waysTo a b k).map nI)]) .Mult (.int 2) (.int ((a.length:Int)+b.length-2*k))=some (.int (2*((a.length:Int)+b.length-2*k))):=mul2 (by simp [fits]; exact ⟨Zi125 hk,Zi126 ha hb⟩)
   unfold tbB
   rw [YC (YNu (wi _) (YCs al) (wj _) (YCs bl) YAo m1 YEt m2)]
   rw [YC (YPg (r:=.none) (YSp hok ha hb sa sb hk (hi _) (hj _) rfl) (YCO (by simp) hq) (YTi hq (by rw [List.length_map,List.length_map]; unfold lim; lia))),YBp]
   rw [List.set_append_right _ _ (Nat.le_refl _),Nat.sub_self,List.set_cons_zero,YGc,List.map_append]) ⟨_,_,rfl,rfl⟩
 exact ⟨x6',x7',e⟩
noncomputable def tSt (T:Nat→Nat→Nat) (n:Nat):List AO:=((List.range 5).map fun i=>.list ((List.range 5).map fun j=>nI (T i j)))++[.list ((List.range 5).map fun i=>.loc (n+i))]
noncomputable def upd (T:Nat→Nat→Nat) (i j v:Nat):Nat→Nat→Nat:=fun a b=>if a=i∧b=j then v else T a b
section
variable {σ G:List AO} {T:Nat→Nat→Nat}
theorem YGZ (T:Nat→Nat→Nat) (n:Nat):(tSt T n).length=6:=by simp [tSt]
theorem YPL (i:Nat) (h:i<5):(σ++(tSt T σ.length++G))[σ.length+i]?=some (.list ((List.range 5).map fun j=>nI (T i j))):=by
 rw [YBG,List.getElem?_append_left (by rw [YGZ]; exact Nat.lt_of_lt_of_le (by assumption) (by decide))]
 unfold tSt
 rw [List.getElem?_append_left (by simpa using h),List.getElem?_map,List.getElem?_range h]
 rfl
theorem YMd:(σ++(tSt T σ.length++G))[σ.length+5]?=some (.list ((List.range 5).map fun i=>.loc (σ.length+i))):=by
 rw [YBG,List.getElem?_append_left (by rw [YGZ]; exact Ze129)]
 rfl
theorem YKm {i:Nat} (h:i<5):subA (σ++(tSt T σ.length++G)) (.loc (σ.length+5)) (nI i)=some (.loc (σ.length+i)):=by
 refine (YGd YMd (by exact Nat.lt_of_lt_of_le (by assumption) (by decide))).trans ?_
 rw [List.getElem?_map,List.getElem?_range h]
 rfl
theorem YQa {i j:Nat} (h:i<5) (hj:j<5):subA (σ++(tSt T σ.length++G)) (.loc (σ.length+i)) (nI j)=some (nI (T i j)):=by
 refine (YGd (YPL i h) (by exact Nat.lt_of_lt_of_le (by assumption) (by decide))).trans ?_
 rw [List.getElem?_map,List.getElem?_range hj]
 rfl
theorem YNf {i j v:Nat} (hj:j<5):((List.range 5).map fun k=>nI (T i k)).set j (nI v)=(List.range 5).map fun k=>nI (upd T i j v i k):=by
 refine List.ext_getElem? fun a=>?_
 rw [List.getElem?_set,List.getElem?_map,List.getElem?_map,List.length_map,List.length_range]
 by_cases q:j=a
 ·subst q
  rw [if_pos rfl,if_pos hj,List.getElem?_range hj]
  simp [upd]
 ·rw [if_neg q]
  by_cases ha:a<5
  ·rw [List.getElem?_range ha,Option.map_some,Option.map_some]
   have:upd T i j v i a=T i a:=by unfold upd; rw [if_neg fun z=>q z.2.symm]
   rw [this]
  ·rw [List.getElem?_eq_none (by simpa using ha)]
   rfl
theorem YKb {i j v a:Nat} (h:a≠i):((List.range 5).map fun k=>nI (upd T i j v a k))=(List.range 5).map fun k=>nI (T a k):=by
 refine List.map_congr_left fun k _=>?_
 unfold upd
 rw [if_neg fun q=>h q.1]
theorem YSb {i j v n:Nat} (h:i<5) (hj:j<5):(tSt T n).set i (.list (((List.range 5).map fun k=>nI (T i k)).set j (nI v)))=tSt (upd T i j v) n:=by
 rw [YNf hj]
 unfold tSt
 rw [List.set_append_left _ _ (by simpa using h)]
 congr 1
 refine List.ext_getElem? fun a=>?_
 rw [List.getElem?_set,List.getElem?_map,List.getElem?_map,List.length_map,List.length_range]
 by_cases q:i=a
 ·subst q
  rw [if_pos rfl,if_pos h,List.getElem?_range h]
  rfl
 ·rw [if_neg q]
  by_cases ha:a<5
  ·rw [List.getElem?_range ha,Option.map_some,Option.map_some,YKb (Ne.symm q)]
  ·rw [List.getElem?_eq_none (by simpa using ha)]
   rfl
theorem YMg {i j v:Nat} (h:i<5) (hj:j<5):ssetA (σ++(tSt T σ.length++G)) (.loc (σ.length+i)) (nI j) (nI v)=some (σ++(tSt (upd T i j v) σ.length++G)):=by
 refine (YIo (YPL i h) (by simpa using hj) (by simp [lim])).trans ?_
 rw [YCF,List.set_append_left _ _ (by rw [YGZ]; exact Nat.lt_of_lt_of_le (by assumption) (by decide)),YSb h hj]
theorem YUR (hσ:Ok σ) (hG:G.all (aoOk 0)=true):Ok (σ++(tSt T σ.length++G)):=by
 refine YDi hσ ?_
 rw [List.all_append,Bool.and_eq_true]
 refine ⟨?_,?_⟩
 ·unfold tSt
  rw [List.all_append,Bool.and_eq_true,List.all_map]
  refine ⟨?_,?_⟩
  ·rw [List.all_eq_true]
   intro i _
   show noLocs _ _=true
   rw [Yg,List.all_map,List.all_eq_true]
   intro x _
   rfl
  ·simp only [List.all_cons,List.all_nil,Bool.and_true]
   show noLocs _ _=true
   rw [Yg,List.all_map,List.all_eq_true]
   intro x hx
   have hx:x<5:=by simpa using hx
   show decide _=true
   rw [List.length_append,List.length_append,List.length_map,List.length_range,List.length_singleton,decide_eq_true_eq]
   exact Ze130 hx
 ·rw [List.all_eq_true] at hG ⊢
  intro o ho
  exact YJO (Nat.zero_le _) (hG o ho)
end
theorem YKO {α:Type} {f:AV→List AO→Option (List AV×List AO)} {it:AV} {xs:List α} {e:α→AV} {S:Nat→List AO} {h:Nat→AV} (hI:∀ σ,Ym σ it (xs.map e)) (hf:∀ i x,xs[i]?=some x→f (e x) (S i)=some ([h i],S (i+1))):
  ∀ (k i:Nat),i+k=xs.length→mapGo f it (k+1) i (S i)=some ((List.range k).map (fun j=>h (i+j)),S (i+k))
 | 0,i,hk=>by
  exact YKg (((hI _).nth i).trans (congrArg some (List.getElem?_eq_none (by rw [List.length_map]; exact Ze41 hk))))
 | k+1,i,hk=>by
  have hi:i<xs.length:=Ze42 hk
  have r:=YJy (((hI (S i)).nth i).trans (congrArg some (List.getElem?_map.trans (congrArg _ (List.getElem?_eq_getElem hi))))) (hf i _ (List.getElem?_eq_getElem hi)) (YKO hI hf k (i+1) (Ze43 hk))
  rw [show i+1+k=i+(k+1) from Ze55] at r
  rw [r,List.range_succ_eq_map,List.map_cons,List.map_map]
  refine congrArg (fun l=>some (h i::l,_)) (List.map_congr_left fun j _=>congrArg h ?_)
  exact Ze55
theorem YEd {α:Type} {Φ:Tab} {ρ:YF} {m:Bool} {elt it:E} {itv:AV} {xs:List α} {e:α→AV} {S:Nat→List AO} {h:Nat→AV} (h1:evE Φ it ρ (S 0)=some (itv,S 0)) (hI:∀ σ,Ym σ itv (xs.map e)) (h2:∀ i x,xs[i]?=some x→evE Φ elt (ρ++[some (e x)]) (S i)=some (h i,S (i+1))):
  evE Φ (.comp m elt it .nil) ρ (S 0)=newL m (S xs.length) ((List.range xs.length).map h):=by
 refine bs h1 (bs (?_:_=some ((List.range xs.length).map h,S xs.length)) rfl)
 rw [(hI _).tn,List.length_map]
 refine (YKO (h:=h) hI ?_ xs.length 0 (Nat.zero_add _)).trans (by simp only [Nat.zero_add])
 exact fun i x hx=>ms (h2 i x hx)
noncomputable def ti1:S:=.asg 5 (.lst true .nil)
noncomputable def ti2:S:=.for_ 6 (.bi .range (.cons (.int 4) .nil)) tbB
noncomputable def ti3:S:=.sset (.sub (.var 2) (.var 3)) (.var 4) (.bi .min (.cons (.var 5) .nil))
noncomputable def ti4:S:=.sset (.sub (.var 2) (.var 4)) (.var 3) (.sub (.sub (.var 2) (.var 3)) (.var 4))
noncomputable def tiB:Ss:=.cons ti1 (.cons ti2 (.cons ti3 (.cons ti4 .nil)))
noncomputable def to1:S:=.for_ 4 (.bi .range (.cons (.var 3) .nil)) tiB
noncomputable def toB:Ss:=.cons to1 .nil
theorem YRr {Φ:Tab} {σ:List AO} {v0 v1 v2 v3 v4 v5 v6 v7:Option AV}:exS Φ ti1 [v0,v1,v2,v3,v4,v5,v6,v7] σ=some (.next,[v0,v1,v2,v3,v4,some (.loc σ.length),v6,v7],σ++[.list []]):=by
 unfold ti1
 rw [YDT,YND]
 rfl
theorem YPT {Φ:Tab} {σ τ:List AO} {v0 v1 v6 v7:Option AV} {t i j w m r:AV} (h1:biA σ .min [w]=some m) (h2:subA σ t i=some r) (h3:ssetA σ r j m=some τ):exS Φ ti3 [v0,v1,some t,some i,some j,some w,v6,v7] σ=some (.next,[v0,v1,some t,some i,some j,some w,v6,v7],τ):=by
 exact wS fun k=>k h1 h2 h3
theorem YPm {Φ:Tab} {σ τ:List AO} {v0 v1 v5 v6 v7:Option AV} {t i j m r r':AV} (h1:subA σ t i=some r) (h2:subA σ r j=some m) (h4:subA σ t j=some r') (h3:ssetA σ r' i m=some τ):exS Φ ti4 [v0,v1,some t,some i,some j,v5,v6,v7] σ=some (.next,[v0,v1,some t,some i,some j,v5,v6,v7],τ):=by
 exact wS fun k=>k h1 h2 h4 h3
noncomputable def wd (a b:List Nat):Nat:=mnl (waysOf a b)
theorem YIV {a b:List Nat} (ha:a.length≤3) (hb:b.length≤3):waysOf a b≠[]:=by
 intro h
 have:=(YEk ha hb).mpr (YAv (List.nil_sublist a) (List.nil_sublist b) rfl)
 rw [h] at this
 cases this
theorem YEx {a b:List Nat} (ha:a.length≤3) (hb:b.length≤3):IsEd a b (wd a b):=by
 obtain ⟨h1,h2⟩:=YEE (YIV ha hb)
 exact ⟨(YEk ha hb).mp h1,fun n hn=>h2 n ((YEk ha hb).mpr hn)⟩
theorem YIk {a:List Nat} (ha:a.length≤3):wd a a=0:=(YEx ha ha).uniq (IsEd.self a)
theorem YKW {a b:List Nat} (ha:a.length≤3) (hb:b.length≤3):wd a b=wd b a:=(YEx ha hb).uniq (YEx hb ha).symm
set_option genInjectivity false in
structure InT (D T:Nat→Nat→Nat) (i j:Nat):Prop where
 diag:∀ a,T a a=0
 old:∀ a b,a<i→b<i→T a b=D a b
 row:∀ b,b<j→T i b=D i b∧T b i=D b i
theorem InT.step {D T:Nat→Nat→Nat} {i j:Nat} (h:InT D T i j) (hj:j<i) (hs:D j i=D i j):InT D (upd (upd T i j (D i j)) j i (D i j)) i (j+1):=by
 refine ⟨fun a=>?_,fun a b ha hb=>?_,fun b hb=>⟨?_,?_⟩⟩
 ·unfold upd
  rw [if_neg (by lia),if_neg (by lia)]
  exact h.diag a
 ·unfold upd
  rw [if_neg (by lia),if_neg (by lia)]
  exact h.old a b ha hb
 ·unfold upd
  rw [if_neg (by lia)]
  by_cases q:b=j
  ·subst q
   rw [if_pos ⟨rfl,rfl⟩]
  ·rw [if_neg (by lia)]
   exact (h.row b (by exact Ze68 q hb)).1
 ·unfold upd
  by_cases q:b=j
  ·subst q
   rw [if_pos ⟨rfl,rfl⟩,hs]
  ·rw [if_neg (by lia),if_neg (by lia)]
   exact (h.row b (by exact Ze68 q hb)).2
theorem InT.next {D T:Nat→Nat→Nat} {i:Nat} (h:InT D T i i) (hd:D i i=0):InT D T (i+1) 0:=by
 refine ⟨h.diag,fun a b ha hb=>?_,fun b hb=>by exact ⟨Ze131 hb,Ze131 hb⟩⟩
 by_cases qa:a=i
 ·subst qa
  by_cases qb:b=a
  ·subst qb
   rw [h.diag,hd]
  ·exact (h.row b (by exact Ze68 qb hb)).1
 ·by_cases qb:b=i
  ·subst qb
   exact (h.row a (by exact Ze68 qa ha)).2
  ·exact h.old a b (by exact Ze68 qa ha) (by exact Ze68 qb hb)
noncomputable def YK (ws:List (List Nat)):AV:=.lst (ws.map .str)
noncomputable def partsVs (ws:List (List Nat)):AV:=.lst (ws.map partsV)
noncomputable def wD (ws:List (List Nat)) (i j:Nat):Nat:=wd (ws.getD i []) (ws.getD j [])
set_option genInjectivity false in
structure Five (ws:List (List Nat)):Prop where
 len:ws.length=5
 word:∀ w∈ws,IsWord w
theorem Five.at {ws:List (List Nat)} (h:Five ws) {i:Nat} (hi:i<5):IsWord (ws.getD i [])∧ws[i]?=some (ws.getD i []):=by
 have hi:i<ws.length:=by rw [h.len]; exact hi
 have e:ws.getD i []=ws[i]:=by simp [List.getD,List.getElem?_eq_getElem hi]
 rw [e]
 exact ⟨h.word _ (List.getElem_mem hi),List.getElem?_eq_getElem hi⟩
theorem YAt {σ:List AO} {ws:List (List Nat)} (h:Five ws) {i:Nat} (hi:i<5):subA σ (YK ws) (nI i)=some (.str (ws.getD i [])):=by
 unfold YK nI
 rw [YBv (by exact Nat.lt_of_lt_of_le (by assumption) (by decide)),List.getElem?_map,(h.at hi).2]
 rfl
theorem YDh {σ:List AO} {ws:List (List Nat)} (h:Five ws) {i:Nat} (hi:i<5):subA σ (partsVs ws) (nI i)=some (partsV (ws.getD i [])):=by
 unfold partsVs nI
 rw [YBv (by exact Nat.lt_of_lt_of_le (by assumption) (by decide)),List.getElem?_map,(h.at hi).2]
 rfl
noncomputable def tInv (ws:List (List Nat)) (σ:List AO) (v3:Option AV) (i j:Nat) (ρ:YF) (τ:List AO):Prop:=
 ∃ T G v4 v5 v6 v7,ρ=[some (YK ws),some (partsVs ws),some (.loc (σ.length+5)),v3,v4,v5,v6,v7]∧τ=σ++(tSt T σ.length++G)∧G.all (aoOk 0)=true∧InT (wD ws) T i j
theorem YLX {ws:List (List Nat)} {σ:List AO} (hw:Five ws) (hσ:Ok σ) {i j:Nat} (hi:i<5) (hj:j<i) {ρ:YF} {τ:List AO} (h:tInv ws σ (some (nI i)) i j ρ τ):
  ∃ ρ' τ',exSs tbΦ tiB (ρ.set 4 (some (nI j))) τ=some (.next,ρ',τ')∧tInv ws σ (some (nI i)) i (j+1) ρ' τ':=by
 obtain ⟨T,G,v4,v5,v6,v7,rfl,rfl,hG,hT⟩:=h
 have hj5:j<5:=by exact Ze132 hi hj
 have ⟨wi,_⟩:=hw.at hi
 have ⟨wj,_⟩:=hw.at hj5
 have hok:=YUR (T:=T) hσ hG
 obtain ⟨x6,x7,e2⟩:=YKG (W:=YK ws) (P:=partsVs ws) (v2:=some (.loc (σ.length+5))) (x7:=v7) hok wi.2.1 wj.2.1 wi.2.2 wj.2.2 (fun τ=>YAt hw hi) (fun τ=>YAt hw hj5) (fun τ=>YDh hw hi) (fun τ=>YDh hw hj5) v6
 generalize hL:(waysOf (ws.getD i []) (ws.getD j []))=L at e2
 have hne:L≠[]:=by rw [←hL]; exact YIV wi.2.1 wj.2.1
 have hv:mnl L=wD ws i j:=by rw [←hL]; rfl
 have ea:σ++(tSt T σ.length++G)++[AO.list (L.map nI)]=σ++(tSt T σ.length++(G++[AO.list (L.map nI)])):=by simp
 have hq:(σ++(tSt T σ.length++G)++[AO.list (L.map nI)])[(σ++(tSt T σ.length++G)).length]?=some (.list (L.map nI)):=by simp
 have mn:biA (σ++(tSt T σ.length++G)++[AO.list (L.map nI)]) .min [.loc (σ++(tSt T σ.length++G)).length]=some (nI (wD ws i j)):=by
  rw [←hv]
  refine YMq ?_ hne
  simp only [items,hq]
 rw [ea] at e2 mn
 refine ⟨[some (YK ws),some (partsVs ws),some (.loc (σ.length+5)),some (nI i),some (nI j),some (.loc (σ++(tSt T σ.length++G)).length),x6,x7],σ++(tSt (upd (upd T i j (wD ws i j)) j i (wD ws i j)) σ.length++(G++[AO.list (L.map nI)])),?_,_,_,some (nI j),some (.loc (σ++(tSt T σ.length++G)).length),x6,x7,rfl,rfl,?_,hT.step hj ?_⟩
 ·show exSs tbΦ tiB [some (YK ws),some (partsVs ws),some (.loc (σ.length+5)),some (nI i),some (nI j),v5,v6,v7] _=_
  unfold tiB
  rw [YC YRr]
  refine (YC e2).trans ?_
  rw [YC (YPT mn (YKm hi) (YMg hi hj5))]
  have g:subA (σ++(tSt (upd T i j (wD ws i j)) σ.length++(G++[AO.list (L.map nI)]))) (.loc (σ.length+i)) (nI j)=some (nI (wD ws i j)):=by
   rw [YQa hi hj5]
   unfold upd
   rw [if_pos ⟨rfl,rfl⟩]
  rw [YC (YPm (YKm hi) g (YKm hj5) (YMg hj5 hi)),YBp]
 ·rw [List.all_append,hG,Bool.true_and]
  simp only [List.all_cons,List.all_nil,Bool.and_true]
  show noLocs _ _=true
  rw [Yg,List.all_map,List.all_eq_true]
  intro x _
  rfl
 ·exact YKW wj.2.1 wi.2.1
theorem rng3 {Φ:Tab} {σ:List AO} {v0 v1 v2:Option AV} {k r:AV} {ρ:YF} (h:biA σ .range [k]=some r):evE Φ (.bi .range (.cons (.var 3) .nil)) (v0::v1::v2::some k::ρ) σ=some (r,σ):=by
 exact wE fun k=>k h
theorem YOw {ws:List (List Nat)} {σ:List AO} (hw:Five ws) (hσ:Ok σ) {i:Nat} (hi:i<5) {ρ:YF} {τ:List AO} {v3:Option AV} (h:tInv ws σ v3 i 0 ρ τ):
  ∃ ρ' τ',exSs tbΦ toB (ρ.set 3 (some (nI i))) τ=some (.next,ρ',τ')∧tInv ws σ (some (nI i)) (i+1) 0 ρ' τ':=by
 obtain ⟨T,G,v4,v5,v6,v7,rfl,rfl,hG,hT⟩:=h
 have r1:biA (σ++(tSt T σ.length++G)) .range [nI i]=some (.rng 0 (i:Int) 1):=YCK (by simp [fits]; lia)
 obtain ⟨ρ',σ',e,g⟩:=YKf (Φ:=tbΦ) (b:=tiB) (vi:=4) (it:=.bi .range (.cons (.var 3) .nil)) (xs:=List.range i) (e:=nI) (ρ:=[some (YK ws),some (partsVs ws),some (.loc (σ.length+5)),some (nI i),v4,v5,v6,v7]) (tInv ws σ (some (nI i)) i) (rng3 r1) (fun τ=>YR τ i)
  (by
   intro j x ρ τ hv h
   have hj:j<i:=by
    have:=(List.getElem?_eq_some_iff.mp hv).1
    rwa [List.length_range] at this
   rw [List.getElem?_range hj] at hv
   injection hv with hv
   subst hv
   exact YLX hw hσ hi hj h) ⟨T,G,_,_,_,_,rfl,rfl,hG,hT⟩
 rw [List.length_range] at g
 obtain ⟨T',G',u4,u5,u6,u7,rfl,rfl,hG',hT'⟩:=g
 have ⟨wi,_⟩:=hw.at hi
 refine ⟨[some (YK ws),some (partsVs ws),some (.loc (σ.length+5)),some (nI i),u4,u5,u6,u7],σ++(tSt T' σ.length++G'),?_,T',G',u4,u5,u6,u7,rfl,rfl,hG',hT'.next (YIk wi.2.1)⟩
 show exSs tbΦ toB [some (YK ws),some (partsVs ws),some (.loc (σ.length+5)),some (nI i),v4,v5,v6,v7] _=_
 unfold toB to1
 rw [YC e,YBp]
theorem YPE {Φ:Tab} {σ:List AO} {v0 v1 v2 v3 v4 v5 v6 v7:Option AV} {w r:AV} (h:Φ 132 [w] σ=some (r,σ)):evE Φ (.call 132 (.cons (.var 8) .nil)) [v0,v1,v2,v3,v4,v5,v6,v7,some w] σ=some (r,σ):=by
 exact wE fun k=>k h
theorem YSF {ws:List (List Nat)} {σ:List AO} {v1 v2 v3 v4 v5 v6 v7:Option AV} (hw:Five ws) (hσ:Ok σ):exS tbΦ (.asg 1 (.comp false (.call 132 (.cons (.var 8) .nil)) (.var 0) .nil)) [some (YK ws),v1,v2,v3,v4,v5,v6,v7] σ=some (.next,[some (YK ws),some (partsVs ws),v2,v3,v4,v5,v6,v7],σ):=by
 rw [YDT,Yc (l:=ws) (e:=.str) (h:=partsV) rfl (Yl ..) ?_,YX]
 ·rfl
 ·rw [List.length_map,hw.len]; unfold lim; exact Ze49
 ·intro w hx
  exact YPE (YNT.trans (YFw hσ (hw.word w hx).2.1))
noncomputable def zRow:AO:=.list ((List.range 5).map fun _=>nI 0)
theorem YNq {Φ:Tab} {ws:List (List Nat)} {σ:List AO} {ρ:YF} (hw:ws.length=5):evE Φ (.comp true (.int 0) (.var 0) .nil) (some (YK ws)::ρ) σ=some (.loc σ.length,σ++[zRow]):=by
 rw [Yc (l:=ws) (e:=.str) (h:=fun _=>nI 0) (itv:=YK ws) rfl (Yl ..) (fun x _=>rfl),YBU (by rw [List.length_map,hw]; unfold lim; exact Ze49)]
 have:(ws.map fun _=>nI 0)=(List.range 5).map fun _=>nI 0:=by
  rcases ws with _ | ⟨a,_ | ⟨b,_ | ⟨c,_ | ⟨d,_ | ⟨e,_ | ⟨f,r⟩⟩⟩⟩⟩⟩ <;> first | rfl | (simp at hw)
 rw [this]
 rfl
theorem YQx {Φ:Tab} {ws:List (List Nat)} {σ:List AO} {v1 v2 v3 v4 v5 v6 v7:Option AV} (hw:ws.length=5):exS Φ (.asg 2 (.comp true (.comp true (.int 0) (.var 0) .nil) (.var 0) .nil)) [some (YK ws),v1,v2,v3,v4,v5,v6,v7] σ=some (.next,[some (YK ws),v1,some (.loc (σ.length+5)),v3,v4,v5,v6,v7],σ++(tSt (fun _ _=>0) σ.length++[])):=by
 have:=YEd (Φ:=Φ) (ρ:=[some (YK ws),v1,v2,v3,v4,v5,v6,v7]) (m:=true) (elt:=.comp true (.int 0) (.var 0) .nil) (it:=.var 0) (itv:=YK ws) (xs:=ws) (e:=.str) (S:=fun i=>σ++List.replicate i zRow) (h:=fun i=>.loc (σ.length+i)) rfl (fun τ=>Yl τ _) (by
  intro i x _
  show evE Φ _ (some (YK ws)::_) _=_
  rw [YNq hw,List.length_append,List.length_replicate,List.append_assoc,←List.replicate_succ'])
 rw [List.replicate_zero,List.append_nil,hw] at this
 rw [YDT,this,YBU (by simp [lim]),List.length_append,List.length_replicate]
 simp only [Option.map_some,List.append_nil,List.append_assoc]
 rfl
theorem YMF {ws:List (List Nat)} {σ:List AO} (hw:Five ws) (hσ:Ok σ) {v3 v4 v5 v6 v7:Option AV}:
  ∃ v3 ρ' τ',exS tbΦ (.for_ 3 (.bi .range (.cons (.bi .len (.cons (.var 0) .nil)) .nil)) toB) [some (YK ws),some (partsVs ws),some (.loc (σ.length+5)),none,none,none,none,none] (σ++(tSt (fun _ _=>0) σ.length++[]))=some (.next,ρ',τ')∧tInv ws σ v3 5 0 ρ' τ':=by
 have l1:∀ τ,biA τ .len [YK ws]=some (nI 5):=fun τ=>by
  refine (YKz (by rw [List.length_map,hw.len]; unfold lim; exact Ze49)).trans ?_
  rw [List.length_map,hw.len]
  rfl
 have r1:∀ τ,biA τ .range [nI 5]=some (.rng 0 ((5:Nat):Int) 1):=fun τ=>YCK (by simp [fits])
 obtain ⟨ρ',σ',e,v3,g⟩:=YKf (Φ:=tbΦ) (b:=toB) (vi:=3) (it:=.bi .range (.cons (.bi .len (.cons (.var 0) .nil)) .nil)) (xs:=List.range 5) (e:=nI) (ρ:=[some (YK ws),some (partsVs ws),some (.loc (σ.length+5)),none,none,none,none,none]) (σ:=σ++(tSt (fun _ _=>0) σ.length++[]))
  (fun i ρ τ=>∃ v3,tInv ws σ v3 i 0 ρ τ) (rngL (l1 _) (r1 _)) (fun τ=>YR τ 5) (by
   intro i x ρ τ hv h
   obtain ⟨v3,h⟩:=h
   have hi:i<5:=by
    have:=(List.getElem?_eq_some_iff.mp hv).1
    rwa [List.length_range] at this
   rw [List.getElem?_range hi] at hv
   injection hv with hv
   subst hv
   obtain ⟨ρ',τ',a,b⟩:=YOw hw hσ hi h
   exact ⟨ρ',τ',a,_,b⟩) ⟨none,fun _ _=>0,[],none,none,none,none,rfl,rfl,rfl,⟨fun _=>rfl,fun a b h=>by lia,fun b h=>by exact ⟨Ze133 h,Ze133 h⟩⟩⟩
 rw [List.length_range] at g
 exact ⟨v3,ρ',σ',e,g⟩
theorem YLm {D T:Nat→Nat→Nat} (h:∀ a b,a<5→b<5→T a b=D a b):pv T=pv D:=by
 unfold pv
 congr 1
 refine List.map_congr_left fun i hi=>?_
 congr 1
 refine List.map_congr_left fun j hj=>?_
 rw [h i j (by simpa using hi) (by simpa using hj)]
theorem YFm {ws:List (List Nat)} {σ:List AO} (hw:Five ws) (hσ:Ok σ):YDS [YK ws] σ=some (pv (wD ws),σ):=by
 obtain ⟨v3,ρ',τ',e,T,G,v4,v5,v6,v7,rfl,rfl,hG,hT⟩:=YMF hw hσ (v3:=none) (v4:=none) (v5:=none) (v6:=none) (v7:=none)
 have b:exSs tbΦ YAI [some (YK ws),none,none,none,none,none,none,none] σ=some (.ret (.loc (σ.length+5)),[some (YK ws),some (partsVs ws),some (.loc (σ.length+5)),v3,v4,v5,v6,v7],σ++(tSt T σ.length++G)):=by
  unfold YAI
  rw [YC (YSF hw hσ),YC (YQx hw.len)]
  refine (YC e).trans ?_
  generalize σ++(tSt T σ.length++G)=τ
  exact wSs fun k=>k
 have f1:fz (σ++(tSt T σ.length++G)) σ.length 6 (.loc (σ.length+5))=some (pv T):=by
  refine YCR (by exact Ze134) YMd (YAr (f:=fun k=>.loc (σ.length+k)) (g:=fun i=>.lst ((List.range 5).map fun j=>nI (T i j))) _ fun k hk=>?_)
  exact YCR (by exact Ze12) (YPL k (by simpa using hk)) (YAr (f:=fun j=>nI (T k j)) (g:=fun j=>nI (T k j)) _ fun p _=>YZ rfl)
 rw [YLm fun a b ha hb=>hT.old a b ha hb] at f1
 exact (Yt [some (YK ws),none,none,none,none,none,none,none] rfl rfl b (by simp) (by simp; exact List.all_eq_true.mp hσ) f1).trans (by simp)
theorem YMo {ws:List (List Nat)} (hw:Five ws):Met (wD ws) where
 self i hi:=YIk (hw.at hi).1.2.1
 symm i j hi hj:=YKW (hw.at hi).1.2.1 (hw.at hj).1.2.1
 tri i j k hi hj hk:=(YEx (hw.at hi).1.2.1 (hw.at hj).1.2.1).tri (YEx (hw.at hj).1.2.1 (hw.at hk).1.2.1) (YEx (hw.at hi).1.2.1 (hw.at hk).1.2.1)
theorem YPZ (p:Nat→Bool):∃ m,m<32∧bits m=(List.range 5).filter p:=by
 have e:(List.range 5).filter p=[0,1,2,3,4].filter p:=rfl
 rw [e]
 simp only [List.filter_cons,List.filter_nil]
 generalize p 0=a
 generalize p 1=b
 generalize p 2=c
 generalize p 3=d
 generalize p 4=e
 refine ⟨(if a then 1 else 0)+(if b then 2 else 0)+(if c then 4 else 0)+(if d then 8 else 0)+(if e then 16 else 0),?_⟩
 revert a b c d e
 decide +kernel
theorem YHE {b:List Nat} {l k v:Nat} (h:l<b.length):(b.set l v).getD k 0=if l=k then v else b.getD k 0:=by
 simp only [List.getD,List.getElem?_set]
 by_cases q:l=k
 ·subst q
  rw [if_pos rfl,if_pos h,if_pos rfl]
  rfl
 ·rw [if_neg q,if_neg q]
theorem YCA (D:Nat→Nat→Nat):∀ K,(∀ m,1≤m→m≤K→(bests D K).getD (bits m).length 0≤rc D (bits m))∧∀ k,k<6→((bests D K).getD k 0=9∨∃ m,1≤m∧m≤K∧(bits m).length=k∧(bests D K).getD k 0=rc D (bits m))
 | 0=>⟨fun m h1 h2=>by exact Ze141 h1 h2,fun k hk=>by
   rcases k with _ | _ | _ | _ | _ | _ | k
   ·exact .inl rfl
   ·exact .inl rfl
   ·exact .inl rfl
   ·exact .inl rfl
   ·exact .inl rfl
   ·exact .inl rfl
   ·lia⟩
 | K+1=>by
  obtain ⟨h1,h2⟩:=YCA D K
  have l:=YCj D K
  have lb:=YED (K+1)
  rw [YDy]
  unfold bstep
  refine ⟨fun m m1 m2=>?_,fun k hk=>?_⟩
  ·rw [YHE (by exact Ze111 l lb)]
   by_cases q:m=K+1
   ·subst q
    rw [if_pos rfl]
    exact Ze142
   ·have:=h1 m m1 (by exact Ze143 q m2)
    split
    ·rename_i z
     rw [z]
     exact Ze144 this
    ·exact this
  ·rw [YHE (by exact Ze111 l lb)]
   split
   ·rename_i z
    rw [z]
    rcases Nat.le_total ((bests D K).getD k 0) (rc D (bits (K+1))) with q | q
    ·rw [Nat.min_eq_left q]
     rcases h2 k hk with z | ⟨m,a,b,c,d⟩
     ·exact .inl z
     ·exact .inr ⟨m,a,by exact Ze29 b,c,d⟩
    ·rw [Nat.min_eq_right q]
     exact .inr ⟨K+1,by exact Ze145,by exact Ze146,z,rfl⟩
   ·rcases h2 k hk with z | ⟨m,a,b,c,d⟩
    ·exact .inl z
    ·exact .inr ⟨m,a,by exact Ze29 b,c,d⟩
theorem YNd {D:Nat→Nat→Nat} {S:List Nat} (h:S≠[]) {i:Nat} (hi:i<5):∃ c∈S,D i c≤rc D S:=by
 have h1:=(YEE (l:=S.map (D i)) (by simpa using h)).1
 obtain ⟨c,hc,e⟩:=List.mem_map.mp h1
 refine ⟨c,hc,?_⟩
 rw [e]
 exact (YHd (l:=(List.range 5).map fun i=>mnl (S.map (D i))) (by simp)).2 _ (List.mem_map_of_mem (f:=fun i=>mnl (S.map (D i))) (by simpa using hi))
theorem YTP {D:Nat→Nat→Nat} {S:List Nat} {R:Nat} (h:∀ i,i<5→∃ c∈S,D i c≤R):rc D S≤R:=by
 have h1:=(YHd (l:=(List.range 5).map fun i=>mnl (S.map (D i))) (by simp)).1
 obtain ⟨i,hi,e⟩:=List.mem_map.mp h1
 obtain ⟨c,hc,hr⟩:=h i (by simpa using hi)
 have hS:S≠[]:=fun q=>by rw [q] at hc; cases hc
 unfold rc
 rw [←e]
 have:=(YEE (l:=S.map (D i)) (by simpa using hS)).2 _ (List.mem_map_of_mem (f:=D i) hc)
 exact Nat.le_trans this hr
theorem YPW {D:Nat→Nat→Nat} {P:List Nat} {R:Nat} (hn:P.Nodup) (h5:∀ c∈P,c<5) (h0:P≠[]) (h:∀ i,i<5→∃ c∈P,D i c≤R):(bests D 31).getD P.length 0≤R:=by
 obtain ⟨m,hm,e⟩:=YPZ (fun i=>decide (i∈P))
 have mem:∀ c,c∈bits m↔c∈P:=fun c=>by
  rw [e,List.mem_filter,List.mem_range,decide_eq_true_eq]
  exact ⟨fun q=>q.2,fun q=>⟨h5 c q,q⟩⟩
 have nd:(bits m).Nodup:=by
  unfold bits
  exact (List.filter_sublist).nodup List.nodup_range
 have hp:(bits m).Perm P:=(List.perm_ext_iff_of_nodup nd hn).mpr mem
 have hm0:1≤m:=by
  rcases m with _ | m
  ·exfalso
   obtain ⟨c,r⟩:=P
   ·exact h0 rfl
   ·rename_i c r
    have:=(mem c).mpr (by simp)
    have z:bits 0=[]:=by decide
    rw [z] at this
    cases this
  ·exact Ze145
 have:=(YCA D 31).1 m hm0 (by exact Ze147 hm)
 rw [hp.length_eq] at this
 exact Nat.le_trans this (YTP fun i hi=>by
  obtain ⟨c,hc,q⟩:=h i hi
  exact ⟨c,(mem c).mpr hc,q⟩)
theorem YQV {D:Nat→Nat→Nat} (M:Met D) {r:List (Nat×Nat)} (h:Greedy D [] [0,1,2,3,4] r) {k:Nat} {x:Nat×Nat} (hx:r[k]?=some x) (hk:k<6):x.1≤2*(bests D 31).getD k 0:=by
 rcases (YCA D 31).2 k hk with q | ⟨m,m1,m2,hl,q⟩
 ·rw [q]
  have:=(h.all.2 k x hx).1
  have:=YHY D ([]++(r.take k).map (·.2)) x.2
  exact Ze148 ‹_› this
 ·rw [q]
  exact gonzalez M h hx (by exact Ze149 hl) (fun c hc=>YJL hc) fun i hi=>YNd (by
   have:=YIx ⟨m-1,by exact Ze150 m2⟩
   rwa [show m-1+1=m by exact Ze151 m1] at this) hi
theorem Greedy.five {D:Nat→Nat→Nat} {r:List (Nat×Nat)} (h:Greedy D [] [0,1,2,3,4] r):r.length=5:=by
 have:=(List.perm_ext_iff_of_nodup h.nodup (by decide:([0,1,2,3,4]:List Nat).Nodup)).mpr h.all.1
 have:=this.length_eq
 simpa using this
theorem YLF {D:Nat→Nat→Nat} (M:Met D) (h9:∀ i j,i<5→j<5→D i j≤9) {r:List (Nat×Nat)} (h:Greedy D [] [0,1,2,3,4] r) {k:Nat} (hk:k<5) (R:Nat) (hR:R=((r[k+1]?).map (·.1)).getD 0):(bests D 31).getD (k+1) 0≤R:=by
 obtain ⟨a1,a2⟩:=h.all
 have l5:=h.five
 have hl:((r.take (k+1)).map (·.2)).length=k+1:=by rw [List.length_map,List.length_take]; exact Ze152 hk l5
 have nd:((r.take (k+1)).map (·.2)).Nodup:=by
  rw [List.map_take]
  exact (List.take_sublist ..).nodup h.nodup
 have m5:∀ c∈(r.take (k+1)).map (·.2),c<5:=fun c hc=>by
  rw [List.map_take] at hc
  have:=(a1 c).mp (List.mem_of_mem_take hc)
  simp at this
  lia
 have:=YPW (D:=D) (R:=R) nd m5 (by intro q; rw [q] at hl; simp at hl) fun i hi=>?_
 ·rwa [hl] at this
 ·by_cases q:i∈(r.take (k+1)).map (·.2)
  ·exact ⟨i,q,by rw [M.self i hi]; exact Nat.zero_le _⟩
  ·rcases Nat.lt_or_ge (k+1) 5 with z | z
   ·obtain ⟨x,hx⟩:∃ x,r[k+1]?=some x:=⟨_,List.getElem?_eq_getElem (by exact Ze153 z l5)⟩
    have b:=(a2 (k+1) x hx).2 i (by simp; lia) q
    rw [hx] at hR
    simp only [Option.map_some,Option.getD_some] at hR
    rw [List.nil_append] at b
    rcases YHg D ((r.take (k+1)).map (·.2)) i with e | ⟨c,hc,e⟩
    ·obtain ⟨c,hc⟩:∃ c,c∈(r.take (k+1)).map (·.2):=List.exists_mem_of_length_pos (by exact Ze154 hl)
     exact ⟨c,hc,by have:=h9 i c hi (m5 c hc); exact Ze155 e b hR this⟩
    ·exact ⟨c,hc,by exact Ze156 e b hR⟩
   ·exfalso
    have:k+1=5:=by exact Ze157 z hk
    rw [this,List.take_of_length_le (by exact Ze158 l5)] at q
    exact q ((a1 i).mpr (by simp; lia))
noncomputable def lefts (P:List Nat):List Nat:=([0,1,2,3,4]:List Nat).filter fun y=>decide (y∉P)
noncomputable def ent (D:Nat→Nat→Nat) (P:List Nat) (s:Nat→Nat) (y:Nat):Pr:=(-((mt D (P.take (s y)) y:Nat):Int),(y:Int))
noncomputable def outP (W:Nat→List Nat) (P:List Nat):List (List Nat×List Nat):=(List.range P.length).flatMap fun k=>(P.take k).map fun c=>(W (P.getD k 0),W c)
noncomputable def rdP (W:Nat→List Nat) (P:List Nat) (s:Nat→Nat) (y:Nat):List (List Nat×List Nat):=(P.take (s y)).map fun c=>(W y,W c)
noncomputable def msr (P:List Nat) (s:Nat→Nat):Nat:=((lefts P).map fun y=>6-s y).sum
theorem YCd {α β:Type} {f g:α→List β} {l:List α} (h:∀ x∈l,f x=g x):l.flatMap f=l.flatMap g:=by
 rw [List.flatMap_def,List.flatMap_def,List.map_congr_left h]
theorem YAu (P:List Nat):(lefts P).Nodup:=by
 unfold lefts
 exact (List.filter_sublist).nodup (by decide)
theorem Yy {P:List Nat} {y:Nat}:y∈lefts P↔y<5∧y∉P:=by
 unfold lefts
 rw [List.mem_filter,decide_eq_true_eq]
 have:y∈([0,1,2,3,4]:List Nat)↔y<5:=by simp; lia
 rw [this]
theorem YAP (P:List Nat) (i:Nat):lefts (P++[i])=(lefts P).filter fun y=>decide (y≠i):=by
 unfold lefts
 rw [List.filter_filter]
 refine List.filter_congr fun y _=>?_
 by_cases q:y=i <;> by_cases z:y∈P <;> simp [q,z]
theorem YAe {L:List Nat} {i:Nat} (hn:L.Nodup) (hi:i∈L):L.Perm (i::L.filter fun y=>decide (y≠i)):=by
 refine (List.perm_ext_iff_of_nodup hn ?_).mpr fun a=>?_
 ·rw [List.nodup_cons]
  refine ⟨fun q=>?_,(List.filter_sublist).nodup hn⟩
  have:=(List.mem_filter.mp q).2
  simp at this
 ·rw [List.mem_cons,List.mem_filter,decide_eq_true_eq]
  constructor
  ·intro h
   by_cases q:a=i
   ·exact .inl q
   ·exact .inr ⟨h,q⟩
  ·rintro (rfl | ⟨h,_⟩)
   ·exact hi
   ·exact h
set_option genInjectivity false in
structure AI (D:Nat→Nat→Nat) (W:Nat→List Nat) (out:List (Nat×Nat)) (s:Nat→Nat) (l:List Pr) (asked:List (List Nat×List Nat)):Prop where
 len:out.length+(lefts (out.map (·.2))).length=5
 sle:∀ y∈lefts (out.map (·.2)),s y≤out.length
 heap:l.Perm ((lefts (out.map (·.2))).map (ent D (out.map (·.2)) s))
 ho:HO l
 greedy:∀ r,Greedy D (out.map (·.2)) (lefts (out.map (·.2))) r→Greedy D [] [0,1,2,3,4] (out++r)
 ask:asked.Perm (outP W (out.map (·.2))++(lefts (out.map (·.2))).flatMap (rdP W (out.map (·.2)) s))
section
variable {D:Nat→Nat→Nat} {W:Nat→List Nat} {out:List (Nat×Nat)} {s:Nat→Nat} {x:Pr} {l r:List Pr} {asked:List (List Nat×List Nat)} {i:Nat}
theorem AI.top (h:AI D W out s (x::r) asked):∃ i,i∈lefts (out.map (·.2))∧x=ent D (out.map (·.2)) s i:=by
 have:=h.heap.mem_iff.mp (List.mem_cons_self (a:=x) (l:=r))
 obtain ⟨i,hi,e⟩:=List.mem_map.mp this
 exact ⟨i,hi,e.symm⟩
theorem AI.rest (h:AI D W out s (x::r) asked) (hi:i∈lefts (out.map (·.2))) (hx:x=ent D (out.map (·.2)) s i):r.Perm (((lefts (out.map (·.2))).filter fun y=>decide (y≠i)).map (ent D (out.map (·.2)) s)):=by
 have p:=h.heap.trans ((YAe (YAu _) hi).map (ent D (out.map (·.2)) s))
 rw [List.map_cons,←hx] at p
 exact p.cons_inv
theorem AI.pick (h:AI D W out s (x::r) asked) (hi:i∈lefts (out.map (·.2))) (hx:x=ent D (out.map (·.2)) s i) (hs:s i=out.length):Pick D (out.map (·.2)) (lefts (out.map (·.2))) (mt D (out.map (·.2)) i,i):=by
 refine ⟨hi,rfl,fun y hy=>?_⟩
 have hle:=YQy h.ho
 have ht:(out.map (·.2)).take (s i)=out.map (·.2):=List.take_of_length_le (by rw [List.length_map]; exact Ze159 hs)
 by_cases q:y=i
 ·subst q
  exact ⟨Nat.le_refl _,fun _=>Nat.le_refl _⟩
 ·have hm:ent D (out.map (·.2)) s y∈r:=(h.rest hi hx).mem_iff.mpr (List.mem_map_of_mem (List.mem_filter.mpr ⟨hy,decide_eq_true q⟩))
  have hl:=hle _ hm
  have hl:ltP (ent D (out.map (·.2)) s y) x=false:=hl
  rw [YHT,hx] at hl
  have st:mt D (out.map (·.2)) y≤mt D ((out.map (·.2)).take (s y)) y:=YKd fun c hc=>List.mem_of_mem_take hc
  simp only [ent,ht] at hl
  simp only
  refine ⟨by lia,fun e=>by lia⟩
theorem YJG (W:Nat→List Nat) (P:List Nat) (i:Nat):outP W (P++[i])=outP W P++P.map fun c=>(W i,W c):=by
 unfold outP
 rw [List.length_append,List.length_singleton,List.range_succ,List.flatMap_append]
 congr 1
 ·refine YCd fun k hk=>?_
  have hk:k<P.length:=by simpa using hk
  rw [List.take_append_of_le_length (by exact Nat.le_of_lt (by assumption))]
  have:(P++[i]).getD k 0=P.getD k 0:=by
   simp only [List.getD]
   rw [List.getElem?_append_left hk]
  rw [this]
 ·simp [List.getD]
theorem AI.pop (h:AI D W out s (x::r) asked) (hi:i∈lefts (out.map (·.2))) (hx:x=ent D (out.map (·.2)) s i) (hs:s i=out.length) (ho':HO l) (hp:l.Perm r):AI D W (out++[(mt D (out.map (·.2)) i,i)]) s l asked:=by
 have pk:=YAe (YAu (out.map (·.2))) hi
 have e:(out++[(mt D (out.map (·.2)) i,i)]).map (·.2)=out.map (·.2)++[i]:=by simp
 have tk:∀ y∈(lefts (out.map (·.2))).filter (fun y=>decide (y≠i)),(out.map (·.2)++[i]).take (s y)=(out.map (·.2)).take (s y):=fun y hy=>by
  have:=h.sle y (List.mem_filter.mp hy).1
  rw [List.take_append_of_le_length (by rw [List.length_map]; exact this)]
 refine ⟨?_,?_,?_,ho',?_,?_⟩
 ·rw [e,YAP]
  have:=pk.length_eq
  have:=h.len
  simp only [List.length_cons,List.length_append,List.length_nil] at *
  exact Ze160 this ‹_›
 ·intro y hy
  rw [e,YAP] at hy
  have:=h.sle y (List.mem_filter.mp hy).1
  rw [List.length_append]
  exact Ze161 this
 ·rw [e,YAP]
  refine (hp.trans (h.rest hi hx)).trans (List.Perm.of_eq ?_)
  refine List.map_congr_left fun y hy=>?_
  unfold ent
  rw [tk y hy]
 ·intro q hq
  rw [e,YAP] at hq
  have:=h.greedy _ (.cons (h.pick hi hx hs) hq)
  simpa using this
 ·rw [e,YAP,YJG]
  have e2:((lefts (out.map (·.2))).filter fun y=>decide (y≠i)).flatMap (rdP W (out.map (·.2)++[i]) s)=((lefts (out.map (·.2))).filter fun y=>decide (y≠i)).flatMap (rdP W (out.map (·.2)) s):=YCd fun y hy=>by
   unfold rdP
   rw [tk y hy]
  rw [e2]
  have p2:=pk.flatMap_right (rdP W (out.map (·.2)) s)
  rw [List.flatMap_cons] at p2
  have e3:rdP W (out.map (·.2)) s i=(out.map (·.2)).map fun c=>(W i,W c):=by
   unfold rdP
   rw [List.take_of_length_le (by rw [List.length_map]; exact Ze159 hs)]
  rw [e3] at p2
  rw [List.append_assoc]
  exact h.ask.trans (p2.append_left _)
noncomputable def updS (s:Nat→Nat) (i v:Nat):Nat→Nat:=fun y=>if y=i then v else s y
theorem AI.read (h:AI D W out s (x::r) asked) (hi:i∈lefts (out.map (·.2))) (hx:x=ent D (out.map (·.2)) s i) {c:Nat} (hc:(out.map (·.2))[s i]?=some c) (ho':HO l) (hp:l.Perm ((-((min (mt D ((out.map (·.2)).take (s i)) i) (D i c):Nat):Int),(i:Int))::r)):AI D W out (updS s i (s i+1)) l (asked++[(W i,W c)]):=by
 have pk:=YAe (YAu (out.map (·.2))) hi
 have hsl:s i<out.length:=by
  have:=(List.getElem?_eq_some_iff.mp hc).1
  rwa [List.length_map] at this
 have ts:(out.map (·.2)).take (s i+1)=(out.map (·.2)).take (s i)++[c]:=by
  rw [List.take_succ,hc]
  rfl
 have old:∀ y∈(lefts (out.map (·.2))).filter (fun y=>decide (y≠i)),updS s i (s i+1) y=s y:=fun y hy=>by
  unfold updS
  rw [if_neg (by simpa using (List.mem_filter.mp hy).2)]
 have new:updS s i (s i+1) i=s i+1:=by unfold updS; rw [if_pos rfl]
 refine ⟨h.len,?_,?_,ho',h.greedy,?_⟩
 ·intro y hy
  unfold updS
  split
  ·exact Ze72 hsl
  ·exact h.sle y hy
 ·refine (hp.trans ?_).trans (pk.map (ent D (out.map (·.2)) (updS s i (s i+1)))).symm
  rw [List.map_cons]
  have e1:ent D (out.map (·.2)) (updS s i (s i+1)) i=(-((min (mt D ((out.map (·.2)).take (s i)) i) (D i c):Nat):Int),(i:Int)):=by
   unfold ent
   rw [new,ts,YOt]
  rw [e1]
  refine List.Perm.cons _ ((h.rest hi hx).trans (List.Perm.of_eq ?_))
  refine List.map_congr_left fun y hy=>?_
  unfold ent
  rw [old y hy]
 ·have p1:=pk.flatMap_right (rdP W (out.map (·.2)) s)
  have p2:=pk.flatMap_right (rdP W (out.map (·.2)) (updS s i (s i+1)))
  rw [List.flatMap_cons] at p1 p2
  have e2:((lefts (out.map (·.2))).filter fun y=>decide (y≠i)).flatMap (rdP W (out.map (·.2)) (updS s i (s i+1)))=((lefts (out.map (·.2))).filter fun y=>decide (y≠i)).flatMap (rdP W (out.map (·.2)) s):=YCd fun y hy=>by
   unfold rdP
   rw [old y hy]
  have e3:rdP W (out.map (·.2)) (updS s i (s i+1)) i=rdP W (out.map (·.2)) s i++[(W i,W c)]:=by
   unfold rdP
   rw [new,ts,List.map_append]
   rfl
  rw [e2,e3] at p2
  refine (h.ask.append_right [(W i,W c)]).trans ?_
  rw [List.append_assoc]
  refine List.Perm.append_left _ (((p1.append_right _).trans ?_).trans p2.symm)
  rw [List.append_assoc,List.append_assoc]
  exact List.Perm.append_left _ List.perm_append_comm
theorem YOa (P:List Nat) (s:Nat→Nat) (hi:i∈lefts P) (h:s i≤5):msr (P++[i]) s<msr P s:=by
 have p:=((YAe (YAu P) hi).map fun y=>6-s y).sum_nat
 rw [List.map_cons,List.sum_cons] at p
 unfold msr
 rw [YAP]
 exact Ze162 p h
theorem YLJ (P:List Nat) (s:Nat→Nat) (hi:i∈lefts P) (h:s i≤5):msr P (updS s i (s i+1))<msr P s:=by
 have p:=((YAe (YAu P) hi).map fun y=>6-s y).sum_nat
 have q:=((YAe (YAu P) hi).map fun y=>6-updS s i (s i+1) y).sum_nat
 rw [List.map_cons,List.sum_cons] at p q
 have e:((lefts P).filter fun y=>decide (y≠i)).map (fun y=>6-updS s i (s i+1) y)=((lefts P).filter fun y=>decide (y≠i)).map fun y=>6-s y:=List.map_congr_left fun y hy=>by
  unfold updS
  rw [if_neg (by simpa using (List.mem_filter.mp hy).2)]
 rw [e] at q
 have new:updS s i (s i+1) i=s i+1:=by unfold updS; rw [if_pos rfl]
 simp only [new] at q
 unfold msr
 exact Ze163 q h p
end
theorem AI.start (D:Nat→Nat→Nat) (W:Nat→List Nat):AI D W [] (fun _=>0) heap0 [] where
 len:=rfl
 sle y _:=Nat.le_refl _
 heap:=List.Perm.refl _
 ho:=YLW
 greedy r hr:=hr
 ask:=List.Perm.refl _
theorem AI.done {D:Nat→Nat→Nat} {W:Nat→List Nat} {out:List (Nat×Nat)} {s:Nat→Nat} {asked:List (List Nat×List Nat)} (h:AI D W out s [] asked):Greedy D [] [0,1,2,3,4] out∧asked.Perm (outP W (out.map (·.2))):=by
 have z:lefts (out.map (·.2))=[]:=by
  have:=h.heap.length_eq
  simp only [List.length_nil,List.length_map] at this
  exact List.length_eq_zero_iff.mp this.symm
 have g:=h.greedy []
 have a:=h.ask
 rw [z] at g a
 refine ⟨by simpa using g .nil,by simpa using a⟩
noncomputable def postΦ:Tab:=Yn [(112,YAS),(35,YBF),(77,YS),(21,YBH),(84,YAJ),(105,YIY),(28,Yz)]
section
variable {as:List AV} {σ:List AO}
theorem YRX:postΦ 112 as σ=YAS as σ:=by simp [postΦ,Yn]
theorem YTd:postΦ 35 as σ=YBF as σ:=by simp [postΦ,Yn]
theorem YRk:postΦ 77 as σ=YS as σ:=by simp [postΦ,Yn]
theorem YTV:postΦ 21 as σ=YBH as σ:=by simp [postΦ,Yn]
theorem YUH:postΦ 84 as σ=YAJ as σ:=by simp [postΦ,Yn]
theorem YRl:postΦ 105 as σ=YIY as σ:=by simp [postΦ,Yn]
theorem YUO:postΦ 28 as σ=Yz as σ:=by simp [postΦ,Yn]
end
noncomputable def tupS (x:List Nat×List Nat):AV:=.tup [.str x.1,.str x.2]
abbrev Qs:=Nat→List (List Nat)
noncomputable def updQ (Q:Qs) (i:Nat) (v:List (List Nat)):Qs:=fun y=>if y=i then v else Q y
noncomputable def qSt (Q:Qs) (l:List Pr) (out:List (Nat×Nat)) (asked:List (List Nat×List Nat)) (n:Nat):List AO:=
 [.list ((Q 0).map .str),.lexer [] 0 1 (n+0),.list ((Q 1).map .str),.lexer [] 0 1 (n+2),.list ((Q 2).map .str),.lexer [] 0 1 (n+4),.list ((Q 3).map .str),.lexer [] 0 1 (n+6),.list ((Q 4).map .str),.lexer [] 0 1 (n+8),.list (l.map pr),.list (out.map tupN),.list (asked.map tupS)]
section
variable {σ:List AO} {Q:Qs} {l:List Pr} {out:List (Nat×Nat)} {asked:List (List Nat×List Nat)} {k:Nat}
theorem YRh (n:Nat):(qSt Q l out asked n).length=13:=rfl
theorem YLq {Q':Qs} {n:Nat} (h:∀ z,z<5→Q z=Q' z):qSt Q l out asked n=qSt Q' l out asked n:=by
 unfold qSt
 rw [h 0 (by exact Ze164),h 1 (by exact Ze165),h 2 (by exact Ze166),h 3 (by exact Ze167),h 4 (by exact Ze168)]
theorem YTZ (hk:k<5):(σ++qSt Q l out asked σ.length)[σ.length+2*k]?=some (.list ((Q k).map .str)):=by
 rw [YBG]
 rcases k with _ | _ | _ | _ | _ | k
 ·rfl
 ·rfl
 ·rfl
 ·rfl
 ·rfl
 ·lia
theorem YOW (hk:k<5):(σ++qSt Q l out asked σ.length)[σ.length+(2*k+1)]?=some (.lexer [] 0 1 (σ.length+2*k)):=by
 rw [YBG]
 rcases k with _ | _ | _ | _ | _ | k
 ·rfl
 ·rfl
 ·rfl
 ·rfl
 ·rfl
 ·lia
theorem YQZ:(σ++qSt Q l out asked σ.length)[σ.length+10]?=some (.list (l.map pr)):=by rw [YBG]; rfl
theorem YTr:(σ++qSt Q l out asked σ.length)[σ.length+11]?=some (.list (out.map tupN)):=by rw [YBG]; rfl
theorem YUP:(σ++qSt Q l out asked σ.length)[σ.length+12]?=some (.list (asked.map tupS)):=by rw [YBG]; rfl
theorem YKo (hk:k<5) (v:List (List Nat)):(σ++qSt Q l out asked σ.length).set (σ.length+2*k) (.list (v.map .str))=σ++qSt (updQ Q k v) l out asked σ.length:=by
 rw [YCF]
 congr 1
 rcases k with _ | _ | _ | _ | _ | k
 ·rfl
 ·rfl
 ·rfl
 ·rfl
 ·rfl
 ·lia
theorem YIu (l':List Pr):(σ++qSt Q l out asked σ.length).set (σ.length+10) (.list (l'.map pr))=σ++qSt Q l' out asked σ.length:=by rw [YCF]; rfl
theorem YOu (o':List (Nat×Nat)):(σ++qSt Q l out asked σ.length).set (σ.length+11) (.list (o'.map tupN))=σ++qSt Q l o' asked σ.length:=by rw [YCF]; rfl
theorem YNL (a':List (List Nat×List Nat)):(σ++qSt Q l out asked σ.length).set (σ.length+12) (.list (a'.map tupS))=σ++qSt Q l out a' σ.length:=by rw [YCF]; rfl
theorem YDC {α:Type} {n:Nat} {f:α→AV} (h:∀ x,noLoc n (f x)=true) (l:List α):aoOk n (.list (l.map f))=true:=by
 show noLocs _ _=true
 rw [Yg,List.all_map,List.all_eq_true]
 intro x _
 exact h x
theorem YHp (hσ:Ok σ):Ok (σ++qSt Q l out asked σ.length):=by
 refine YDi hσ ?_
 rw [YRh]
 have s:∀ (q:List (List Nat)),aoOk (σ.length+13) (.list (q.map .str))=true:=YDC fun x=>rfl
 have p:aoOk (σ.length+13) (.list (l.map pr))=true:=YDC (fun x=>YBs _ x) l
 have o:aoOk (σ.length+13) (.list (out.map tupN))=true:=YDC (fun x=>rfl) out
 have a:aoOk (σ.length+13) (.list (asked.map tupS))=true:=YDC (fun x=>rfl) asked
 have x:∀ j,j<13→aoOk (σ.length+13) (.lexer [] 0 1 (σ.length+j))=true:=fun j hj=>decide_eq_true (by exact Ze169 hj)
 unfold qSt
 rw [List.all_cons,s,List.all_cons,x 0 (by exact Ze170),List.all_cons,s,List.all_cons,x 2 (by exact Ze171),List.all_cons,s,List.all_cons,x 4 (by exact Ze172),List.all_cons,s,List.all_cons,x 6 (by exact Ze173),List.all_cons,s,List.all_cons,x 8 (by exact Ze174),List.all_cons,p,List.all_cons,o,List.all_cons,a]
 rfl
end
noncomputable def linesV (n:Nat):AV:=.lst ((List.range 5).map fun k=>.loc (n+(2*k+1)))
theorem YEJ {σ:List AO} {n i:Nat} (hi:i<5):subA σ (linesV n) (nI i)=some (.loc (n+(2*i+1))):=by
 unfold linesV nI
 rw [YBv (by exact Nat.lt_of_lt_of_le (by assumption) (by decide)),List.getElem?_map,List.getElem?_range hi]
 rfl
noncomputable def pb1:S:=.unp 5 6 (.sub (.var 2) (.int 0))
noncomputable def pb2:S:=.asg 7 (.lm 77 (.sub (.var 1) (.var 6)) .nil)
noncomputable def YTz:S:=.expr (.call 21 (.cons (.var 2) .nil))
noncomputable def YTL:S:=.expr (.me .append (.var 3) (.cons (.tup (.cons (.neg (.var 5)) (.cons (.var 6) .nil))) .nil))
noncomputable def YNU:Ss:=.cons (.expr (.lm 84 (.sub (.var 1) (.sub (.var 8) (.int 1))) (.cons (.sub (.var 0) (.var 6)) .nil))) .nil
noncomputable def YUU:S:=.for_ 8 (.var 2) YNU
noncomputable def popB:Ss:=.cons YTz (.cons YTL (.cons YUU .nil))
noncomputable def YUL:S:=.expr (.me .append (.var 4) (.cons (.tup (.cons (.sub (.var 0) (.var 6)) (.cons (.var 7) .nil))) .nil))
noncomputable def YTp:S:=.asg 9 (.call 105 (.cons (.sub (.var 0) (.var 6)) (.cons (.var 7) (.cons (.bin .Sub (.neg (.var 5)) (.int 1)) .nil))))
noncomputable def YSl:S:=.ite (.cmp .LtE (.var 9) (.bin .Sub (.neg (.var 5)) (.int 1))) (.cons (.expr (.call 28 (.cons (.var 2) (.cons (.tup (.cons (.neg (.var 9)) (.cons (.var 6) .nil))) .nil)))) .nil) .nil
noncomputable def readB:Ss:=.cons YUL (.cons YTp (.cons YSl .nil))
noncomputable def pb3:S:=.ite (.cmp .Eq (.var 7) (.str [])) popB readB
noncomputable def ptT:T:=.cmp .NotEq (.var 2) (.lst false .nil)
noncomputable def postBB:Ss:=.cons pb1 (.cons pb2 (.cons pb3 .nil))
section
variable {Φ:Tab} {σ τ:List AO} {v0 v1 v2 v3 v4 v5 v6 v7 v8 v9:Option AV}
theorem YNi {h a b:AV} (h1:subA σ h (.int 0)=some (.tup [a,b])):exS Φ pb1 [v0,v1,some h,v3,v4,v5,v6,v7,v8,v9] σ=some (.next,[v0,v1,some h,v3,v4,some a,some b,v7,v8,v9],σ):=by
 exact wS fun k=>k h1 rfl
theorem YJS {L i t:AV} {n p pos:Nat} {line:Int} {text:List Nat} (h1:subA σ L i=some (.loc n)) (h2:σ[n]?=some (.lexer text pos line p)) (h3:Φ 77 [.loc n] σ=some (t,τ)):exS Φ pb2 [v0,some L,v2,v3,v4,v5,some i,v7,v8,v9] σ=some (.next,[v0,some L,v2,v3,v4,v5,some i,some t,v8,v9],τ):=by
 exact wS fun k=>k h1 h2 h3
theorem YMZ {h r:AV} (h1:Φ 21 [h] σ=some (r,τ)):exS Φ YTz [v0,v1,some h,v3,v4,v5,v6,v7,v8,v9] σ=some (.next,[v0,v1,some h,v3,v4,v5,v6,v7,v8,v9],τ):=by
 exact wS fun k=>k h1
theorem YLf {o i r:AV} {p:Int} (h2:meOk σ .append o=true) (h3:meA σ .append o [.tup [.int (-p),i]]=some (r,τ)):exS Φ YTL [v0,v1,v2,some o,v4,some (.int p),some i,v7,v8,v9] σ=some (.next,[v0,v1,v2,some o,v4,some (.int p),some i,v7,v8,v9],τ):=by
 have l2:[AV.int (-p),i].length≤lim:=by show 2≤1000000; exact Ze74
 exact wS fun k=>k h2 l2 h3
theorem YLE {L W i j o w r:AV} {n p pos:Nat} {line:Int} {text:List Nat} (h0:subA σ o (.int 1)=some j) (h1:subA σ L j=some (.loc n)) (h2:σ[n]?=some (.lexer text pos line p)) (h3:subA σ W i=some w) (h4:Φ 84 [.loc n,w] σ=some (r,τ)):
  exSs Φ YNU [some W,some L,v2,v3,v4,v5,some i,v7,some o,v9] σ=some (.next,[some W,some L,v2,v3,v4,v5,some i,v7,some o,v9],τ):=by
 exact wSs fun k=>k h0 h1 h2 h3 h4
theorem YMR {a W i w t r:AV} (h1:subA σ W i=some w) (h2:meOk σ .append a=true) (h3:meA σ .append a [.tup [w,t]]=some (r,τ)):exS Φ YUL [some W,v1,v2,v3,some a,v5,some i,some t,v8,v9] σ=some (.next,[some W,v1,v2,v3,some a,v5,some i,some t,v8,v9],τ):=by
 have l2:[w,t].length≤lim:=by show 2≤1000000; exact Ze74
 exact wS fun k=>k h2 h1 l2 h3
theorem YKx {W i w t v:AV} {p:Int} (h1:subA σ W i=some w) (h3:Φ 105 [w,t,.int (-p-1)] σ=some (v,σ)):exS Φ YTp [some W,v1,v2,v3,v4,some (.int p),some i,some t,v8,v9] σ=some (.next,[some W,v1,v2,v3,v4,some (.int p),some i,some t,v8,some v],σ):=by
 exact wS fun k=>k h1 YEt h3
theorem YNX {p v:Int} {t:Bool} (h:decide (v ≤ -p-1)=false):exS Φ YSl [v0,v1,v2,v3,v4,some (.int p),v6,v7,v8,some (.int v)] σ=some (.next,[v0,v1,v2,v3,v4,some (.int p),v6,v7,v8,some (.int v)],σ):=by
 exact wS fun k=>k YEt (YTx.trans (congrArg some h))
theorem YLw {p v:Int} {h i r:AV} (h1:decide (v ≤ -p-1)=true) (h2:Φ 28 [h,.tup [.int (-v),i]] σ=some (r,τ)):exS Φ YSl [v0,v1,some h,v3,v4,some (.int p),some i,v7,v8,some (.int v)] σ=some (.next,[v0,v1,some h,v3,v4,some (.int p),some i,v7,v8,some (.int v)],τ):=by
 have l2:[AV.int (-v),i].length≤lim:=by show 2≤1000000; exact Ze74
 exact wS fun k=>k YEt (YTx.trans (congrArg some h1)) l2 h2
theorem YPb {t:AV} {b:Bool} (h:cmpA σ .Eq t (.str [])=some true):exS Φ pb3 [v0,v1,v2,v3,v4,v5,v6,some t,v8,v9] σ=exSs Φ popB [v0,v1,v2,v3,v4,v5,v6,some t,v8,v9] σ:=by
 have e:evT Φ (.cmp .Eq (.var 7) (.str [])) [v0,v1,v2,v3,v4,v5,v6,some t,v8,v9] σ=some (true,σ):=by exact wT fun k=>k h
 unfold pb3
 rw [YRc,e]
 rfl
theorem YMX {t:AV} {b:Bool} (h:cmpA σ .Eq t (.str [])=some false):exS Φ pb3 [v0,v1,v2,v3,v4,v5,v6,some t,v8,v9] σ=exSs Φ readB [v0,v1,v2,v3,v4,v5,v6,some t,v8,v9] σ:=by
 have e:evT Φ (.cmp .Eq (.var 7) (.str [])) [v0,v1,v2,v3,v4,v5,v6,some t,v8,v9] σ=some (false,σ):=by exact wT fun k=>k h
 unfold pb3
 rw [YRc,e]
 rfl
theorem YOQ {h:AV} {b:Bool} (h1:cmpA σ .NotEq h (.lst [])=some b):evT Φ ptT [v0,v1,some h,v3,v4,v5,v6,v7,v8,v9] σ=some (b,σ):=by
 have n0:=YX (σ:=σ) (vs:=[]) (by show 0≤1000000; exact Ze96)
 exact wT fun k=>k n0 h1
end
theorem YUI {α:Type} {Φ:Tab} {b:Ss} {vi:Nat} {it:E} {xs:List α} {e:α→AV} {itv:AV} {ρ:YF} {σ:List AO} (I:Nat→YF→List AO→Prop) (h:evE Φ it ρ σ=some (itv,σ)) (hI:∀ i ρ σ,I i ρ σ→nthA σ itv i=some (xs.map e)[i]?) (ht:turns σ itv=xs.length+1)
  (step:∀ i x ρ σ,xs[i]?=some x→I i ρ σ→∃ ρ' σ',exSs Φ b (ρ.set vi (some (e x))) σ=some (.next,ρ',σ')∧I (i+1) ρ' σ') (h0:I 0 ρ σ):∃ ρ' σ',exS Φ (.for_ vi it b) ρ σ=some (.next,ρ',σ')∧I xs.length ρ' σ':=by
 have go:∀ (k i:Nat) (ρ:YF) (σ:List AO),i+k=xs.length→I i ρ σ→∃ ρ' σ',forGo (fun v ρ σ=>exSs Φ b (ρ.set vi (some v)) σ) itv (k+1) i ρ σ=some (.next,ρ',σ')∧I xs.length ρ' σ':=by
  intro k
  induction k with
  | zero=>
   intro i ρ σ hk hi
   unfold forGo
   rw [hI _ _ _ hi,List.getElem?_eq_none (by rw [List.length_map]; exact Ze41 hk)]
   have:i=xs.length:=by exact Ze45 hk
   subst this
   exact ⟨_,_,rfl,hi⟩
  | succ k ih=>
   intro i ρ σ hk hi
   have hlt:i<xs.length:=by exact Ze42 hk
   obtain ⟨ρ',σ',e1,e2⟩:=step i _ ρ σ (List.getElem?_eq_getElem hlt) hi
   unfold forGo
   rw [hI _ _ _ hi,List.getElem?_map,List.getElem?_eq_getElem hlt]
   simp only [Option.map_some,e1,Option.bind_some]
   exact ih (i+1) ρ' σ' (by exact Ze43 hk) e2
 rw [YRE,h,Option.bind_some]
 dsimp only
 rw [ht]
 exact go xs.length 0 ρ σ (by exact Ze44) h0
noncomputable def wat (ws:List (List Nat)) (i:Nat):List Nat:=ws.getD i []
noncomputable def Qof (ws:List (List Nat)) (P:List Nat) (s:Nat→Nat):Qs:=fun y=>if y∈P then [] else (P.drop (s y)).map (wat ws)
noncomputable def Qpush (Q:Qs) (w:List Nat) (l:List Pr) (t:Nat):Qs:=fun z=>if (z:Int)∈(l.take t).map (·.2) then Q z++[w] else Q z
theorem YIG {Q:Qs} {w:List Nat} {l:List Pr} (hn:(l.map (·.2)).Nodup) {t j:Nat} {y:Pr} (ht:l[t]?=some y) (hy:y.2=(j:Int)):updQ (Qpush Q w l t) j (Qpush Q w l t j++[w])=Qpush Q w l (t+1):=by
 have e:(l.take (t+1)).map (·.2)=(l.take t).map (·.2)++[(j:Int)]:=by
  rw [List.take_succ,ht,List.map_append]
  simp [hy]
 have hj:(j:Int)∉(l.take t).map (·.2):=by
  have hs:((l.take (t+1)).map (·.2)).Nodup:=by
   rw [List.map_take]
   exact (List.take_sublist ..).nodup hn
  rw [e,List.nodup_append] at hs
  intro q
  exact hs.2.2 _ q _ (by simp) rfl
 funext z
 unfold updQ
 by_cases q:z=j
 ·subst q
  rw [if_pos rfl]
  unfold Qpush
  rw [if_neg hj,e,if_pos (by simp)]
 ·rw [if_neg q]
  unfold Qpush
  rw [e]
  have:((z:Int)∈(l.take t).map (·.2)++[(j:Int)])↔(z:Int)∈(l.take t).map (·.2):=by
   rw [List.mem_append,List.mem_singleton]
   constructor
   ·rintro (h | h)
    ·exact h
    ·lia
   ·exact .inl
  by_cases z2:(z:Int)∈(l.take t).map (·.2)
  ·rw [if_pos z2,if_pos (this.mpr z2)]
  ·rw [if_neg z2,if_neg fun h=>z2 (this.mp h)]
theorem YHl (Q:Qs) (w:List Nat) (l:List Pr):Qpush Q w l 0=Q:=by
 funext z
 unfold Qpush
 rw [List.take_zero,if_neg (by simp)]
theorem YJT {σ:List AO} (hσ:Ok σ) {W i:AV} {v3 v4 v5 v7 v8 v9:Option AV} {wd:List Nat} {Q:Qs} {l:List Pr} {out:List (Nat×Nat)} {asked:List (List Nat×List Nat)} (hl:l.length≤50) (hn:(l.map (·.2)).Nodup) (h5:∀ y∈l,∃ j:Nat,j<5∧y.2=(j:Int)) (hQ:∀ z,z<5→(Q z).length≤100)
  (hw:∀ τ,subA τ W i=some (.str wd)):
  ∃ u8,exS postΦ YUU [some W,some (linesV σ.length),some (.loc (σ.length+10)),v3,v4,v5,some i,v7,v8,v9] (σ++qSt Q l out asked σ.length)=some (.next,[some W,some (linesV σ.length),some (.loc (σ.length+10)),v3,v4,v5,some i,v7,u8,v9],σ++qSt (Qpush Q wd l l.length) l out asked σ.length):=by
 obtain ⟨ρ',σ',e,u8,rfl,rfl⟩:=YUI (Φ:=postΦ) (b:=YNU) (vi:=8) (it:=.var 2) (xs:=l) (e:=pr) (itv:=.loc (σ.length+10)) (ρ:=[some W,some (linesV σ.length),some (.loc (σ.length+10)),v3,v4,v5,some i,v7,v8,v9]) (σ:=σ++qSt Q l out asked σ.length)
  (fun t ρ τ=>∃ u8,ρ=[some W,some (linesV σ.length),some (.loc (σ.length+10)),v3,v4,v5,some i,v7,u8,v9]∧τ=σ++qSt (Qpush Q wd l t) l out asked σ.length) rfl (by
   rintro t ρ τ ⟨u8,rfl,rfl⟩
   exact (YDH YQZ).nth t) (by rw [(YDH YQZ).tn,List.length_map]) (by
   rintro t y ρ τ hy ⟨u8,rfl,rfl⟩
   obtain ⟨j,hj,e⟩:=h5 y (List.mem_of_getElem? hy)
   refine ⟨[some W,some (linesV σ.length),some (.loc (σ.length+10)),v3,v4,v5,some i,v7,some (pr y),v9],σ++qSt (Qpush Q wd l (t+1)) l out asked σ.length,?_,_,rfl,rfl⟩
   have y1:subA (σ++qSt (Qpush Q wd l t) l out asked σ.length) (pr y) (.int 1)=some (nI j):=by
    unfold pr
    refine (YQN (i:=1) (by exact Ze91)).trans ?_
    show some (AV.int y.2)=_
    rw [e]
    rfl
   have hlen:(Qpush Q wd l t j).length≤101:=by
    have:=hQ j hj
    unfold Qpush
    split
    ·rw [List.length_append,List.length_singleton]; exact Ze175 this
    ·exact Nat.le_trans (by assumption) (by decide)
   have f:=YGI (t:=wd) (YHp (Q:=Qpush Q wd l t) (l:=l) (out:=out) (asked:=asked) hσ) (YOW hj) (YTZ hj) (by rw [List.length_map]; unfold lim; exact Ze176 hlen)
   have e2:(Qpush Q wd l t j).map AV.str++[AV.str wd]=(Qpush Q wd l t j++[wd]).map AV.str:=by rw [List.map_append]; rfl
   rw [e2,YKo hj,YIG hn hy e] at f
   exact YLE y1 (YEJ hj) (YOW hj) (hw _) (YUH.trans f)) ⟨v8,rfl,by rw [YHl]⟩
 exact ⟨u8,e⟩
section
variable {D:Nat→Nat→Nat} {W:Nat→List Nat} {out:List (Nat×Nat)} {s:Nat→Nat} {x:Pr} {l r:List Pr} {asked:List (List Nat×List Nat)} {i:Nat}
theorem AI.idx (h:AI D W out s l asked) (z:Nat):(z:Int)∈l.map (·.2)↔z∈lefts (out.map (·.2)):=by
 rw [(h.heap.map (·.2)).mem_iff,List.map_map]
 constructor
 ·intro q
  obtain ⟨y,hy,e⟩:=List.mem_map.mp q
  have:y=z:=by
   have e:(y:Int)=(z:Int):=e
   exact Zi128 e
  rwa [←this]
 ·intro q
  exact List.mem_map.mpr ⟨z,q,rfl⟩
theorem AI.nd (h:AI D W out s l asked):(l.map (·.2)).Nodup:=by
 rw [(h.heap.map (·.2)).nodup_iff,List.map_map]
 have n:(lefts (out.map (·.2))).Pairwise (·≠·):=YAu _
 refine List.pairwise_map.mpr (n.imp ?_)
 intro a b q e
 have e:(a:Int)=(b:Int):=e
 exact q (by exact Zi128 e)
theorem AI.lt5 (h:AI D W out s l asked):∀ y∈l,∃ j:Nat,j<5∧y.2=(j:Int):=by
 intro y hy
 obtain ⟨j,hj,e⟩:=List.mem_map.mp (h.heap.mem_iff.mp hy)
 exact ⟨j,(Yy.mp hj).1,by rw [←e]; rfl⟩
end
noncomputable def pEnv (ws:List (List Nat)) (n:Nat) (v5 v6 v7 v8 v9:Option AV):YF:=[some (YK ws),some (linesV n),some (.loc (n+10)),some (.loc (n+11)),some (.loc (n+12)),v5,v6,v7,v8,v9]
section
variable {ws:List (List Nat)} {σ:List AO} {Q:Qs} {x:Pr} {l r:List Pr} {out:List (Nat×Nat)} {asked:List (List Nat×List Nat)} {i:Nat} {v5 v6 v7 v8 v9:Option AV}
theorem YSt:exS postΦ pb1 (pEnv ws σ.length v5 v6 v7 v8 v9) (σ++qSt Q (x::r) out asked σ.length)=some (.next,pEnv ws σ.length (some (.int x.1)) (some (.int x.2)) v7 v8 v9,σ++qSt Q (x::r) out asked σ.length):=
 YNi ((YGd (i:=0) YQZ (by exact Ze47)).trans rfl)
theorem YQn (hσ:Ok σ) (hi:i<5) (hq:Q i=[]):exS postΦ pb2 (pEnv ws σ.length v5 (some (nI i)) v7 v8 v9) (σ++qSt Q l out asked σ.length)=some (.next,pEnv ws σ.length v5 (some (nI i)) (some (.str [])) v8 v9,σ++qSt Q l out asked σ.length):=by
 have hp:=YTZ (σ:=σ) (Q:=Q) (l:=l) (out:=out) (asked:=asked) hi
 rw [hq] at hp
 have f:=YFC (YHp (Q:=Q) (l:=l) (out:=out) (asked:=asked) hσ) (YOW hi) hp (by simp) (gs:=[]) (fun c h=>nomatch h) (Nat.le_refl _) rfl
 have e:AO.lexer [] ([]:List Nat).length (1+((List.count 10 ([]:List Nat):Nat):Int)) (σ.length+2*i)=.lexer [] 0 1 (σ.length+2*i):=rfl
 rw [e,YBn (YOW hi)] at f
 exact YJS (YEJ hi) (YOW hi) (YRk.trans f)
theorem YSU (hσ:Ok σ) (hi:i<5) {t:List Nat} {q:List (List Nat)} (hq:Q i=t::q) (hl:q.length≤100):exS postΦ pb2 (pEnv ws σ.length v5 (some (nI i)) v7 v8 v9) (σ++qSt Q l out asked σ.length)=some (.next,pEnv ws σ.length v5 (some (nI i)) (some (.str t)) v8 v9,σ++qSt (updQ Q i q) l out asked σ.length):=by
 have hp:=YTZ (σ:=σ) (Q:=Q) (l:=l) (out:=out) (asked:=asked) hi
 rw [hq,List.map_cons] at hp
 have f:=YID (YHp (Q:=Q) (l:=l) (out:=out) (asked:=asked) hσ) (YOW hi) hp (by rw [List.length_map]; unfold lim; exact Ze177 hl)
 rw [YKo hi] at f
 exact YJS (YEJ hi) (YOW hi) (YRk.trans f)
theorem YSZ (hσ:Ok σ) (h:HO (x::r)):∃ l',HO l'∧l'.Perm r∧exS postΦ YTz (pEnv ws σ.length v5 v6 v7 v8 v9) (σ++qSt Q (x::r) out asked σ.length)=some (.next,pEnv ws σ.length v5 v6 v7 v8 v9,σ++qSt Q l' out asked σ.length):=by
 have hlen:=YGn h
 have e:=List.dropLast_concat_getLast (l:=x::r) (by simp)
 generalize (x::r).dropLast=l0 at e
 generalize (x::r).getLast _=last at e
 have hh:=h
 rw [←e] at hh
 obtain ⟨h1,h2⟩:=YNp hh
 rw [e,List.tail_cons] at h2
 have hn:=YQZ (σ:=σ) (Q:=Q) (l:=x::r) (out:=out) (asked:=asked)
 rw [←e] at hn hlen
 rw [List.length_append,List.length_singleton] at hlen
 rw [←e]
 obtain ⟨v,f⟩:=YDX (YHp (Q:=Q) (l:=l0++[last]) (out:=out) (asked:=asked) hσ) hn (by exact Nat.le_trans (by assumption) (by decide))
 rw [YIu] at f
 exact ⟨_,h1,h2,YMZ (YTV.trans f)⟩
theorem YOA {p:Nat} (ho:out.length≤100):exS postΦ YTL (pEnv ws σ.length (some (.int (-(p:Int)))) (some (nI i)) v7 v8 v9) (σ++qSt Q l out asked σ.length)=some (.next,pEnv ws σ.length (some (.int (-(p:Int)))) (some (nI i)) v7 v8 v9,σ++qSt Q l (out++[(p,i)]) asked σ.length):=by
 have f:=YIl (v:=.tup [.int (- -(p:Int)),nI i]) (YTr (σ:=σ) (Q:=Q) (l:=l) (out:=out) (asked:=asked)) (by rw [List.length_map]; unfold lim; exact Nat.le_trans (by assumption) (by decide))
 have e:out.map tupN++[AV.tup [.int (- -(p:Int)),nI i]]=(out++[(p,i)]).map tupN:=by
  rw [List.map_append,Int.neg_neg]
  rfl
 rw [e,YOu] at f
 exact YLf (YCO (by simp) YTr) f
theorem YRH (hw:Five ws) (hi:i<5) {t:List Nat} (ha:asked.length≤100):exS postΦ YUL (pEnv ws σ.length v5 (some (nI i)) (some (.str t)) v8 v9) (σ++qSt Q l out asked σ.length)=some (.next,pEnv ws σ.length v5 (some (nI i)) (some (.str t)) v8 v9,σ++qSt Q l out (asked++[(wat ws i,t)]) σ.length):=by
 have f:=YIl (v:=.tup [.str (wat ws i),.str t]) (YUP (σ:=σ) (Q:=Q) (l:=l) (out:=out) (asked:=asked)) (by rw [List.length_map]; unfold lim; exact Nat.le_trans (by assumption) (by decide))
 have e:asked.map tupS++[AV.tup [.str (wat ws i),.str t]]=(asked++[(wat ws i,t)]).map tupS:=by
  rw [List.map_append]
  rfl
 rw [e,YNL] at f
 exact YMR (YAt hw hi) (YCO (by simp) YUP) f
theorem lt128 {w:List Nat} (h:IsWord w):∀ c∈w,c<128:=fun c hc=>YBj (h.2.2 c hc)
theorem YRs (hw:Five ws) (hσ:Ok σ) (hi:i<5) {c:Nat} (hc:c<5) {p:Int}:∃ v:Int,Told (wat ws i) (wat ws c) (-p-1) v∧exS postΦ YTp (pEnv ws σ.length (some (.int p)) (some (nI i)) (some (.str (wat ws c))) v8 v9) (σ++qSt Q l out asked σ.length)=some (.next,pEnv ws σ.length (some (.int p)) (some (nI i)) (some (.str (wat ws c))) v8 (some (.int v)),σ++qSt Q l out asked σ.length):=by
 have a:=(hw.at hi).1
 have b:=(hw.at hc).1
 obtain ⟨v,f,t⟩:=YII (a:=wat ws i) (b:=wat ws c) (m := -p-1) (YHp (Q:=Q) (l:=l) (out:=out) (asked:=asked) hσ) (by have:=a.2.1; show (ws.getD i []).length≤20; exact Nat.le_trans (by assumption) (by decide)) (by have:=b.2.1; show (ws.getD c []).length≤20; exact Nat.le_trans (by assumption) (by decide)) (lt128 a) (lt128 b) a.sok b.sok
 exact ⟨v,t,YKx (YAt hw hi) (YRl.trans f)⟩
theorem YNV (hσ:Ok σ) (h:HO (x::r)) {p v:Int} (hv:v ≤ -p-1):exS postΦ YSl (pEnv ws σ.length (some (.int p)) (some (nI i)) v7 v8 (some (.int v))) (σ++qSt Q (x::r) out asked σ.length)=some (.next,pEnv ws σ.length (some (.int p)) (some (nI i)) v7 v8 (some (.int v)),σ++qSt Q (suF 0 ((-v,(i:Int))::r)) out asked σ.length):=by
 have hlen:=YGn h
 have f:=YBz (x:=(-v,(i:Int))) (YHp (Q:=Q) (l:=x::r) (out:=out) (asked:=asked) hσ) YQZ (by simp) (by exact Nat.le_trans (by assumption) (by decide))
 rw [YIu,List.set_cons_zero] at f
 exact YLw (decide_eq_true hv) (YUO.trans f)
end
section
variable {ws:List (List Nat)} {σ:List AO} {s:Nat→Nat} {x:Pr} {l r:List Pr} {out:List (Nat×Nat)} {asked:List (List Nat×List Nat)} {i:Nat} {v5 v6 v7 v8 v9:Option AV}
theorem YTX {l':List Pr} {P:List Nat} (hP:∀ y∈lefts P,s y≤P.length) (hi:i∈lefts P) (hs:s i=P.length) (hm:∀ z:Nat,(z:Int)∈l'.map (·.2)↔z∈lefts (P++[i])):∀ z,z<5→Qpush (Qof ws P s) (wat ws i) l' l'.length z=Qof ws (P++[i]) s z:=by
 intro z hz
 unfold Qpush
 rw [List.take_length]
 by_cases q:z∈P++[i]
 ·have n:¬((z:Int)∈l'.map (·.2)):=fun h=>(Yy.mp ((hm z).mp h)).2 q
  rw [if_neg n]
  unfold Qof
  rw [if_pos q]
  by_cases zp:z∈P
  ·rw [if_pos zp]
  ·rw [if_neg zp]
   have:z=i:=by
    rcases List.mem_append.mp q with h | h
    ·exact absurd h zp
    ·simpa using h
   rw [this,hs,List.drop_length]
   rfl
 ·have m:(z:Int)∈l'.map (·.2):=(hm z).mpr (Yy.mpr ⟨hz,q⟩)
  rw [if_pos m]
  have zp:z∉P:=fun h=>q (List.mem_append_left _ h)
  unfold Qof
  rw [if_neg q,if_neg zp,List.drop_append_of_le_length (hP z (Yy.mpr ⟨hz,zp⟩)),List.map_append]
  rfl
theorem YSe {P:List Nat} {c:Nat} (hi:i∈lefts P) (hc:P[s i]?=some c):Qof ws P s i=wat ws c::(P.drop (s i+1)).map (wat ws)∧updQ (Qof ws P s) i ((P.drop (s i+1)).map (wat ws))=Qof ws P (updS s i (s i+1)):=by
 have ip:=(Yy.mp hi).2
 constructor
 ·unfold Qof
  rw [if_neg ip]
  obtain ⟨h1,h2⟩:=List.getElem?_eq_some_iff.mp hc
  rw [List.drop_eq_getElem_cons h1,List.map_cons,h2]
 ·funext z
  unfold updQ
  by_cases q:z=i
  ·subst q
   rw [if_pos rfl]
   unfold Qof
   rw [if_neg ip]
   unfold updS
   rw [if_pos rfl]
  ·rw [if_neg q]
   unfold Qof updS
   rw [if_neg q]
theorem YQG {P:List Nat} (hp:P.length≤100) (z:Nat):(Qof ws P s z).length≤100:=by
 unfold Qof
 split
 ·simp
 ·rw [List.length_map,List.length_drop]; exact Ze178 hp
theorem eq_nil {τ:List AO}:cmpA τ .Eq (.str []) (.str [])=some true:=by
 rw [YFi rfl rfl]
 rfl
theorem YQB {τ:List AO} {w:List Nat} (h:IsWord w):cmpA τ .Eq (.str w) (.str [])=some false:=by
 rw [YFi h.sok rfl]
 have:=h.1
 cases w with
 | nil=>simp at this
 | cons a r=>rfl
theorem YLk (hw:Five ws) (hσ:Ok σ) (h:AI (wD ws) (wat ws) out s (x::r) asked) (hi:i∈lefts (out.map (·.2))) (hx:x=ent (wD ws) (out.map (·.2)) s i) (hs:s i=out.length):
  ∃ l' w5 w6 w7 w8,exSs postΦ postBB (pEnv ws σ.length v5 v6 v7 v8 v9) (σ++qSt (Qof ws (out.map (·.2)) s) (x::r) out asked σ.length)=some (.next,pEnv ws σ.length w5 w6 w7 w8 v9,σ++qSt (Qof ws (out.map (·.2)++[i]) s) l' (out++[(mt (wD ws) (out.map (·.2)) i,i)]) asked σ.length)∧AI (wD ws) (wat ws) (out++[(mt (wD ws) (out.map (·.2)) i,i)]) s l' asked:=by
 have i5:=(Yy.mp hi).1
 have ip:=(Yy.mp hi).2
 have hlen:=h.len
 have hq:Qof ws (out.map (·.2)) s i=[]:=by
  unfold Qof
  rw [if_neg ip,List.drop_of_length_le (by rw [List.length_map]; exact Ze159 hs)]
  rfl
 have x1:x.1 = -((mt (wD ws) (out.map (·.2)) i:Nat):Int):=by
  rw [hx]
  unfold ent
  rw [List.take_of_length_le (by rw [List.length_map]; exact Ze159 hs)]
 have x2:AV.int x.2=nI i:=by rw [hx]; rfl
 obtain ⟨l',ho',hp',e3⟩:=YSZ (ws:=ws) (Q:=Qof ws (out.map (·.2)) s) (out:=out) (asked:=asked) (v5:=some (.int x.1)) (v6:=some (nI i)) (v7:=some (.str [])) (v8:=v8) (v9:=v9) hσ h.ho
 have a':=h.pop hi hx hs ho' hp'
 have eo:(out++[(mt (wD ws) (out.map (·.2)) i,i)]).map (·.2)=out.map (·.2)++[i]:=by simp
 have hm:=a'.idx
 rw [eo] at hm
 obtain ⟨u8,e5⟩:=YJT (σ:=σ) hσ (W:=YK ws) (i:=nI i) (v3:=some (.loc (σ.length+11))) (v4:=some (.loc (σ.length+12))) (v5:=some (.int x.1)) (v7:=some (.str [])) (v8:=v8) (v9:=v9) (wd:=wat ws i) (Q:=Qof ws (out.map (·.2)) s) (l:=l') (out:=out++[(mt (wD ws) (out.map (·.2)) i,i)]) (asked:=asked)
  (by have:=YGn ho'; exact Nat.le_trans (by assumption) (by decide)) a'.nd a'.lt5 (fun z _=>YQG (by rw [List.length_map]; exact Ze179 hlen) z) (fun τ=>YAt hw i5)
 have sle:∀ y∈lefts (out.map (·.2)),s y≤(out.map (·.2)).length:=fun y hy=>by rw [List.length_map]; exact h.sle y hy
 rw [YLq (YTX sle hi (by rw [List.length_map]; exact hs) hm)] at e5
 refine ⟨l',some (.int x.1),some (nI i),some (.str []),u8,?_,a'⟩
 unfold postBB
 rw [YC YSt,x2,YC (YQn hσ i5 hq)]
 have eb:exSs postΦ popB (pEnv ws σ.length (some (.int x.1)) (some (nI i)) (some (.str [])) v8 v9) (σ++qSt (Qof ws (out.map (·.2)) s) (x::r) out asked σ.length)=some (.next,pEnv ws σ.length (some (.int x.1)) (some (nI i)) (some (.str [])) u8 v9,σ++qSt (Qof ws (out.map (·.2)++[i]) s) l' (out++[(mt (wD ws) (out.map (·.2)) i,i)]) asked σ.length):=by
  unfold popB
  rw [YC e3,x1,YC (YOA (by exact Ze179 hlen)),←x1]
  refine (YC e5).trans ?_
  rw [YBp]
  rfl
 exact (YC ((YPb (b:=true) eq_nil).trans eb)).trans YBp
theorem YML {a b:List Nat} {m v:Int} {d:Nat} (h:Told a b m v) (hd:IsEd a b d) (hv:v≤m):v=(d:Int):=by
 rcases h with ⟨d',h1,h2⟩ | ⟨h1,_⟩
 ·rw [h2,h1.uniq hd]
 ·exact Zi129 h1 hv
theorem YNy {a b:List Nat} {m v:Int} {d:Nat} (h:Told a b m v) (hd:IsEd a b d) (hv:¬v≤m):m<(d:Int):=by
 rcases h with ⟨d',h1,h2⟩ | ⟨_,h2⟩
 ·rw [←h1.uniq hd]; exact Zi130 hv h2
 ·exact h2 d hd
theorem YKB (hw:Five ws) (hσ:Ok σ) (h:AI (wD ws) (wat ws) out s (x::r) asked) (hi:i∈lefts (out.map (·.2))) (hx:x=ent (wD ws) (out.map (·.2)) s i) {c:Nat} (hc:(out.map (·.2))[s i]?=some c) (c5:c<5) (ha:asked.length≤100):
  ∃ l' w5 w6 w7 w9,exSs postΦ postBB (pEnv ws σ.length v5 v6 v7 v8 v9) (σ++qSt (Qof ws (out.map (·.2)) s) (x::r) out asked σ.length)=some (.next,pEnv ws σ.length w5 w6 w7 v8 w9,σ++qSt (Qof ws (out.map (·.2)) (updS s i (s i+1))) l' out (asked++[(wat ws i,wat ws c)]) σ.length)∧AI (wD ws) (wat ws) out (updS s i (s i+1)) l' (asked++[(wat ws i,wat ws c)]):=by
 have i5:=(Yy.mp hi).1
 have hlen:=h.len
 obtain ⟨q1,q2⟩:=YSe (ws:=ws) hi hc
 have x1:x.1 = -((mt (wD ws) ((out.map (·.2)).take (s i)) i:Nat):Int):=by rw [hx]; rfl
 have x2:AV.int x.2=nI i:=by rw [hx]; rfl
 have xe:x=(-((mt (wD ws) ((out.map (·.2)).take (s i)) i:Nat):Int),(i:Int)):=hx
 have ql:((out.map (·.2)).drop (s i+1)).length≤100:=by rw [List.length_drop,List.length_map]; exact Ze180 hlen
 obtain ⟨v,tv,e4⟩:=YRs (Q:=Qof ws (out.map (·.2)) (updS s i (s i+1))) (l:=x::r) (out:=out) (asked:=asked++[(wat ws i,wat ws c)]) (v8:=v8) (v9:=v9) (p:=x.1) hw hσ i5 c5
 have hd:IsEd (wat ws i) (wat ws c) (wD ws i c):=YEx (hw.at i5).1.2.1 (hw.at c5).1.2.1
 have st:∀ {fin:Fl×YF×List AO},exS postΦ YSl (pEnv ws σ.length (some (.int x.1)) (some (nI i)) (some (.str (wat ws c))) v8 (some (.int v))) (σ++qSt (Qof ws (out.map (·.2)) (updS s i (s i+1))) (x::r) out (asked++[(wat ws i,wat ws c)]) σ.length)=some (.next,fin.2)→exSs postΦ postBB (pEnv ws σ.length v5 v6 v7 v8 v9) (σ++qSt (Qof ws (out.map (·.2)) s) (x::r) out asked σ.length)=some (.next,fin.2):=by
  intro fin e5
  have eb:exSs postΦ readB (pEnv ws σ.length (some (.int x.1)) (some (nI i)) (some (.str (wat ws c))) v8 v9) (σ++qSt (Qof ws (out.map (·.2)) (updS s i (s i+1))) (x::r) out asked σ.length)=some (.next,fin.2):=by
   unfold readB
   rw [YC (YRH hw i5 ha),YC e4,YC e5,YBp]
  unfold postBB
  rw [YC YSt,x2,YC (YSU hσ i5 q1 (by rw [List.length_map]; exact ql)),q2]
  exact (YC ((YMX (b:=true) (YQB (hw.at c5).1)).trans eb)).trans YBp
 by_cases hv:v ≤ -x.1-1
 ·have vd:=YML tv hd hv
  have mn:min (mt (wD ws) ((out.map (·.2)).take (s i)) i) (wD ws i c)=wD ws i c:=by
   rw [x1,vd] at hv
   exact Zi131 hv
  obtain ⟨g1,g2⟩:=YQE (x:=(-v,(i:Int))) h.ho
  refine ⟨_,_,_,_,_,st (fin:=(.next,_,_)) (YNV hσ h.ho hv),h.read hi hx hc g1 ?_⟩
  rw [mn,←vd]
  exact g2
 ·have lt:=YNy tv hd hv
  have mn:min (mt (wD ws) ((out.map (·.2)).take (s i)) i) (wD ws i c)=mt (wD ws) ((out.map (·.2)).take (s i)) i:=by
   rw [x1] at lt
   exact Zi132 lt
  refine ⟨_,_,_,_,_,st (fin:=(.next,_,_)) (YNX (t:=true) (decide_eq_false hv)),h.read hi hx hc h.ho ?_⟩
  rw [mn,←xe]
end
noncomputable def PEnd (ws:List (List Nat)) (σ:List AO) (ρ:YF) (τ:List AO):Prop:=
 ∃ Q out asked v5 v6 v7 v8 v9,ρ=pEnv ws σ.length v5 v6 v7 v8 v9∧τ=σ++qSt Q [] out asked σ.length∧Greedy (wD ws) [] [0,1,2,3,4] out∧asked.Perm (outP (wat ws) (out.map (·.2)))
theorem YQI {ws:List (List Nat)} {σ:List AO} {Q:Qs} {l:List Pr} {out:List (Nat×Nat)} {asked:List (List Nat×List Nat)} {v5 v6 v7 v8 v9:Option AV}:
  evT postΦ ptT (pEnv ws σ.length v5 v6 v7 v8 v9) (σ++qSt Q l out asked σ.length)=some (!(l.map pr).isEmpty,σ++qSt Q l out asked σ.length):=
 YOQ (YMK (k:=1) (.inr ⟨_,rfl,YQZ⟩) (by rw [List.all_map,List.all_eq_true]; exact fun x _=>rfl) (by decide))
theorem YIS {ws:List (List Nat)} {σ:List AO} (hw:Five ws) (hσ:Ok σ) (M:Nat):∀ (out:List (Nat×Nat)) (s:Nat→Nat) (l:List Pr) (asked:List (List Nat×List Nat)) (v5 v6 v7 v8 v9:Option AV),AI (wD ws) (wat ws) out s l asked→msr (out.map (·.2)) s<M→asked.length+M≤31→(∀ c∈out.map (·.2),c<5)→
  ∃ ρ' σ',Wl postΦ ptT postBB M (pEnv ws σ.length v5 v6 v7 v8 v9) (σ++qSt (Qof ws (out.map (·.2)) s) l out asked σ.length) (.next,ρ',σ')∧PEnd ws σ ρ' σ':=by
 induction M with
 | zero=>exact fun _ _ _ _ _ _ _ _ _ _ h=>absurd h (Nat.not_lt_zero _)
 | succ M ih=>
  intro out s l asked v5 v6 v7 v8 v9 h hm ha h5
  cases l with
  | nil=>exact ⟨_,_,YKq YQI,_,out,asked,v5,v6,v7,v8,v9,rfl,rfl,h.done.1,h.done.2⟩
  | cons x r=>
   obtain ⟨i,hi,hx⟩:=h.top
   have hs:=h.sle i hi
   have hlen:=h.len
   by_cases q:s i=out.length
   ·obtain ⟨l',w5,w6,w7,w8,e,a⟩:=YLk (v5:=v5) (v6:=v6) (v7:=v7) (v8:=v8) (v9:=v9) hw hσ h hi hx q
    have dec:=YOa (out.map (·.2)) s hi (Ze182 hlen hs)
    rw [show out.map (·.2)++[i]=(out++[(mt (wD ws) (out.map (·.2)) i,i)]).map (·.2) by rw [List.map_append]; rfl] at e dec
    obtain ⟨ρ',σ',w,z⟩:=ih _ s l' asked w5 w6 w7 w8 v9 a (Nat.lt_of_lt_of_le dec (Nat.le_of_lt_succ hm)) (Nat.le_of_succ_le ha) fun c hc=>by
     rw [List.map_append] at hc
     exact (List.mem_append.mp hc).elim (h5 c) fun hc=>by rw [List.mem_singleton.mp hc]; exact (Yy.mp hi).1
    exact ⟨ρ',σ',YSg YQI e w,z⟩
   ·have hlt:s i<(out.map (·.2)).length:=by rw [List.length_map]; exact Ze184 q hs
    refine gtl hlt fun c hc=>?_
    obtain ⟨l',w5,w6,w7,w9,e,a⟩:=YKB (v5:=v5) (v6:=v6) (v7:=v7) (v8:=v8) (v9:=v9) hw hσ h hi hx hc (h5 _ (List.mem_of_getElem? hc)) (Nat.le_trans (Nat.le_add_right _ _) (Nat.le_trans ha (by decide)))
    have dec:=YLJ (out.map (·.2)) s hi (Ze182 hlen hs)
    obtain ⟨ρ',σ',w,z⟩:=ih out _ l' _ w5 w6 w7 v8 w9 a (Nat.lt_of_lt_of_le dec (Nat.le_of_lt_succ hm)) (by rw [List.length_append,Nat.add_assoc,Nat.add_comm [_].length]; exact ha) h5
    exact ⟨ρ',σ',YSg YQI e w,z⟩
theorem YCT {σ:List AO} {t:List Nat} {b:Bool} (h:σ[0]?=some (.codes b)) (ht:t.length≤lim):YAS [.str t] σ=some (.loc (σ.length+1),σ.set 0 (.codes true)++[.list [],.lexer t 0 1 σ.length]):=by
 show (if t.length≤lim then _ else _:Option (AV×List AO))=_
 rw [if_pos ht,h]
noncomputable def lxs (n i:Nat):List AO:=(List.range i).flatMap fun k=>[.list [],.lexer [] 0 1 (n+2*k)]
theorem YGu (n i:Nat):lxs n (i+1)=lxs n i++[.list [],.lexer [] 0 1 (n+2*i)]:=by
 unfold lxs
 rw [List.range_succ,List.flatMap_append]
 rfl
theorem YGK (n:Nat):∀ i,(lxs n i).length=2*i
 | 0=>rfl
 | i+1=>by rw [YGu,List.length_append,YGK n i]; rfl
noncomputable def psE (ws:List (List Nat)) (v1 v2 v3 v4:Option AV):YF:=[some (YK ws),v1,v2,v3,v4,none,none,none,none,none]
section
variable {ws:List (List Nat)} {σ:List AO} {v1 v2 v3 v4:Option AV}
theorem ps1 (hw:Five ws) (h0:σ[0]?=some (.codes true)):evE postΦ (.comp false (.call 112 (.cons (.str []) .nil)) (.var 0) .nil) (psE ws v1 v2 v3 v4) σ=some (linesV σ.length,σ++lxs σ.length 5):=by
 have n0:=(List.getElem?_eq_some_iff.mp h0).1
 have:=YEd (Φ:=postΦ) (ρ:=psE ws v1 v2 v3 v4) (m:=false) (elt:=.call 112 (.cons (.str []) .nil)) (it:=.var 0) (itv:=YK ws) (xs:=ws) (e:=.str) (S:=fun i=>σ++lxs σ.length i) (h:=fun i=>.loc (σ.length+(2*i+1))) rfl (fun τ=>Yl τ _) (by
  intro i x _
  have g0:(σ++lxs σ.length i)[0]?=some (.codes true):=by rw [List.getElem?_append_left n0,h0]
  have f:=YCT (t:=[]) g0 (Nat.zero_le _)
  rw [YBn g0,List.length_append,YGK,List.append_assoc,←YGu] at f
  exact wE fun k=>k (YRX.trans f))
 rw [hw.len,show σ++lxs σ.length 0=σ from List.append_nil σ] at this
 rw [this,YX (by rw [List.length_map,List.length_range]; decide)]
 rfl
theorem ps2 {Φ:Tab} {τ:List AO} (hw:Five ws):evE Φ (.comp true (.tup (.cons (.neg (.int 9)) (.cons (.var 10) .nil))) (.bi .range (.cons (.bi .len (.cons (.var 0) .nil)) .nil)) .nil) (psE ws v1 v2 v3 v4) τ=some (.loc τ.length,τ++[.list (heap0.map pr)]):=by
 have l1:biA τ .len [YK ws]=some (nI 5):=(YKz (by rw [List.length_map,hw.len]; decide)).trans (by rw [List.length_map,hw.len]; rfl)
 refine (Yc (l:=List.range 5) (e:=nI) (h:=fun i=>.tup [.int (-9),nI i]) (rngL l1 (show biA τ .range [nI 5]=some (.rng 0 ((5:Nat):Int) 1) from YCK rfl)) (YR τ 5) (fun i _=>by exact wE fun k=>k (show 2≤lim by decide))).trans ?_
 rw [YBU (by rw [List.length_map,List.length_range]; decide)]
 rfl
end
theorem YSh {σ:List AO} {n k:Nat} {vs ws:List AV} (h:noLocs n vs=false) (hf:fzs σ n k vs=some ws):fz σ n (k+1) (.tup vs)=some (.tup ws):=
 (if_neg (show ¬noLocs n vs=true by rw [h]; exact Bool.false_ne_true)).trans (congrArg (Option.map AV.tup) hf)
theorem YQJ {σ:List AO} {n k:Nat} {a b a' b':AV} (h1:fz σ n k a=some a') (h2:fz σ n k b=some b'):fzs σ n k [a,b]=some [a',b']:=
 (congrArg (Option.bind · _) h1).trans (congrArg (Option.map (a'::·)) ((congrArg (Option.bind · _) h2).trans rfl))
theorem YFg {ws:List (List Nat)} {σ:List AO} (hw:Five ws) (hσ:Ok σ) (h0:σ[0]?=some (.codes true)):
  ∃ (out:List (Nat×Nat)) (asked:List (List Nat×List Nat)),YCl [YK ws] σ=some (.tup [.lst (out.map tupN),.lst (asked.map tupS)],σ)∧Greedy (wD ws) [] [0,1,2,3,4] out∧asked.Perm (outP (wat ws) (out.map (·.2))):=by
 have e5:(σ++lxs σ.length 5).length=σ.length+10:=by rw [List.length_append,YGK]
 have n1:(σ++lxs σ.length 5++[AO.list (heap0.map pr)]).length=σ.length+11:=by rw [List.length_append,e5]; rfl
 have n2:(σ++lxs σ.length 5++[AO.list (heap0.map pr)]++[AO.list []]).length=σ.length+12:=by rw [List.length_append,n1]; rfl
 have hq:(σ++lxs σ.length 5++[AO.list (heap0.map pr)])[(σ++lxs σ.length 5).length]?=some (.list (heap0.map pr)):=YFe
 have ok:Ok (σ++lxs σ.length 5++[AO.list (heap0.map pr)]):=by
  rw [List.append_assoc]
  refine YDi hσ ?_
  have x:∀ j,j<11→aoOk (σ.length+11) (.lexer [] 0 1 (σ.length+j))=true:=fun j hj=>decide_eq_true (Nat.add_lt_add_left hj _)
  have p:aoOk (σ.length+11) (.list (heap0.map pr))=true:=YDC (fun x=>YBs _ x) heap0
  have a2:∀ {o:AO} {τ:List AO},aoOk (σ.length+11) o=true→τ.all (aoOk (σ.length+11))=true→(AO.list []::o::τ).all (aoOk (σ.length+11))=true:=fun h g=>Bool.and_eq_true_iff.mpr ⟨rfl,Bool.and_eq_true_iff.mpr ⟨h,g⟩⟩
  exact a2 (x 0 (by decide)) (a2 (x 2 (by decide)) (a2 (x 4 (by decide)) (a2 (x 6 (by decide)) (a2 (x 8 (by decide)) (Bool.and_eq_true_iff.mpr ⟨p,rfl⟩)))))
 have f:=YDV ok hq rfl
 rw [YIL,YBn hq] at f
 obtain ⟨ρ',σ',w,Q,out,asked,v5,v6,v7,v8,v9,rfl,rfl,g,a⟩:=YIS (σ:=σ) hw hσ 31 [] (fun _=>0) heap0 [] none none none none none (AI.start _ _) (by decide) (Nat.le_refl _) (fun c h=>nomatch h)
 have el:σ++lxs σ.length 5++[AO.list (heap0.map pr)]++[.list []]++[.list []]=σ++qSt (Qof ws (([]:List (Nat×Nat)).map (·.2)) fun _=>0) heap0 [] [] σ.length:=by
  rw [show Qof ws (([]:List (Nat×Nat)).map (·.2)) (fun _=>0)=fun _=>[] from funext fun y=>if_neg (fun h=>nomatch h)]
  rw [List.append_assoc,List.append_assoc,List.append_assoc]
  rfl
 have c3:newL true (σ++lxs σ.length 5++[AO.list (heap0.map pr)]) []=some (.loc (σ.length+11),σ++lxs σ.length 5++[AO.list (heap0.map pr)]++[AO.list []]):=by rw [YBU (Nat.zero_le _),n1]
 have c4:newL true (σ++lxs σ.length 5++[AO.list (heap0.map pr)]++[AO.list []]) []=some (.loc (σ.length+12),σ++qSt (Qof ws (([]:List (Nat×Nat)).map (·.2)) fun _=>0) heap0 [] [] σ.length):=by rw [YBU (Nat.zero_le _),n2,el]
 have c2:=ps2 (Φ:=postΦ) (v1:=some (linesV σ.length)) (v2:=none) (v3:=none) (v4:=none) (τ:=σ++lxs σ.length 5) hw
 rw [e5] at c2 f
 have b:exSs postΦ YAY (psE ws none none none none) σ=some (.ret (.tup [.loc (σ.length+11),.loc (σ.length+12)]),pEnv ws σ.length v5 v6 v7 v8 v9,σ++qSt Q [] out asked σ.length):=
  wSs fun k=>k (ps1 hw h0) c2 (YTd.trans f) c3 c4 ((YHk ..).trans (w 100 (by decide))) (show 2≤lim by decide)
 have f1:fz (σ++qSt Q [] out asked σ.length) σ.length 5 (.loc (σ.length+11))=some (.lst (out.map tupN)):=YCR (Nat.le_add_right _ _) YTr (YAr _ fun x _=>YZ rfl)
 have f2:fz (σ++qSt Q [] out asked σ.length) σ.length 5 (.loc (σ.length+12))=some (.lst (asked.map tupS)):=YCR (Nat.le_add_right _ _) YUP (YAr _ fun x _=>YZ rfl)
 have nl:noLocs σ.length [.loc (σ.length+11),.loc (σ.length+12)]=false:=by
  show (decide (σ.length+11<σ.length)&&_)=false
  rw [decide_eq_false (Nat.not_lt_of_le (Nat.le_add_right _ _))]; rfl
 have l:(σ++qSt Q [] out asked σ.length).take σ.length=σ:=List.take_left
 exact ⟨out,asked,(Yt (psE ws none none none none) rfl rfl b (by rw [List.length_append]; exact Nat.le_add_right _ _) (by rw [l]; exact hσ) (YSh nl (YQJ f1 f2))).trans (by rw [l]),g,a⟩
theorem YOJ {α β:Type} (f:α→β) (xs:List α) (lo hi st:Option Int):slA (xs.map f) lo hi st=(slA xs lo hi st).map f:=by
 unfold slA
 rw [List.length_map]
 generalize sliceRange _ _ _=r
 induction r with
 | nil=>rfl
 | cons a r ih=>
  rw [List.filterMap_cons,List.filterMap_cons,List.getElem?_map,ih]
  cases xs[a]? <;> rfl
theorem YHK {α:Type} (xs:List α) (k:Nat):slA xs none (some (k:Int)) none=xs.take k:=by
 rw [YCM]
 have b1:(sliceBounds none (some (k:Int)) none xs.length).1=0:=by simp [sliceBounds]
 have b2:(sliceBounds none (some (k:Int)) none xs.length).2.1=min (k:Int) xs.length:=by
  simp only [sliceBounds,Option.getD_none]
  simp
  lia
 rw [b1,b2]
 show (xs.drop 0).take _=_
 rw [List.drop_zero]
 rcases Nat.le_total k xs.length with q | q
 ·rw [show (min (k:Int) xs.length-0).toNat=k by exact Zi133 q]
 ·rw [List.take_of_length_le q,List.take_of_length_le (by exact Zi134 q)]
theorem YKt {α:Type} (xs:List α) (k:Nat):slA xs (some (k:Int)) none none=xs.drop k:=by
 rw [YCM]
 have b1:(sliceBounds (some (k:Int)) none none xs.length).1=min (k:Int) xs.length:=by
  simp only [sliceBounds,Option.getD_none]
  simp
  lia
 have b2:(sliceBounds (some (k:Int)) none none xs.length).2.1=xs.length:=by
  simp only [sliceBounds,Option.getD_none]
  simp
 rw [b1,b2]
 rcases Nat.le_total k xs.length with q | q
 ·rw [show (min (k:Int) xs.length).toNat=k by exact Zi73 q]
  exact List.take_of_length_le (by rw [List.length_drop]; exact Zi135)
 ·rw [List.drop_eq_nil_of_le q,List.drop_eq_nil_of_le (by exact Zi75 q)]
  simp
theorem YHe {α:Type} (xs:List α) (i:Nat):(slA xs (some (i:Int)) none (some 5)).length≤xs.length+4:=by
 unfold slA
 refine Nat.le_trans (List.length_filterMap_le ..) ?_
 have b1:0≤(sliceBounds (some (i:Int)) none (some 5) xs.length).1:=by
  simp only [sliceBounds,Option.getD_some]
  simp
  exact Zi29
 have b2:(sliceBounds (some (i:Int)) none (some 5) xs.length).2.1=xs.length:=by
  simp only [sliceBounds,Option.getD_some]
  simp
 have b3:(sliceBounds (some (i:Int)) none (some 5) xs.length).2.2=5:=by
  simp only [sliceBounds,Option.getD_some]
 rw [b2,b3]
 generalize (sliceBounds (some (i:Int)) none (some 5) xs.length).1=s at b1
 unfold sliceRange
 rw [List.length_map,List.length_range]
 simp only [show (5:Int)>0 by decide,if_true]
 split
 ·exact Zi136 b1
 ·simp
noncomputable def fx (i:Nat):Int:=([19,1950,1345,920,3]:List Int).getD i 0
noncomputable def fixV:AV:=.lst [.int 19,.int 1950,.int 1345,.int 920,.int 3]
noncomputable def drawn (ns:List Int) (i:Nat):Int:=fx i+((slA (ns.take 15) (some (i:Int)) none (some 5)).map (·%1000000)).sum
noncomputable def draws (ns:List Int):List Int:=(List.range 5).map (drawn ns)
theorem YSo {σ:List AO} {i:Nat} (h:i<5):subA σ fixV (nI i)=some (.int (fx i)):=by
 unfold fixV nI
 rw [YBv (by exact Nat.lt_of_lt_of_le (by assumption) (by decide))]
 rcases i with _ | _ | _ | _ | _ | i
 ·rfl
 ·rfl
 ·rfl
 ·rfl
 ·rfl
 ·lia
noncomputable def law2I:E:=.comp false (.bin .Mod (.var 14) (.int 1000000)) (.sli (.sli (.var 0) .none (.int 15) .none) (.var 13) .none (.int 5)) .nil
noncomputable def law2E:E:=.bin .Add (.sub (.var 1) (.var 13)) (.bi .sum (.cons law2I .nil))
section
variable {Φ:Tab} {σ τ:List AO} {v0 v1 v2 v3 v4 v5 v6 v7 v8 v9 v10 v11 v12:Option AV}
theorem lw1:exS Φ (.asg 1 (.lst false (.cons (.int 19) (.cons (.int 1950) (.cons (.int 1345) (.cons (.int 920) (.cons (.int 3) .nil))))))) [v0,v1,v2,v3,v4,v5,v6,v7,v8,v9,v10,v11,v12] σ=some (.next,[v0,some fixV,v2,v3,v4,v5,v6,v7,v8,v9,v10,v11,v12],σ):=by
 exact wS fun k=>k (YX (show 5≤lim by decide))
theorem YQo {s t i u:AV} {ρ:YF} (h1:sliA σ s .none (.int 15) .none=some t) (h2:sliA σ t i .none (.int 5)=some u):evE Φ (.sli (.sli (.var 0) .none (.int 15) .none) (.var 13) .none (.int 5)) [some s,v1,v2,v3,v4,v5,v6,v7,v8,v9,v10,v11,v12,some i] σ=some (u,σ):=by
 exact wE fun k=>k h1 h2
theorem YPy {z:Int} {v13:Option AV}:evE Φ (.bin .Mod (.var 14) (.int 1000000)) [v0,v1,v2,v3,v4,v5,v6,v7,v8,v9,v10,v11,v12,v13,some (.int z)] σ=some (.int (z%1000000),σ):=by
 have:=YJU (σ:=σ) (a:=z) (b:=1000000) (by decide)
 exact wE fun k=>k this
theorem YRw {ns:List Int} {i:Nat} (hl:ns.length≤63) (hi:i<5):evE Φ law2I [some (.lst (ns.map .int)),v1,v2,v3,v4,v5,v6,v7,v8,v9,v10,v11,v12,some (nI i)] σ=some (.lst (((slA (ns.take 15) (some (i:Int)) none (some 5)).map (·%1000000)).map .int),σ):=by
 have f15:optI (.int 15)=some (some ((15:Nat):Int)):=YCD (by decide)
 have f5:optI (.int 5)=some (some 5):=YCD (by decide)
 have fi:optI (nI i)=some (some (i:Int)):=by
  exact YCD (YGx (by exact Ze197 hi))
 have s1:=YEM (σ:=σ) (vs:=ns.map AV.int) (lo:=.none) (st:=.none) rfl f15 rfl (by simp) (by rw [List.length_map]; unfold lim; exact Nat.le_trans (by assumption) (by decide))
 rw [YHK,←List.map_take] at s1
 have s2:=YEM (σ:=σ) (vs:=(ns.take 15).map AV.int) (hi:=.none) fi rfl f5 (by simp) (by rw [List.length_map,List.length_take]; unfold lim; exact Ze198)
 rw [YOJ] at s2
 have len:=YHe (ns.take 15) i
 rw [List.length_take] at len
 unfold law2I
 rw [Yc (l:=slA (ns.take 15) (some (i:Int)) none (some 5)) (e:=.int) (h:=fun z=>.int (z%1000000)) (YQo (v1:=v1) (ρ:=[]) s1 s2) (Yl ..) (fun z _=>YPy),YX (by rw [List.length_map]; unfold lim; exact Ze199 len),List.map_map]
 rfl
theorem YOB {f i w l s r:AV} (h1:subA σ f i=some w) (h2:evE Φ law2I [v0,some f,v2,v3,v4,v5,v6,v7,v8,v9,v10,v11,v12,some i] σ=some (l,σ)) (h3:biA σ .sum [l]=some s) (h4:binA σ .Add w s=some r):evE Φ law2E [v0,some f,v2,v3,v4,v5,v6,v7,v8,v9,v10,v11,v12,some i] σ=some (r,σ):=by
 exact wE fun k=>k h1 h2 h3 h4
theorem YKr {l:List Int} (h:∀ z∈l,0≤z∧z<1000000) (hl:l.length≤1000):biA σ .sum [.lst (l.map .int)]=some (.int l.sum):=by
 exact YNG (YDw l)
theorem lw2 {ns:List Int} (hl:ns.length≤63):exS Φ (.asg 2 (.comp false law2E (.bi .range (.cons (.int 5) .nil)) .nil)) [some (.lst (ns.map .int)),some fixV,v2,v3,v4,v5,v6,v7,v8,v9,v10,v11,v12] σ=some (.next,[some (.lst (ns.map .int)),some fixV,some (.lst ((draws ns).map .int)),v3,v4,v5,v6,v7,v8,v9,v10,v11,v12],σ):=by
 rw [YDT,Yc (l:=List.range 5) (e:=nI) (h:=fun i=>.int (drawn ns i)) rng5 (YR _ 5) ?_,YX (by rw [List.length_map,List.length_range]; unfold lim; exact Ze49)]
 ·unfold draws
  rw [List.map_map]
  rfl
 ·intro i hi
  have hi:i<5:=by simpa using hi
  have len:=YHe (ns.take 15) i
  rw [List.length_take] at len
  refine YOB (YSo hi) (YRw hl hi) (YKr ?_ (by rw [List.length_map]; exact Ze200 len)) YAo
  intro z hz
  obtain ⟨y,_,rfl⟩:=List.mem_map.mp hz
  exact ⟨Zi137,Zi138⟩
end
noncomputable def lawΦ:Tab:=Yn [(117,YFB),(122,YAy),(112,YAS),(77,YS),(127,YCl),(144,YDS),(149,YAd),(154,YFF)]
section
variable {as:List AV} {σ:List AO}
theorem YSm:lawΦ 117 as σ=YFB as σ:=by simp [lawΦ,Yn]
theorem YSr:lawΦ 122 as σ=YAy as σ:=by simp [lawΦ,Yn]
theorem YQs:lawΦ 112 as σ=YAS as σ:=by simp [lawΦ,Yn]
theorem YTU:lawΦ 77 as σ=YS as σ:=by simp [lawΦ,Yn]
theorem YRS:lawΦ 127 as σ=YCl as σ:=by simp [lawΦ,Yn]
theorem YQi:lawΦ 144 as σ=YDS as σ:=by simp [lawΦ,Yn]
theorem YRm:lawΦ 149 as σ=YAd as σ:=by simp [lawΦ,Yn]
theorem YRn:lawΦ 154 as σ=YFF as σ:=by simp [lawΦ,Yn]
end
noncomputable def qOf (d:Int):Bool:=decide (d/648%2=0)
noncomputable def gOf (d:Int):Bool:=decide (d/1296%2=0)
noncomputable def dr (d:Int):List Nat:=dress (wordOf d) (qOf d) (gOf d)
noncomputable def YD (ds:List Int):List Nat:=(ds.map dr).flatten
theorem YMc (d:Int):(dr d).length≤9:=by
 have hw:=YAU d
 have h1:=YAs escQ YGt (wordOf d)
 have h2:=YAs escA YHB (wordOf d)
 have g:(gapOf (gOf d)).length=1:=by unfold gapOf; split <;> rfl
 have:=hw.2.1
 unfold dr dress
 split
 ·simp only [List.length_append,List.length_singleton,g]
  exact Ze201 h1 this
 ·simp only [List.length_append,g]
  exact Ze202 h2 this
section
variable {Φ:Tab} {σ τ:List AO} {v0 v1 v2 v3 v4 v5 v6 v7 v8 v9 v10 v11 v12:Option AV}
theorem YOF {d r:AV} (h:Φ 117 [d] σ=some (r,σ)):evE Φ (.call 117 (.cons (.var 13) .nil)) [v0,v1,v2,v3,v4,v5,v6,v7,v8,v9,v10,v11,v12,some d] σ=some (r,σ):=by
 exact wE fun k=>k h
theorem lw3 {ds:List Int} (hσ:Ok σ) (hl:ds.length≤100):exS lawΦ (.asg 3 (.comp false (.call 117 (.cons (.var 13) .nil)) (.var 2) .nil)) [v0,v1,some (.lst (ds.map .int)),v3,v4,v5,v6,v7,v8,v9,v10,v11,v12] σ=some (.next,[v0,v1,some (.lst (ds.map .int)),some (YK (ds.map wordOf)),v4,v5,v6,v7,v8,v9,v10,v11,v12],σ):=by
 rw [YDT,Yc (l:=ds) (e:=.int) (h:=fun d=>.str (wordOf d)) rfl (Yl ..) (fun d _=>YOF (YSm.trans (YGU hσ))),YX (by rw [List.length_map]; unfold lim; exact Nat.le_trans (by assumption) (by decide))]
 unfold YK
 rw [List.map_map]
 rfl
theorem YOi {W D i w d r:AV} (h1:subA σ W i=some w) (h2:subA σ D i=some d) (h3:Φ 122 [w,d] σ=some (r,σ)):evE Φ (.call 122 (.cons (.sub (.var 3) (.var 13)) (.cons (.sub (.var 2) (.var 13)) .nil))) [v0,v1,some D,some W,v4,v5,v6,v7,v8,v9,v10,v11,v12,some i] σ=some (r,σ):=by
 exact wE fun k=>k h1 h2 h3
theorem YPt {e:E} {l t:AV} {ρ:YF} (h1:evE Φ e ρ σ=some (l,σ)) (h2:meA σ .join (.str []) [l]=some (t,σ)):evE Φ (.me .join (.str []) (.cons e .nil)) ρ σ=some (t,σ):=by
 exact (if_pos (e:=(none:Option (AV×List AO))) (show meOk σ .join (.str [])=true from rfl)).trans (bs (bs h1 (ms (show evEs Φ .nil ρ σ=some ([],σ) from rfl))) h2)
theorem YMY {ds:List Int} {i:Nat} (h:i<ds.length) (h5:ds.length=5):subA σ (.lst (ds.map .int)) (nI i)=some (.int (ds.getD i 0)):=by
 unfold nI
 rw [YBv (by exact Ze203 h h5),List.getElem?_map,List.getElem?_eq_getElem h]
 simp [List.getD,List.getElem?_eq_getElem h]
theorem YUA {ds:List Int} {i:Nat} (h:i<ds.length) (h5:ds.length=5):subA σ (YK (ds.map wordOf)) (nI i)=some (.str (wordOf (ds.getD i 0))):=by
 unfold nI YK
 rw [YBv (by exact Ze203 h h5),List.getElem?_map,List.getElem?_map,List.getElem?_eq_getElem h]
 simp [List.getD,List.getElem?_eq_getElem h]
theorem lw4 {ds:List Int} (hσ:Ok σ) (h5:ds.length=5):exS lawΦ (.asg 4 (.me .join (.str []) (.cons (.comp false (.call 122 (.cons (.sub (.var 3) (.var 13)) (.cons (.sub (.var 2) (.var 13)) .nil))) (.bi .range (.cons (.int 5) .nil)) .nil) .nil))) [v0,v1,some (.lst (ds.map .int)),some (YK (ds.map wordOf)),v4,v5,v6,v7,v8,v9,v10,v11,v12] σ=some (.next,[v0,v1,some (.lst (ds.map .int)),some (YK (ds.map wordOf)),some (.str (YD ds)),v5,v6,v7,v8,v9,v10,v11,v12],σ):=by
 have c:evE lawΦ (.comp false (.call 122 (.cons (.sub (.var 3) (.var 13)) (.cons (.sub (.var 2) (.var 13)) .nil))) (.bi .range (.cons (.int 5) .nil)) .nil) [v0,v1,some (.lst (ds.map .int)),some (YK (ds.map wordOf)),v4,v5,v6,v7,v8,v9,v10,v11,v12] σ=some (.lst ((ds.map dr).map .str),σ):=by
  rw [Yc (l:=List.range 5) (e:=nI) (h:=fun i=>.str (dr (ds.getD i 0))) rng5 (YR _ 5) ?_,YX (by rw [List.length_map,List.length_range]; unfold lim; exact Ze49)]
  ·have:=YAE ds 0
   rw [h5] at this
   conv=>rhs; rw [←this]
   rw [List.map_map,List.map_map]
   rfl
  ·intro i hi
   have hi:i<ds.length:=by rw [h5]; simpa using hi
   exact YOi (YUA hi h5) (YMY hi h5) (YSr.trans (YDW hσ (YAU _)))
 have j:=YKj (σ:=σ) (ss:=ds.map dr) (by
  have:=YEj 9 (ds.map dr) (fun s hs=>by
   obtain ⟨d,_,rfl⟩:=List.mem_map.mp hs
   exact YMc d)
  rw [List.length_map,h5] at this
  unfold lim
  exact Nat.le_trans (by assumption) (by decide))
 rw [YDT,YPt c j]
 rfl
theorem lw5 {t:List Nat} {r:AV} (h:Φ 112 [.str t] σ=some (r,τ)):exS Φ (.asg 5 (.call 112 (.cons (.var 4) .nil))) [v0,v1,v2,v3,some (.str t),v5,v6,v7,v8,v9,v10,v11,v12] σ=some (.next,[v0,v1,v2,v3,some (.str t),some r,v6,v7,v8,v9,v10,v11,v12],τ):=by
 exact wS fun k=>k h
end
noncomputable def pgap (d:Int):List Nat:=if qOf d then gapOf (gOf d) else []
noncomputable def gsAt (ds:List Int):Nat→List Nat
 | 0=>[]
 | i+1=>(ds[i]?.map pgap).getD []
theorem YFh (ds:List Int) (i:Nat):gsAt ds (i+1)=(ds[i]?.map pgap).getD []:=rfl
noncomputable def rest (ds:List Int) (i:Nat):List Nat:=gsAt ds i++YD (ds.drop i)
theorem YHh (d:Int):∃ c,dr d=c++pgap d∧c.length=took (wordOf d) (qOf d)∧c.count 10=tookNl (qOf d) (gOf d):=by
 have nl:∀ c∈wordOf d,c≠10:=fun c hc=>by
  have:=(YAU d).2.2 c hc
  intro q
  subst q
  revert this
  decide
 have zq:∀ w:List Nat,(∀ c∈w,c≠10)→(w.flatMap escQ).count 10=0:=by
  intro w
  induction w with
  | nil=>intro _; rfl
  | cons a r ih=>
   intro h
   rw [List.flatMap_cons,List.count_append,ih fun c hc=>h c (by simp [hc])]
   have ha:=h a (by simp)
   have:(a==10)=false:=by simpa using ha
   unfold escQ
   split <;> simp [List.count_cons,this]
 have za:∀ w:List Nat,(∀ c∈w,c≠10)→(w.flatMap escA).count 10=0:=by
  intro w
  induction w with
  | nil=>intro _; rfl
  | cons a r ih=>
   intro h
   rw [List.flatMap_cons,List.count_append,ih fun c hc=>h c (by simp [hc])]
   have ha:=h a (by simp)
   have:(a==10)=false:=by simpa using ha
   unfold escA
   simp [List.count_cons,this]
 unfold dr dress pgap took tookNl
 cases qOf d with
 | true=>
  refine ⟨[34]++(wordOf d).flatMap escQ++[34],rfl,?_,?_⟩
  ·simp only [List.length_append,List.length_singleton,if_true]; exact Ze204
  ·rw [List.count_append,List.count_append,zq _ nl]
   rfl
 | false=>
  refine ⟨(wordOf d).flatMap escA++gapOf (gOf d),by simp,?_,?_⟩
  ·have g:(gapOf (gOf d)).length=1:=by unfold gapOf; split <;> rfl
   simp only [List.length_append,g,Bool.false_eq_true,if_false]
  ·rw [List.count_append,za _ nl]
   simp
theorem YIN (g:Bool):Gaps (gapOf g):=by
 intro c hc
 unfold gapOf at hc
 split at hc
 ·left; simpa using hc
 ·right; simpa using hc
theorem YFp (ds:List Int):∀ i,Gaps (gsAt ds i)
 | 0=>fun c hc=>nomatch hc
 | i+1=>by
  rw [YFh]
  cases ds[i]? with
  | none=>
   intro c hc
   simp at hc
  | some d=>
   show Gaps (pgap d)
   unfold pgap
   split
   ·exact YIN _
   ·exact fun c hc=>nomatch hc
theorem YDD {ds:List Int} {i:Nat} (hi:i<ds.length):rest ds i=gsAt ds i++(dr ds[i]++YD (ds.drop (i+1)))∧rest ds (i+1)=pgap ds[i]++YD (ds.drop (i+1)):=by
 unfold rest
 constructor
 ·rw [List.drop_eq_getElem_cons hi]
  rfl
 ·congr 1
  rw [YFh,List.getElem?_eq_getElem hi]
  rfl
theorem YBl (ds:List Int):∀ i,i≤ds.length→rest ds i <:+ YD ds
 | 0,_=>by
  unfold rest gsAt
  simp
 | i+1,h=>by
  obtain ⟨p,e⟩:=YBl ds i (by exact Ze10 h)
  obtain ⟨r1,r2⟩:=YDD (ds:=ds) (i:=i) (Nat.lt_of_succ_le h)
  obtain ⟨c,e1,_,_⟩:=YHh ds[i]
  refine ⟨p++(gsAt ds i++c),?_⟩
  rw [r2,←e,r1,e1]
  simp
noncomputable def posAt (ds:List Int) (i:Nat):Nat:=(YD ds).length-(rest ds i).length
noncomputable def lineAt (ds:List Int) (i:Nat):Int:=1+(((YD ds).count 10-(rest ds i).count 10:Nat):Int)
theorem YHU {ds:List Int} {i:Nat} (h:i≤ds.length):(YD ds).drop (posAt ds i)=rest ds i:=(List.suffix_iff_eq_drop.mp (YBl ds i h)).symm
theorem YGL {ds:List Int} {i:Nat} (h:i≤ds.length):(rest ds i).length≤(YD ds).length∧(rest ds i).count 10≤(YD ds).count 10:=by
 have s:=YBl ds i h
 exact ⟨s.length_le,s.sublist.count_le _⟩
theorem YME {ds:List Int} {i:Nat} (h:i<ds.length):posAt ds i+(gsAt ds i).length+took (wordOf ds[i]) (qOf ds[i])=posAt ds (i+1)∧lineAt ds i+((gsAt ds i).count 10:Nat)+(tookNl (qOf ds[i]) (gOf ds[i]):Nat)=lineAt ds (i+1):=by
 obtain ⟨a1,a2⟩:=YGL (ds:=ds) (i:=i) (by exact Nat.le_of_lt (by assumption))
 obtain ⟨b1,b2⟩:=YGL (ds:=ds) (i:=i+1) (by exact Ze72 h)
 obtain ⟨r1,r2⟩:=YDD (ds:=ds) (i:=i) h
 obtain ⟨c,e1,e2,e3⟩:=YHh ds[i]
 unfold posAt lineAt
 rw [←e2,←e3]
 rw [r1,e1] at a1 a2 ⊢
 rw [r2] at b1 b2 ⊢
 simp only [List.length_append,List.count_append] at *
 exact ⟨Zi139 a1,Zi140 a2⟩
noncomputable def lSt (t:List Nat) (pos:Nat) (line:Int):List AO:=[.codes true,.list [],.lexer t pos line 1]
theorem YIZ (t:List Nat) (pos:Nat) (line:Int):Ok (lSt t pos line):=rfl
noncomputable def endLine (t:List Nat):Int:=1+((t.count 10:Nat):Int)
noncomputable def rSt (ds:List Int) (i:Nat):List AO:=if i≤5 then lSt (YD ds) (posAt ds i) (lineAt ds i) else lSt (YD ds) (YD ds).length (endLine (YD ds))
noncomputable def rTok (ds:List Int) (i:Nat):AV:=if i<5 then .str (wordOf (ds.getD i 0)) else .str []
theorem YDq {ds:List Int} (h5:ds.length=5):(YD ds).length≤45:=by
 have:=YEj 9 (ds.map dr) (fun s hs=>by
  obtain ⟨d,_,rfl⟩:=List.mem_map.mp hs
  exact YMc d)
 rw [List.length_map,h5] at this
 unfold YD
 rw [List.length_flatten]
 assumption
theorem YKu {ds:List Int} (h5:ds.length=5) {i:Nat} (hi:i<6):YS [.loc 2] (rSt ds i)=some (rTok ds i,rSt ds (i+1)):=by
 have tl:=YDq h5
 by_cases q:i<5
 ·have hl:i<ds.length:=by exact Ze207 q h5
  obtain ⟨r1,r2⟩:=YDD hl
  obtain ⟨p1,p2⟩:=YME hl
  have e1:rSt ds i=lSt (YD ds) (posAt ds i) (lineAt ds i):=by unfold rSt; rw [if_pos (by exact Nat.le_of_lt (by assumption))]
  have e2:rSt ds (i+1)=lSt (YD ds) (posAt ds (i+1)) (lineAt ds (i+1)):=by unfold rSt; rw [if_pos (by exact Ze208 q)]
  have e3:rTok ds i=.str (wordOf ds[i]):=by
   unfold rTok
   rw [if_pos q]
   simp [List.getD,List.getElem?_eq_getElem hl]
  have f:=YKN (n:=2) (p:=1) (YIZ (YD ds) (posAt ds i) (lineAt ds i)) rfl rfl (by unfold lim; exact Nat.le_trans (by assumption) (by decide)) (YAU ds[i]) (YFp ds i) ((YHU (by exact Nat.le_of_lt (by assumption))).trans r1)
  rw [e1,e2,e3,f,p1,p2]
  rfl
 ·have:i=5:=by exact Ze209 hi q
  subst this
  have e1:rSt ds 5=lSt (YD ds) (posAt ds 5) (lineAt ds 5):=rfl
  have e2:rSt ds (5+1)=lSt (YD ds) (YD ds).length (endLine (YD ds)):=rfl
  have e3:rTok ds 5=.str []:=rfl
  have r5:rest ds 5=gsAt ds 5:=by
   unfold rest
   rw [←h5,List.drop_length,h5]
   simp [YD]
  obtain ⟨a1,a2⟩:=YGL (ds:=ds) (i:=5) (by exact Ze210 h5)
  have f:=YFC (n:=2) (p:=1) (YIZ (YD ds) (posAt ds 5) (lineAt ds 5)) rfl rfl (by unfold lim; exact Nat.le_trans (by assumption) (by decide)) (YFp ds 5) (by unfold posAt; exact Ze211) ((YHU (by exact Ze210 h5)).trans r5)
  have e4:lineAt ds 5+((gsAt ds 5).count 10:Nat)=endLine (YD ds):=by
   unfold lineAt endLine
   rw [←r5]
   exact Zi141 a2
  rw [e1,e2,e3,f,e4]
  rfl
section
variable {Φ:Tab} {σ τ:List AO} {v0 v1 v2 v3 v4 v5 v6 v7 v8 v9 v10 v11 v12:Option AV}
theorem YPX {v13:Option AV} {n p pos:Nat} {line:Int} {text:List Nat} {t:AV} (h2:σ[n]?=some (.lexer text pos line p)) (h3:Φ 77 [.loc n] σ=some (t,τ)):evE Φ (.lm 77 (.var 5) .nil) [v0,v1,v2,v3,v4,some (.loc n),v6,v7,v8,v9,v10,v11,v12,v13] σ=some (t,τ):=by
 exact wE fun k=>k h2 h3
theorem rng6' {ρ:YF}:evE Φ (.bi .range (.cons (.int 6) .nil)) ρ σ=some (.rng 0 ((6:Nat):Int) 1,σ):=by
 exact wE fun k=>k (YCK rfl)
theorem YTG (ds:List Int) (i:Nat):∃ pos line,(rSt ds i)[2]?=some (.lexer (YD ds) pos line 1):=by
 unfold rSt
 split
 ·exact ⟨_,_,rfl⟩
 ·exact ⟨_,_,rfl⟩
noncomputable def readV (ds:List Int):AV:=.lst ((ds.map wordOf).map .str++[.str []])
theorem lw6 {ds:List Int} (h5:ds.length=5):exS lawΦ (.asg 6 (.comp false (.lm 77 (.var 5) .nil) (.bi .range (.cons (.int 6) .nil)) .nil)) [v0,v1,v2,v3,v4,some (.loc 2),v6,v7,v8,v9,v10,v11,v12] (rSt ds 0)=some (.next,[v0,v1,v2,v3,v4,some (.loc 2),some (readV ds),v7,v8,v9,v10,v11,v12],lSt (YD ds) (YD ds).length (endLine (YD ds))):=by
 have:=YEd (Φ:=lawΦ) (ρ:=[v0,v1,v2,v3,v4,some (.loc 2),v6,v7,v8,v9,v10,v11,v12]) (m:=false) (elt:=.lm 77 (.var 5) .nil) (it:=.bi .range (.cons (.int 6) .nil)) (itv:=.rng 0 ((6:Nat):Int) 1) (xs:=List.range 6) (e:=nI) (S:=rSt ds) (h:=rTok ds) rng6' (fun τ=>YR τ 6) (by
  intro i x hx
  have hi:i<6:=by
   have:=(List.getElem?_eq_some_iff.mp hx).1
   rwa [List.length_range] at this
  obtain ⟨pos,line,e⟩:=YTG ds i
  exact YPX e (YTU.trans (YKu h5 hi)))
 rw [List.length_range] at this
 rw [YDT,this,YX (by rw [List.length_map,List.length_range]; unfold lim; exact Ze113)]
 have e:(List.range 6).map (rTok ds)=(ds.map wordOf).map .str++[.str []]:=by
  rw [List.range_succ,List.map_append]
  congr 1
  have m:=YAE ds 0
  rw [h5] at m
  conv=>rhs; rw [←m]
  rw [List.map_map,List.map_map]
  refine List.map_congr_left fun i hi=>?_
  unfold rTok
  rw [if_pos (by simpa using hi)]
  rfl
 rw [e]
 rfl
theorem lw7 {W R X c d:AV} {t text:List Nat} {n p pos:Nat} {line:Int} (h1:binA σ .Add W (.lst [.str []])=some X) (h2:cmpA σ .NotEq R X=some false) (h3:σ[n]?=some (.lexer text pos line p)) (h4:meA σ .count (.str t) [.str [10]]=some (c,σ)) (h5:binA σ .Add (.int 1) c=some d) (h6:cmpA σ .NotEq (.int line) d=some false):
  exS Φ (.ite (.or (.cons (.cmp .NotEq (.var 6) (.bin .Add (.var 3) (.lst false (.cons (.str []) .nil)))) (.cons (.cmp .NotEq (.lineno (.var 5)) (.bin .Add (.int 1) (.me .count (.var 4) (.cons (.str [10]) .nil)))) .nil))) (.cons (.ret (.bool false)) .nil) .nil) [v0,v1,v2,some W,some (.str t),some (.loc n),some R,v7,v8,v9,v10,v11,v12] σ=some (.next,[v0,v1,v2,some W,some (.str t),some (.loc n),some R,v7,v8,v9,v10,v11,v12],σ):=by
 have n1:=YX (σ:=σ) (vs:=[.str []]) (by show 1≤1000000; exact Ze93)
 have m:meOk σ .count (.str t)=true:=rfl
 exact wS fun k=>k n1 h1 h2 h3 m h4 h5 h6
theorem lw8 {R X a b:AV} (h1:sliA σ R .none (.int 5) .none=some X) (h2:Φ 127 [X] σ=some (.tup [a,b],σ)):exS Φ (.unp 7 8 (.call 127 (.cons (.sli (.var 6) .none (.int 5) .none) .nil))) [v0,v1,v2,v3,v4,v5,some R,v7,v8,v9,v10,v11,v12] σ=some (.next,[v0,v1,v2,v3,v4,v5,some R,some a,some b,v9,v10,v11,v12],σ):=by
 exact wS fun k=>k h1 h2 rfl
theorem lw9 {W r:AV} (h:Φ 144 [W] σ=some (r,σ)):exS Φ (.asg 9 (.call 144 (.cons (.var 3) .nil))) [v0,v1,v2,some W,v4,v5,v6,v7,v8,v9,v10,v11,v12] σ=some (.next,[v0,v1,v2,some W,v4,v5,v6,v7,v8,some r,v10,v11,v12],σ):=by
 exact wS fun k=>k h
theorem lw10 {W r:AV} (h:Φ 149 [W] σ=some (r,σ)):exS Φ (.asg 10 (.call 149 (.cons (.var 9) .nil))) [v0,v1,v2,v3,v4,v5,v6,v7,v8,some W,v10,v11,v12] σ=some (.next,[v0,v1,v2,v3,v4,v5,v6,v7,v8,some W,some r,v11,v12],σ):=by
 exact wS fun k=>k h
theorem lw11 {a b:AV} (h:cmpA σ .NotEq a b=some false):exS Φ (.ite (.cmp .NotEq (.var 7) (.var 10)) (.cons (.ret (.bool false)) .nil) .nil) [v0,v1,v2,v3,v4,v5,v6,some a,v8,v9,some b,v11,v12] σ=some (.next,[v0,v1,v2,v3,v4,v5,v6,some a,v8,v9,some b,v11,v12],σ):=by
 exact wS fun k=>k h
noncomputable def law12E:E:=.comp2 false (.tup (.cons (.sub (.var 3) (.sub (.sub (.var 10) (.var 13)) (.int 1))) (.cons (.sub (.var 3) (.sub (.sub (.var 10) (.var 14)) (.int 1))) .nil))) (.bi .range (.cons (.int 5) .nil)) (.bi .range (.cons (.var 13) .nil))
theorem lw12 {a l x y:AV} (h1:biA σ .sorted [a]=some x) (h2:evE Φ law12E [v0,v1,v2,v3,v4,v5,v6,v7,some a,v9,v10,v11,v12] σ=some (l,σ)) (h3:biA σ .sorted [l]=some y) (h4:cmpA σ .NotEq x y=some false):
  exS Φ (.ite (.cmp .NotEq (.bi .sorted (.cons (.var 8) .nil)) (.bi .sorted (.cons law12E .nil))) (.cons (.ret (.bool false)) .nil) .nil) [v0,v1,v2,v3,v4,v5,v6,v7,some a,v9,v10,v11,v12] σ=some (.next,[v0,v1,v2,v3,v4,v5,v6,v7,some a,v9,v10,v11,v12],σ):=by
 exact wS fun k=>k h1 h2 h3 h4
theorem lw13 {W r:AV} (h:Φ 154 [W] σ=some (r,σ)):exS Φ (.asg 11 (.call 154 (.cons (.var 9) .nil))) [v0,v1,v2,v3,v4,v5,v6,v7,v8,some W,v10,v11,v12] σ=some (.next,[v0,v1,v2,v3,v4,v5,v6,v7,v8,some W,v10,some r,v12],σ):=by
 exact wS fun k=>k h
theorem lw14 {e:E} {l r:AV} (h1:evE Φ e [v0,v1,v2,v3,v4,v5,v6,v7,v8,v9,v10,v11,v12] σ=some (l,σ)) (h2:binA σ .Add l (.lst [.int 0])=some r):exS Φ (.asg 12 (.bin .Add e (.lst false (.cons (.int 0) .nil)))) [v0,v1,v2,v3,v4,v5,v6,v7,v8,v9,v10,v11,v12] σ=some (.next,[v0,v1,v2,v3,v4,v5,v6,v7,v8,v9,v10,v11,some r],σ):=by
 have n1:=YX (σ:=σ) (vs:=[.int 0]) (by show 1≤1000000; exact Ze93)
 have c:evE Φ (.bin .Add e (.lst false (.cons (.int 0) .nil))) [v0,v1,v2,v3,v4,v5,v6,v7,v8,v9,v10,v11,v12] σ=some (r,σ):=bs h1 (bs (show evE Φ (.lst false (.cons (.int 0) .nil)) [v0,v1,v2,v3,v4,v5,v6,v7,v8,v9,v10,v11,v12] σ=some (.lst [.int 0],σ) from n1) (ms h2))
 exact ms c
theorem lw15 {e:E} {l:AV} {ρ:YF} (h1:evE Φ e ρ σ=some (l,σ)) (h2:cmpA σ .Eq l (.lst [])=some true):exS Φ (.ret (.cmp .Eq e (.lst false .nil))) ρ σ=some (.ret (.bool true),ρ,σ):=by
 have n0:=YX (σ:=σ) (vs:=[]) (by show 0≤1000000; exact Ze96)
 have c:evE Φ (.cmp .Eq e (.lst false .nil)) ρ σ=some (.bool true,σ):=bs h1 (bs (show evE Φ (.lst false .nil) ρ σ=some (.lst [],σ) from n0) (ms h2))
 exact ms c
end
noncomputable def prL (x:List Nat×List Nat):List (List Nat):=[x.1,x.2]
theorem YFn:∀ l:List (List Nat×List Nat),pairsOf (l.map tupS)=some (l.map prL)
 | []=>rfl
 | x::r=>by
  rw [List.map_cons,List.map_cons]
  unfold pairsOf
  rw [YFn r]
  rfl
theorem YGr {σ:List AO} {l:List (List Nat×List Nat)} (h2:2≤l.length) (h64:l.length<64):biA σ .sorted [.lst (l.map tupS)]=some (.lst ((sortSS (l.map prL)).map fun p=>.tup (p.map .str))):=by
 unfold biA biC
 exact YG YFX (YG (YFn l) (YO (by rw [List.length_map]; exact ⟨h2,h64⟩) rfl))
theorem YJw {l:List (List Nat×List Nat)} (h:∀ x∈l,SOk x.1=true∧SOk x.2=true):gd 2 (.lst ((sortSS (l.map prL)).map fun p=>.tup (p.map .str)))=true:=by
 show (((sortSS (l.map prL)).map fun p=>AV.tup (p.map .str)).all fun v=>gd 1 v)=true
 rw [List.all_map,List.all_eq_true]
 intro p hp
 obtain ⟨x,hx,rfl⟩:=List.mem_map.mp ((YBC _).mem_iff.mp hp)
 obtain ⟨h1,h2⟩:=h x hx
 show ([AV.str x.1,AV.str x.2].all fun v=>gd 0 v)=true
 simp only [List.all_cons,List.all_nil,Bool.and_true,gd,h1,h2]
theorem YKD {ws:List (List Nat)} (hw:Five ws) (i:Nat):SOk (wat ws i)=true:=by
 by_cases h:i<5
 ·exact (hw.at h).1.sok
 ·unfold wat
  rw [List.getD,List.getElem?_eq_none (by rw [hw.len]; exact Ze213 h)]
  rfl
theorem YKs {ws:List (List Nat)} (hw:Five ws) {P:List Nat}:∀ x∈outP (wat ws) P,SOk x.1=true∧SOk x.2=true:=by
 intro x hx
 unfold outP at hx
 obtain ⟨k,_,hx⟩:=List.mem_flatMap.mp hx
 obtain ⟨c,_,rfl⟩:=List.mem_map.mp hx
 exact ⟨YKD hw _,YKD hw _⟩
theorem YEr {W:Nat→List Nat} {P:List Nat} (h:P.length=5):(outP W P).length=10:=by
 rcases P with _ | ⟨a,_ | ⟨b,_ | ⟨c,_ | ⟨d,_ | ⟨e,_ | ⟨f,r⟩⟩⟩⟩⟩⟩ <;> first | rfl | (simp at h)
section
variable {Φ:Tab} {σ τ:List AO} {v0 v1 v2 v3 v4 v5 v6 v7 v8 v9 v10 v11 v12:Option AV}
theorem YQD {W U i j a b x y w z:AV} (h1:subA σ U i=some a) (h2:subA σ a (.int 1)=some x) (h3:subA σ W x=some w) (h4:subA σ U j=some b) (h5:subA σ b (.int 1)=some y) (h6:subA σ W y=some z):
  evE Φ (.tup (.cons (.sub (.var 3) (.sub (.sub (.var 10) (.var 13)) (.int 1))) (.cons (.sub (.var 3) (.sub (.sub (.var 10) (.var 14)) (.int 1))) .nil))) [v0,v1,v2,some W,v4,v5,v6,v7,v8,v9,some U,v11,v12,some i,some j] σ=some (.tup [w,z],σ):=by
 have l2:[w,z].length≤lim:=by show 2≤1000000; exact Ze74
 exact wE fun k=>k h1 h2 h3 h4 h5 h6 l2
theorem rng13 {i r:AV} {v14:Option AV} (h:biA σ .range [i]=some r):evE Φ (.bi .range (.cons (.var 13) .nil)) [v0,v1,v2,v3,v4,v5,v6,v7,v8,v9,v10,v11,v12,some i,v14] σ=some (r,σ):=by
 exact wE fun k=>k h
theorem YHt {P:List Nat} {k:Nat} (h:k≤P.length):(List.range k).map (fun j=>P.getD j 0)=P.take k:=by
 have:=YAE (P.take k) 0
 rw [List.length_take,Nat.min_eq_left h] at this
 rw [←this]
 refine List.map_congr_left fun j hj=>?_
 have hj:j<k:=by simpa using hj
 simp only [List.getD]
 rw [List.getElem?_take_of_lt hj]
theorem c12 {ws:List (List Nat)} {out:List (Nat×Nat)} (hw:Five ws) (h5:out.length=5) (hP:∀ x∈out,x.2<5):evE Φ law12E [v0,v1,v2,some (YK ws),v4,v5,v6,v7,v8,v9,some (.lst (out.map tupN)),v11,v12] σ=some (.lst ((outP (wat ws) (out.map (·.2))).map tupS),σ):=by
 have at':∀ i,i<5→∃ x,out[i]?=some x∧x.2=(out.map (·.2)).getD i 0∧x.2<5:=fun i hi=>by
  have hl:i<out.length:=by exact Ze207 hi h5
  refine ⟨out[i],List.getElem?_eq_getElem hl,?_,hP _ (List.getElem_mem hl)⟩
  simp [List.getD,List.getElem?_map,List.getElem?_eq_getElem hl]
 have sb:∀ i x,i<5→out[i]?=some x→subA σ (.lst (out.map tupN)) (nI i)=some (tupN x):=fun i x hi hx=>by
  unfold nI
  rw [YBv (by exact Nat.lt_of_lt_of_le (by assumption) (by decide)),List.getElem?_map,hx]
  rfl
 unfold law12E
 rw [YFA (l:=List.range 5) (e:=nI) (k:=fun i=>.rng 0 (i:Int) 1) (l2:=fun i=>List.range i) (e2:=nI) (h:=fun i j=>tupS (wat ws ((out.map (·.2)).getD i 0),wat ws ((out.map (·.2)).getD j 0))) rng5 (YR _ 5) ?_ ?_,YX]
 ·unfold outP
  rw [List.map_flatMap,List.length_map,h5]
  have:∀ k∈List.range 5,((List.range k).map fun j=>tupS (wat ws ((out.map (·.2)).getD k 0),wat ws ((out.map (·.2)).getD j 0)))=(((out.map (·.2)).take k).map fun c=>(wat ws ((out.map (·.2)).getD k 0),wat ws c)).map tupS:=fun k hk=>by
   have hk:k<5:=by simpa using hk
   rw [←YHt (P:=out.map (·.2)) (by rw [List.length_map]; exact Ze214 hk h5),List.map_map,List.map_map]
   rfl
  rw [YCd this]
 ·rw [List.length_flatMap]
  simp only [List.length_map,List.length_range]
  show ([0,1,2,3,4].map fun i=>i).sum≤1000000
  decide
 ·intro i hi
  have hi:i<5:=by simpa using hi
  exact ⟨rng13 (YCK (by simp [fits]; exact Zi127 hi)),YR _ i⟩
 ·intro i hi j hj
  have hi:i<5:=by simpa using hi
  have hj:j<i:=by simpa using hj
  obtain ⟨x,x1,x2,x3⟩:=at' i hi
  obtain ⟨y,y1,y2,y3⟩:=at' j (by exact Ze132 hi hj)
  rw [←x2,←y2]
  exact YQD (sb i x hi x1) YGT (YAt hw x3) (sb j y (by exact Ze132 hi hj) y1) YGT (YAt hw y3)
end
theorem YOj {p q:List Nat}:cost p q≤2*p.length:=by
 induction p generalizing q with
 | nil=>simp [cost]
 | cons x p ih=>
  cases q with
  | nil=>simp [cost]
  | cons y q=>
   have:=ih (q:=q)
   have:=YEL x y
   simp only [cost,List.length_cons]
   exact Ze135 ‹_› this
theorem YTs {a b:List Nat} (ha:IsWord a) (hb:IsWord b):wd a b≤9:=by
 have h:=YAv (List.take_sublist (min a.length b.length) a) (List.take_sublist (min a.length b.length) b) (by rw [List.length_take,List.length_take]; exact Ze215)
 have l:=(YEx ha.2.1 hb.2.1).2 _ h
 have c:=YOj (p:=a.take (min a.length b.length)) (q:=b.take (min a.length b.length))
 rw [List.length_take,List.length_take] at l
 rw [List.length_take] at c
 have:=ha.2.1
 have:=hb.2.1
 exact Ze216 l ‹_› this c
noncomputable def reach (out:List (Nat×Nat)):List Nat:=(out.drop 1).map (·.1)++[0]
theorem YLR {out:List (Nat×Nat)} (h5:out.length=5) {i:Nat} (hi:i<5):(reach out)[i]?=some (((out[i+1]?).map (·.1)).getD 0):=by
 rcases out with _ | ⟨a,_ | ⟨b,_ | ⟨c,_ | ⟨d,_ | ⟨e,_ | ⟨f,r⟩⟩⟩⟩⟩⟩
 ·simp at h5
 ·simp at h5
 ·simp at h5
 ·simp at h5
 ·simp at h5
 ·rcases i with _ | _ | _ | _ | _ | i
  ·rfl
  ·rfl
  ·rfl
  ·rfl
  ·rfl
  ·lia
 ·simp at h5
theorem fair {ws:List (List Nat)} (hw:Five ws) {out:List (Nat×Nat)} (g:Greedy (wD ws) [] [0,1,2,3,4] out) {i:Nat} (hi:i<5):
  (bests (wD ws) 31).getD (i+1) 0≤((out[i+1]?).map (·.1)).getD 0∧((out[i+1]?).map (·.1)).getD 0≤2*(bests (wD ws) 31).getD (i+1) 0:=by
 refine ⟨YLF (YMo hw) (fun a b ha hb=>YTs (hw.at ha).1 (hw.at hb).1) g hi _ rfl,?_⟩
 cases e:out[i+1]? with
 | none=>exact Nat.zero_le _
 | some x=>exact YQV (YMo hw) g e (by exact Ze217 hi)
section
variable {Φ:Tab} {σ τ:List AO} {v0 v1 v2 v3 v4 v5 v6 v7 v8 v9 v10 v11 v12:Option AV}
theorem YSf {U r:AV} (h:sliA σ U (.int 1) .none .none=some r):evE Φ (.sli (.var 7) (.int 1) .none .none) [v0,v1,v2,v3,v4,v5,v6,some U,v8,v9,v10,v11,v12] σ=some (r,σ):=by
 exact wE fun k=>k h
theorem YQH {x r:AV} (h:subA σ x (.int 0)=some r):evE Φ (.sub (.var 13) (.int 0)) [v0,v1,v2,v3,v4,v5,v6,v7,v8,v9,v10,v11,v12,some x] σ=some (r,σ):=by
 exact wE fun k=>k h
theorem c14 {out:List (Nat×Nat)} (h5:out.length=5):evE Φ (.comp false (.sub (.var 13) (.int 0)) (.sli (.var 7) (.int 1) .none .none) .nil) [v0,v1,v2,v3,v4,v5,v6,some (.lst (out.map tupN)),v8,v9,v10,v11,v12] σ=some (.lst (((out.drop 1).map (·.1)).map nI),σ):=by
 have f1:optI (.int 1)=some (some ((1:Nat):Int)):=YCD (by decide)
 have s:=YEM (σ:=σ) (vs:=out.map tupN) (hi:=.none) (st:=.none) f1 rfl rfl (by simp) (by rw [List.length_map]; unfold lim; exact Ze218 h5)
 rw [YKt,←List.map_drop] at s
 rw [Yc (l:=out.drop 1) (e:=tupN) (h:=fun x=>nI x.1) (YSf s) (Yl ..) (fun x _=>YQH YOk),YX (by rw [List.length_map,List.length_drop]; unfold lim; exact Ze219 h5),List.map_map]
 rfl
noncomputable def law15T:T:=.not (.cmp2 .LtE .LtE (.sub (.var 11) (.var 13)) (.sub (.var 12) (.bin .Sub (.var 13) (.int 1))) (.bin .Mult (.int 2) (.sub (.var 11) (.var 13))))
theorem YTo {B R k k' a r m:AV} (h1:subA σ B k=some a) (h2:binA σ .Sub k (.int 1)=some k') (h3:subA σ R k'=some r) (h4:cmpA σ .LtE a r=some true) (h5:binA σ .Mult (.int 2) a=some m) (h6:cmpA σ .LtE r m=some true):
  evT Φ law15T [v0,v1,v2,v3,v4,v5,v6,v7,v8,v9,v10,some B,some R,some k] σ=some (false,σ):=by
 exact wT fun k=>k h1 h2 h3 h4 h1 h5 h6
theorem YKn (σ:List AO):Ym σ (.rng 1 6 1) ((List.range 5).map fun i=>nI (i+1)):=by
 have h:=YEf (σ:=σ) 1 5
 have e:((List.range 5).map fun (i:Nat)=>AV.int (1+(i:Int)))=(List.range 5).map fun i=>nI (i+1):=by
  refine List.map_congr_left fun i _=>?_
  have:(1+(i:Int))=((i+1:Nat):Int):=by exact Zi119
  rw [this]; rfl
 rw [e] at h
 exact h
theorem YSE {a b:Nat} (h:a≤b):cmpA σ .LtE (nI a) (nI b)=some true:=by
 unfold nI
 rw [YTx,decide_eq_true (by exact Zi99 h)]
theorem c15 {ws:List (List Nat)} (hw:Five ws) {out:List (Nat×Nat)} (g:Greedy (wD ws) [] [0,1,2,3,4] out):
  evE Φ (.comp false (.var 13) (.bi .range (.cons (.int 1) (.cons (.int 6) .nil))) (.cons law15T .nil)) [v0,v1,v2,v3,v4,v5,v6,v7,v8,v9,v10,some (.lst ((bests (wD ws) 31).map nI)),some (.lst ((reach out).map nI))] σ=some (.lst [],σ):=by
 have r1:=YRD (σ:=σ) (a:=1) (b:=6) (by simp [fits])
 have h5:=g.five
 rw [YBy (l:=List.range 5) (e:=fun i=>nI (i+1)) (h:=fun i=>nI (i+1)) (p:=fun _=>false) (itv:=.rng 1 6 1) (by exact wE fun k=>k r1) (YKn σ) ?_ (fun i _ h=>by cases h),YX]
 ·simp
 ·rw [List.length_map]
  exact Nat.le_trans (List.length_filter_le _ _) (by simp [lim])
 ·intro i hi
  have hi:i<5:=by simpa using hi
  obtain ⟨f1,f2⟩:=fair hw g hi
  have lb:=YCj (wD ws) 31
  have bd:(bests (wD ws) 31).getD (i+1) 0≤100:=by
   rcases (YCA (wD ws) 31).2 (i+1) (by exact Ze217 hi) with q | ⟨m,_,_,_,q⟩
   ·omega (config:={})
   ·have:((out[i+1]?).map (·.1)).getD 0≤9:=by
     cases e:out[i+1]? with
     | none=>exact Nat.zero_le _
     | some x=>
      have:=(g.all.2 (i+1) x e).1
      have:=YHY (wD ws) ([]++(out.take (i+1)).map (·.2)) x.2
      show x.1≤9
      omega (config:={})
    omega (config:={})
  have sB:subA σ (.lst ((bests (wD ws) 31).map nI)) (nI (i+1))=some (nI ((bests (wD ws) 31).getD (i+1) 0)):=by
   generalize bests (wD ws) 31=b at lb
   unfold nI
   rw [YBv (by omega (config:={})),List.getElem?_map,List.getElem?_eq_getElem (by omega (config:={}))]
   simp [List.getD,List.getElem?_eq_getElem (show i+1<b.length by omega (config:={}))]
  have sR:subA σ (.lst ((reach out).map nI)) (nI i)=some (nI (((out[i+1]?).map (·.1)).getD 0)):=by
   have:=YLR h5 hi
   generalize reach out=b at this
   unfold nI
   rw [YBv (by omega (config:={})),List.getElem?_map,this]
   rfl
  generalize (bests (wD ws) 31).getD (i+1) 0=b at f1 f2 bd sB
  generalize ((out[i+1]?).map (·.1)).getD 0=r at f1 f2 sR
  have sk:binA σ .Sub (nI (i+1)) (.int 1)=some (nI i):=by
   have e:((i+1:Nat):Int)-1=(i:Int):=by omega
   unfold nI
   rw [YEt,e]
  have mu:binA σ .Mult (.int 2) (nI b)=some (nI (2*b)):=by
   have e:((2*b:Nat):Int)=2*(b:Int):=by omega
   unfold nI
   rw [e]
   exact mul2 (by simp [fits]; omega)
  exact YTo sB sk sR (YSE f1) mu (YSE f2)
end
theorem YJB (ns:List Int):(draws ns).length=5:=by unfold draws; rw [List.length_map,List.length_range]
theorem YOf {ds:List Int} (h:ds.length=5):Five (ds.map wordOf):=⟨by rw [List.length_map,h],fun w hw=>by
 obtain ⟨d,_,rfl⟩:=List.mem_map.mp hw
 exact YAU d⟩
theorem YTw (ds:List Int):rSt ds 0=lSt (YD ds) 0 1:=by
 have r:rest ds 0=YD ds:=by unfold rest gsAt; simp
 have p:posAt ds 0=0:=by unfold posAt; rw [r]; lia
 have l:lineAt ds 0=1:=by unfold lineAt; rw [r]; lia
 show lSt (YD ds) (posAt ds 0) (lineAt ds 0)=_
 rw [p,l]
theorem YOI {ds:List Int}:gd 1 (readV ds)=true:=by
 show (((ds.map wordOf).map AV.str++[AV.str []]).all fun v=>gd 0 v)=true
 rw [List.all_append,List.map_map,List.all_map,Bool.and_eq_true]
 refine ⟨?_,rfl⟩
 rw [List.all_eq_true]
 intro d _
 exact (YAU d).sok
theorem YPq (out:List (Nat×Nat)):gd 2 (.lst (out.map tupN))=true:=by
 show ((out.map tupN).all fun v=>gd 1 v)=true
 rw [List.all_map,List.all_eq_true]
 intro x _
 rfl
theorem YJs {σ:List AO} {t:List Nat} (h:t.length≤lim):meA σ .count (.str t) [.str [10]]=some (.int ((t.count 10:Nat):Int),σ):=rfl
theorem law_true (ns:List Int) (hl:ns.length≤63):YPD [.lst (ns.map .int)] [.codes false]=some (.bool true,[.codes true]):=by
 have h5:=YJB ns
 generalize hds:draws ns=ds at h5
 have hw:=YOf h5
 have tl:=YDq h5
 have tlim:(YD ds).length≤lim:=by unfold lim; lia
 have ok0:Ok [AO.codes false]:=rfl
 have okF:=YIZ (YD ds) (YD ds).length (endLine (YD ds))
 have e5:YAS [.str (YD ds)] [.codes false]=some (.loc 2,rSt ds 0):=by
  rw [YTw,YCT (b:=false) rfl tlim]
  rfl
 obtain ⟨out,asked,ep,g,pa⟩:=YFg (ws:=ds.map wordOf) (σ:=lSt (YD ds) (YD ds).length (endLine (YD ds))) hw okF rfl
 have et:=YFm (ws:=ds.map wordOf) (σ:=lSt (YD ds) (YD ds).length (endLine (YD ds))) hw okF
 obtain ⟨out',g',ef⟩:=YDJ (D:=wD (ds.map wordOf)) okF
 have eo:=g'.uniq g
 subst eo
 have eb:=YGf (D:=wD (ds.map wordOf)) okF
 have o5:=g.five
 have wl:((ds.map wordOf).map AV.str).length=5:=by rw [List.length_map,List.length_map,h5]
 have a7:binA (lSt (YD ds) (YD ds).length (endLine (YD ds))) .Add (YK (ds.map wordOf)) (.lst [.str []])=some (readV ds):=YJe (by rw [wl]; show 6≤1000000; lia)
 have f5:optI (.int 5)=some (some ((5:Nat):Int)):=YCD (by decide)
 have s8:=YEM (σ:=lSt (YD ds) (YD ds).length (endLine (YD ds))) (vs:=(ds.map wordOf).map AV.str++[.str []]) (lo:=.none) (st:=.none) rfl f5 rfl (by simp) (by rw [List.length_append,wl]; show 6≤1000000; lia)
 rw [YHK,List.take_left' wl] at s8
 have pl:(out'.map (·.2)).length=5:=by rw [List.length_map,o5]
 have al:asked.length=10:=by rw [pa.length_eq,YEr pl]
 have so1:=YGr (σ:=lSt (YD ds) (YD ds).length (endLine (YD ds))) (l:=asked) (by lia) (by lia)
 have so2:=YGr (σ:=lSt (YD ds) (YD ds).length (endLine (YD ds))) (l:=outP (wat (ds.map wordOf)) (out'.map (·.2))) (by rw [YEr pl]; lia) (by rw [YEr pl]; lia)
 rw [YQK (pa.map prL)] at so1
 have sg:=YCC (σ:=lSt (YD ds) (YD ds).length (endLine (YD ds))) (YJw (YKs hw (P:=out'.map (·.2)))) (by lia)
 have p5:∀ x∈out',x.2<5:=fun x hx=>by
  have:=(g.all.1 x.2).mp (List.mem_map_of_mem hx)
  simp at this
  lia
 have r14:binA (lSt (YD ds) (YD ds).length (endLine (YD ds))) .Add (.lst (((out'.drop 1).map (·.1)).map nI)) (.lst [.int 0])=some (.lst ((reach out').map nI)):=by
  rw [YJe (by rw [List.length_map,List.length_map,List.length_drop,List.length_singleton]; unfold lim; lia)]
  unfold reach
  rw [List.map_append]
  rfl
 have s2:=lw2 (Φ:=lawΦ) (σ:=[AO.codes false]) (ns:=ns) (v2:=none) (v3:=none) (v4:=none) (v5:=none) (v6:=none) (v7:=none) (v8:=none) (v9:=none) (v10:=none) (v11:=none) (v12:=none) hl
 rw [hds] at s2
 have body:exSs lawΦ YHW [some (.lst (ns.map .int)),none,none,none,none,none,none,none,none,none,none,none,none] [.codes false]=some (.ret (.bool true),[some (.lst (ns.map .int)),some fixV,some (.lst (ds.map .int)),some (YK (ds.map wordOf)),some (.str (YD ds)),some (.loc 2),some (readV ds),some (.lst (out'.map tupN)),some (.lst (asked.map tupS)),some (pv (wD (ds.map wordOf))),some (.lst (out'.map tupN)),some (.lst ((bests (wD (ds.map wordOf)) 31).map nI)),some (.lst ((reach out').map nI))],lSt (YD ds) (YD ds).length (endLine (YD ds))):=by
  refine (YC lw1).trans ?_
  refine (YC s2).trans ?_
  refine (YC (lw3 ok0 (by lia))).trans ?_
  refine (YC (lw4 ok0 h5)).trans ?_
  refine (YC (lw5 (YQs.trans e5))).trans ?_
  refine (YC (lw6 h5)).trans ?_
  refine (YC (lw7 a7 (YCC YOI (by lia)) rfl (YJs tlim) YAo (YCC (k:=0) rfl (by lia)))).trans ?_
  refine (YC (lw8 s8 (YRS.trans ep))).trans ?_
  refine (YC (lw9 (YQi.trans et))).trans ?_
  refine (YC (lw10 (YRm.trans ef))).trans ?_
  refine (YC (lw11 (YCC (YPq out') (by lia)))).trans ?_
  refine (YC (lw12 so1 (c12 hw o5 p5) so2 sg)).trans ?_
  refine (YC (lw13 (YRn.trans eb))).trans ?_
  refine (YC (lw14 (c14 o5) r14)).trans ?_
  exact YMf (lw15 (c15 hw g) (YKl (k:=1) rfl (by lia)))
 exact (Yt [some (.lst (ns.map .int)),none,none,none,none,none,none,none,none,none,none,none,none] rfl rfl body (by simp [lSt]) rfl (YZ rfl)).trans rfl
end Mine
end
theorem PySem.Challenge.cw_pg0187_01_holds : PySem.Challenge.rw_pg0187_01.Holds := by
  exact Mine.top_of Mine.law_true
