import PyProof.Rows.All
import Wide.All
import OpenK.AllK
import Wide.FinOn
import Lean
import PySem.Challenge.RW_oy0352_01
open PySem PySem.W PySem.Calls PyProof.Rows PySem.W.Fast
set_option Elab.async false
set_option maxRecDepth 100000
set_option linter.all false
set_option genSizeOf false
set_option genInjectivity false
set_option linter.unusedVariables false
set_option linter.unusedSimpArgs false
namespace Mine
noncomputable section
section
set_option maxHeartbeats 0
noncomputable abbrev lawR:OpenLaw:=PySem.Challenge.rw_oy0352_01
noncomputable abbrev lawP:Program:=lawR.row.prog
theorem sd_bare:(["vars", "dir", "locals"]:List Str).filter (readsOut lawP lawP.main.body) = []:=by
 rw [te13343964577679436407]
 kernel_rfl
theorem sd_road:noRoadLSs { strict:=!(importedModules lawP.main.body).all cThrough.contains,foot:=none,bare:=[] } lawP.main.body = true:=by
 rw [te8326940854005059898,te5923862056798008813,te17691160309236699985]
 kernel_rfl
theorem sd_res:namesResolve lawP = true:=by
 rw [te8377067652309620493]
 kernel_rfl
theorem sd_attr:(namesMeet lawP lawP.main.body fun _ n=>attrL n) = true:=by
 rw [te17119622794617984870,te17868728402115742887]
 kernel_rfl
theorem z58:(namesMeet lawR.prog lawR.above fun _ n=>!lawR.own.contains n) = true:=by
 rw [te17119622794617984870,te3471404346716756564]
 kernel_rfl
theorem sd_open:looksOpen lawP = true:=by
 unfold looksOpen
 rw [sd_res,sd_attr,sd_bare,sd_road]
 kernel_rfl
theorem said_:PySem.Challenge.rw_oy0352_01.wellSaid = true:=by
 unfold OpenLaw.wellSaid OpenRow.wellSaid OpenRow.partSaid
 rw [sd_open,z58]
 rw [te17119622794617984870,te8326940854005059898,te16286561074155671207,te6984425678791042302,te8179353310426384613,named_eq]
 kernel_rfl
end
inductive V where
 | none | bool (b:Bool) | int (i:Int) | str (s:List Nat) | obj (n:Nat) | top (v:Value)
inductive O where
 | list (xs:List V) | tup (xs:List V) | inst (C:Addr) (fs:List (Str×V)) | deque | rng (n:Nat) | fix (o:Obj) (xs:List V)
inductive EK where
 | val | stop
inductive Fl where
 | next | brk | cont | ret (v:V)
noncomputable abbrev Lo:=Str→Option V
noncomputable abbrev Hp:=List O
noncomputable abbrev Cell:=Addr×Addr
noncomputable def upd (m:Lo) (x:Str) (v:V):Lo:=fun y=>if y = x then some v else m y
noncomputable def lk (fs:List (Str×V)) (x:Str):Option V:=match fs with
 | []=>none
 | f::r=>if f.1 = x then some f.2 else lk r x
noncomputable def put (fs:List (Str×V)) (x:Str) (v:V):List (Str×V):=match fs with
 | []=>[(x,v)]
 | f::r=>if f.1 = x then (f.1,v)::r else f::put r x v
noncomputable def cap:Nat:=100000
noncomputable def strV (s:Str):Option V:=if s.cps.toList.length≤cap then some (.str s.cps.toList) else none
noncomputable def zuf:Value→Option V
 | .none=>some .none
 | .bool b=>some (.bool b)
 | .int i _=>some (.int i)
 | .str s _=>strV s
 | .ref a=>some (.top (.ref a))
 | .type n=>some (.top (.type n))
 | .builtin n=>some (.top (.builtin n))
 | _=>none
noncomputable def zu4 (K:Frag) (x:Str):Option V:=match nsIn K mainGlobals x with
 | some (some v)=>zuf v
 | some none=>if x = "__name__" then none else (bootBuiltins x).bind zuf
 | none=>none
section
variable {α:Type}
noncomputable def as0 (k:Option α):List V→Option α
 | []=>k
 | _::_=>none
noncomputable def as1 (k:V→Option α):List V→Option α
 | []=>none
 | v::r=>as0 (k v) r
noncomputable def as2 (k:V→V→Option α):List V→Option α
 | []=>none
 | v::r=>as1 (k v) r
noncomputable def as4 (k:V→V→V→V→Option α):List V→Option α
 | []=>none
 | v::[]=>none
 | v::w::r=>as2 (k v w) r
noncomputable def onS (k:List Nat→Option α):V→Option α
 | .str l=>k l
 | _=>none
noncomputable def onI (k:Int→Option α):V→Option α
 | .int i=>k i
 | _=>none
noncomputable def onO (k:Nat→Option α):V→Option α
 | .obj n=>k n
 | _=>none
noncomputable def onC (k:Nat→Option α):List Nat→Option α
 | [c]=>k c
 | _=>none
noncomputable def onLs (k:List V→Option α):Option O→Option α
 | some (.list xs)=>k xs
 | _=>none
noncomputable def onIn (k:Addr→List (Str×V)→Option α):Option O→Option α
 | some (.inst C fs)=>k C fs
 | _=>none
theorem ite_some {c:Prop} [D:Decidable c] {x y:Option α} {r:α} (h:(if c then x else y) = some r):(c∧x = some r)∨(¬ c∧y = some r):=by cases D with | isTrue q=>exact .inl ⟨q,h⟩ | isFalse q=>exact .inr ⟨q,h⟩
theorem zaf {c:Prop} [D:Decidable c] {x:Option α} {r:α} (h:(if c then x else none) = some r):c∧x = some r:=by cases D with | isTrue q=>exact ⟨q,h⟩ | isFalse q=>cases h
theorem zvs {k:Option α} {as:List V} {r:α} (h:as0 k as = some r):as = []∧k = some r:=by cases as with | nil=>exact ⟨rfl,h⟩ | cons=>cases h
theorem z4z {k:V→Option α} {as:List V} {r:α} (h:as1 k as = some r):∃ v,as = [v]∧k v = some r:=by
 cases as with
 | nil=>cases h
 | cons v t=>obtain ⟨rfl,h⟩:=zvs h; exact ⟨v,rfl,h⟩
theorem z4y {k:V→V→Option α} {as:List V} {r:α} (h:as2 k as = some r):∃ v w,as = [v,w]∧k v w = some r:=by
 cases as with
 | nil=>cases h
 | cons v t=>obtain ⟨w,rfl,h⟩:=z4z h; exact ⟨v,w,rfl,h⟩
theorem as4_inv {k:V→V→V→V→Option α} {as:List V} {r:α} (h:as4 k as = some r):∃ v w x y,as = [v,w,x,y]∧k v w x y = some r:=by
 cases as with
 | nil=>cases h
 | cons v t=>cases t with
   | nil=>cases h
   | cons w t=>obtain ⟨x,y,rfl,h⟩:=z4y h; exact ⟨v,w,x,y,rfl,h⟩
theorem onS_inv {k:List Nat→Option α} {v:V} {r:α} (h:onS k v = some r):∃ l,v = .str l∧k l = some r:=by cases v with | str l=>exact ⟨l,rfl,h⟩ | _=>cases h
theorem onI_inv {k:Int→Option α} {v:V} {r:α} (h:onI k v = some r):∃ i,v = .int i∧k i = some r:=by cases v with | int l=>exact ⟨l,rfl,h⟩ | _=>cases h
theorem zue {k:Nat→Option α} {v:V} {r:α} (h:onO k v = some r):∃ n,v = .obj n∧k n = some r:=by cases v with | obj l=>exact ⟨l,rfl,h⟩ | _=>cases h
theorem zkc {k:Nat→Option α} {l:List Nat} {r:α} (h:onC k l = some r):∃ c,l = [c]∧k c = some r:=by
 cases l with
 | nil=>cases h
 | cons c t=>cases t with
   | nil=>exact ⟨c,rfl,h⟩
   | cons=>cases h
theorem znn {k:List V→Option α} {x:Option O} {r:α} (h:onLs k x = some r):∃ xs,x = some (.list xs)∧k xs = some r:=by
 cases x with
 | none=>cases h
 | some o=>cases o with
   | list xs=>exact ⟨xs,rfl,h⟩
   | _=>cases h
theorem zdh {k:Addr→List (Str×V)→Option α} {x:Option O} {r:α} (h:onIn k x = some r):∃ C fs,x = some (.inst C fs)∧k C fs = some r:=by
 cases x with
 | none=>cases h
 | some o=>cases o with
   | inst C fs=>exact ⟨C,fs,rfl,h⟩
   | _=>cases h
end
section
variable {α:Type}
theorem onLs_l (k:List V→Option α) (xs:List V):onLs k (some (.list xs)) = k xs:=rfl
theorem onIn_i (k:Addr→List (Str×V)→Option α) (C:Addr) (fs:List (Str×V)):onIn k (some (.inst C fs)) = k C fs:=rfl
end
theorem lk_c (f:Str×V) (r:List (Str×V)) (x:Str):lk (f::r) x = if f.1 = x then some f.2 else lk r x:=rfl
theorem put_c (f:Str×V) (r:List (Str×V)) (x:Str) (v:V):put (f::r) x v = if f.1 = x then (f.1,v)::r else f::put r x v:=rfl
theorem zje {α β:Type} [BEq α] [LawfulBEq α] {l:List (α×β)} {y:α} {a:β}:l.lookup y = some a→(y,a)∈l:=by
 induction l with
 | nil=>exact fun h=>nomatch h
 | cons p r ih=>
   rw [List.lookup_cons]
   cases q:y == p.1 with
   | true=>intro h; cases h; rw [eq_of_beq q]; exact .head _
   | false=>exact fun h=>.tail _ (ih h)
theorem z2l {L:List (Str×V)} {x:Str} {v:V}:lk L x = some v→(x,v)∈L:=by
 induction L with
 | nil=>exact fun h=>nomatch h
 | cons p r ih=>
   rw [lk_c]
   by_cases e:p.1 = x
   ·rw [if_pos e]; intro h; cases h; rw [← e]; exact .head _
   ·rw [if_neg e]; exact fun h=>.tail _ (ih h)
noncomputable def z90:Option O→Option Bool
 | some (.list xs)=>some (!xs.isEmpty)
 | some .deque=>some false
 | _=>none
noncomputable def zeq (H:Hp):V→Option Bool
 | .none=>some false
 | .bool b=>some b
 | .int i=>some (i != 0)
 | .str l=>some (!l.isEmpty)
 | .obj n=>z90 H[n]?
 | .top _=>none
theorem z0v (H:Hp) (n:Nat):zeq H (.obj n) = match H[n]? with | some (.list xs)=>some (!xs.isEmpty) | some .deque=>some false | _=>none:=rfl
noncomputable def addM (a b:V):Option V:=match a with
 | .int x=>onI (fun y=>some (.int (x + y))) b
 | .str x=>onS (fun y=>if x.length + y.length≤cap then some (.str (x++y)) else none) b
 | _=>none
noncomputable def binM (op:Operator) (a b:V):Option V:=match op with
 | .Add=>addM a b
 | .FloorDiv=>onI (fun x=>onI (fun y=>if 0 < y∧y≤1000 then some (.int (x / y)) else none) b) a
 | .Mod=>onI (fun x=>onI (fun y=>if 0 < y∧y≤1000 then some (.int (x % y)) else none) b) a
 | _=>none
noncomputable def eqN:V→Option Bool
 | .none=>some true
 | .str _=>some false
 | _=>none
noncomputable def eqB (x:Bool):V→Option Bool
 | .bool y=>some (x == y)
 | _=>none
noncomputable def eqS (x:List Nat):V→Option Bool
 | .none=>some false
 | .str y=>some (x == y)
 | _=>none
noncomputable def eqF (a b:V):Option Bool:=match a with
 | .none=>eqN b
 | .bool x=>eqB x b
 | .int x=>onI (fun y=>some (x == y)) b
 | .str x=>eqS x b
 | _=>none
noncomputable def and2:Option Bool→Option Bool→Option Bool
 | some a,y=>y.map (a && ·)
 | none,_=>none
noncomputable def allM (f:V→V→Option Bool) (xs ys:List V):Option Bool:=match xs with
 | []=>if ys.isEmpty then some true else none
 | x::xs=>match ys with
   | []=>none
   | y::ys=>and2 (f x y) (allM f xs ys)
noncomputable def isL:Option O→Option Bool
 | some (.list _)=>some false
 | _=>none
noncomputable def eqL (f:V→V→Option Bool) (x y:Option O):Option Bool:=onLs (fun xs=>onLs (fun ys=>if xs.length = ys.length then allM f xs ys else some false) y) x
noncomputable def eqO (H:Hp) (f:V→V→Option Bool) (n:Nat) (b:V):Option Bool:=match b with
 | .obj k=>if n = k then none else eqL f H[n]? H[k]?
 | .none=>isL H[n]?
 | _=>none
noncomputable def eqN1 (H:Hp) (b:V):Option Bool:=match b with
 | .obj k=>isL H[k]?
 | b=>eqN b
noncomputable def eqV (H:Hp) (d:Nat) (a b:V):Option Bool:=match d with
 | 0=>eqF a b
 | d + 1=>match a with
   | .obj n=>eqO H (eqV H d) n b
   | .none=>eqN1 H b
   | a=>eqF a b
theorem z34 {H:Hp} {d a b:Nat} {xs ys:List V} (n:a≠b) (ha:H[a]? = some (.list xs)) (hb:H[b]? = some (.list ys)):eqV H (d + 1) (.obj a) (.obj b) = if xs.length = ys.length then allM (eqV H d) xs ys else some false:=by
 show (if a = b then none else eqL (eqV H d) H[a]? H[b]?) = _
 rw [if_neg n,ha,hb]
 rfl
theorem zow {H:Hp} {d a b:Nat} {xs ys:List V} (n:a≠b) (ha:H[a]? = some (.list xs)) (hb:H[b]? = some (.list ys)) (hl:xs.length = ys.length):eqV H (d + 1) (.obj a) (.obj b) = allM (eqV H d) xs ys:=(z34 n ha hb).trans (if_pos hl)
theorem zxi (H:Hp) (d:Nat) (x y:List Nat):eqV H d (.str x) (.str y) = some (x == y):=by cases d <;> rfl
theorem z33 (H:Hp) (d:Nat) (x y:Bool):eqV H d (.bool x) (.bool y) = some (x == y):=by cases d <;> rfl
theorem eqV_sb {H:Hp} {d x y:Nat} {s c:List Nat} {t u:Bool} (hx:H[x]? = some (.list [.str s,.bool t])) (hy:H[y]? = some (.list [.str c,.bool u])) (n:x≠y):eqV H (d + 1) (.obj x) (.obj y) = some (s == c && t == u):=by
 rw [zow n hx hy rfl]
 show and2 (eqV H d (.str s) (.str c)) (and2 (eqV H d (.bool t) (.bool u)) (some true)) = _
 rw [zxi,z33]
 show some (s == c && ((t == u) && true)) = _
 rw [Bool.and_true]
noncomputable def isB (b:Bool):V→Option Bool
 | .bool a=>some (a == b)
 | .str _=>some false
 | _=>none
noncomputable def isN:V→Option Bool
 | .none=>some true
 | .bool _ | .int _ | .str _ | .obj _=>some false
 | _=>none
noncomputable def zjy:Value→Option String
 | .type n=>some n
 | _=>none
noncomputable def isT (n:String):V→Option Bool
 | .top v=>(zjy v).map (· == n)
 | _=>none
noncomputable def isV (a:V):V→Option Bool
 | .none=>isN a
 | .bool b=>isB b a
 | .top v=>(zjy v).bind fun n=>isT n a
 | _=>none
noncomputable def strs?:List V→Option (List (List Nat))
 | []=>some []
 | .str l::r=>(strs? r).map (l::·)
 | _::_=>none
theorem strs_c (l:List Nat) (r:List V):strs? (.str l::r) = (strs? r).map (l::·):=rfl
noncomputable def z52:Option O→Option (List (List Nat))
 | some (.list xs)=>strs? xs
 | some (.tup xs)=>strs? xs
 | _=>none
noncomputable def inS (H:Hp) (x:List Nat):V→Option Bool
 | .str l=>onC (fun c=>some (l.contains c)) x
 | .obj n=>(z52 H[n]?).map (·.contains x)
 | _=>none
noncomputable def inV (H:Hp) (a b:V):Option Bool:=onS (fun x=>inS H x b) a
noncomputable def lt2 (f:Int→Int→Bool) (a b:V):Option Bool:=onI (fun x=>onI (fun y=>some (f x y)) b) a
noncomputable def cmpM (H:Hp) (op:CmpOp) (a b:V):Option Bool:=match op with
 | .Eq=>eqV H 4 a b
 | .NotEq=>(eqV H 4 a b).map (!·)
 | .Lt=>lt2 (fun a b=>decide (a < b)) a b
 | .LtE=>lt2 (fun a b=>decide (a≤b)) a b
 | .Gt=>lt2 (fun a b=>decide (b < a)) a b
 | .GtE=>lt2 (fun a b=>decide (b≤a)) a b
 | .Is=>isV a b
 | .IsNot=>(isV a b).map (!·)
 | .In=>inV H a b
 | .NotIn=>(inV H a b).map (!·)
noncomputable def idx (i:Int) (n:Nat):Option Nat:=
 if 0≤i∧i < n then some i.toNat else if i < 0∧0≤i + n then some (i + n).toNat else none
noncomputable def clampI (i:Int) (n:Nat):Nat:=if i < 0 then (i + n).toNat else min i.toNat n
noncomputable def zdf (d:Nat) (n:Nat):V→Option Nat
 | .none=>some d
 | .int i=>some (clampI i n)
 | _=>none
noncomputable def cut {α:Type} (l:List α) (a b:Nat):List α:=(l.take b).drop a
noncomputable def seqO (o:Obj):Option (List Value):=if o.cls == .type "list" then (match o.data with
 | .seq vs _=>some vs.toList
 | _=>none) else none
noncomputable def topList (K:Frag) (a:Addr):Option (List Value):=(K.lookup a).bind seqO
noncomputable def z91 (K:Frag) (v:Value) (i:Int):Option V:=match v with
 | .ref a=>if 0≤i∧i < 1000 then (topList K a).bind fun vs=>(vs[i.toNat]?).bind zuf else none
 | _=>none
noncomputable def subM (K:Frag) (H:Hp) (a b:V):Option V:=match a with
 | .obj n=>onI (fun i=>onLs (fun xs=>(idx i xs.length).bind (xs[·]?)) H[n]?) b
 | .str l=>onI (fun i=>(idx i l.length).bind fun k=>(l[k]?).map fun c=>.str [c]) b
 | .top v=>onI (z91 K v) b
 | _=>none
theorem z51 (K:Frag) (H:Hp) (n:Nat) (i:Int):subM K H (.obj n) (.int i) = match H[n]? with | some (.list xs)=>(idx i xs.length).bind (xs[·]?) | _=>none:=rfl
theorem zm5 (K:Frag) (H:Hp) (l:List Nat) (i:Int):subM K H (.str l) (.int i) = (idx i l.length).bind fun k=>(l[k]?).map fun c=>.str [c]:=rfl
noncomputable def cutM (H:Hp) (x lo hi:V):Option (V×Hp):=match x with
 | .str l=>(zdf 0 l.length lo).bind fun a=>(zdf l.length l.length hi).map fun b=>(.str (cut l a b),H)
 | .obj n=>onLs (fun xs=>(zdf 0 xs.length lo).bind fun a=>(zdf xs.length xs.length hi).map fun b=>(.obj H.length,H++[.list (cut xs a b)])) H[n]?
 | _=>none
noncomputable def zgj {α:Type} (l:List α) (i k:Int):List α:=(sliceRange (sliceBounds (some i) none (some k) l.length).1 (sliceBounds (some i) none (some k) l.length).2.1 (sliceBounds (some i) none (some k) l.length).2.2).filterMap (l[·]?)
noncomputable def z2n:Option O→Option (List V)
 | some (.list xs)=>some xs
 | some (.fix _ xs)=>some xs
 | _=>none
noncomputable def listM (H:Hp) (n:Nat):Option (List V):=z2n H[n]?
noncomputable def z55 (H:Hp) (x lo st:V):Option (V×Hp):=onO (fun n=>onI (fun i=>onI (fun k=>(listM H n).bind fun xs=>if 0 < k then some (.obj H.length,H++[.list (zgj xs i k)]) else none) st) lo) x
noncomputable abbrev M (α:Type):Type:=Hp→(α→Hp→Prop)→(EK→Hp→Prop)→Prop
structure Fn where
 scope:Scope
 body:List Stmt
 bind:List V→List V→Option Lo
structure Prg where
 K:Frag
 fn:Addr→Nat→List Str→Option Fn
 cls:Addr→Option Addr
 meth:Addr→Str→Option Addr
 prop:Addr→Str→Option Addr
 datt:Addr→Str→Bool
 keeps:Addr→Bool
 hint:Addr→Bool
 glob:Str→Option V
 prog:Program
 w:World
 h₀:Heap
 mg:Str→Option Value
 mb:Str→Option Value
noncomputable def zky:Const→Option V
 | .none=>some .none
 | .bool b=>some (.bool b)
 | .int i=>some (.int i)
 | .str s=>strV s
 | _=>none
noncomputable def kd (sc:Scope) (x:Str):Option NameKind:=if x == ("__debug__" : Str) then none else sc.names.lookup x
noncomputable def zyt (l g:Option V):Option NameKind→Option V
 | some .local=>l
 | some .cell=>l
 | some .globalImplicit=>g
 | _=>none
noncomputable def zac (P:Prg) (sc:Scope) (m:Lo) (x:Str):Option V:=zyt (m x) (P.glob x) (kd sc x)
theorem zqz {P:Prg} {sc:Scope} {m:Lo} {x:Str} {v:V}:zac P sc m x = some v→(kd sc x = some .local∧m x = some v)∨(kd sc x = some .cell∧m x = some v)∨(kd sc x = some .globalImplicit∧P.glob x = some v):=by
 show zyt _ _ (kd sc x) = _→_
 cases kd sc x with
 | none=>exact fun h=>nomatch h
 | some k=>cases k with
   | «local»=>exact fun h=>.inl ⟨rfl,h⟩
   | cell=>exact fun h=>.inr (.inl ⟨rfl,h⟩)
   | globalImplicit=>exact fun h=>.inr (.inr ⟨rfl,h⟩)
   | _=>exact fun h=>nomatch h
noncomputable def unM (H:Hp) (op:UnaryOp) (v:V):Option V:=match op with
 | .USub=>onI (fun i=>some (.int (-i))) v
 | .Not=>(zeq H v).map fun b=>.bool (!b)
 | _=>none
noncomputable def zi1:V→Bool
 | .top (.builtin _)=>false
 | _=>true
noncomputable def zbz (P:Prg) (x:Str) (C:Addr) (fs:List (Str×V)):Option V:=if P.datt C x then (lk fs x).bind fun v=>if zi1 v then some v else none else none
noncomputable def attrM (P:Prg) (H:Hp) (v:V) (x:Str):Option V:=onO (fun n=>onIn (zbz P x) H[n]?) v
noncomputable def zbs (P:Prg) (H:Hp) (o:V) (x:Str) (v:V):Option Hp:=onO (fun n=>onIn (fun C fs=>if P.datt C x && decide (fs.length < 100) then some (H.set n (.inst C (put fs x v))) else none) H[n]?) o
noncomputable def propM (P:Prg) (H:Hp) (v:V) (x:Str):Option Addr:=onO (fun n=>onIn (fun C _=>P.prop C x) H[n]?) v
noncomputable def methM (P:Prg) (H:Hp) (v:V) (x:Str):Option Addr:=onO (fun n=>onIn (fun C fs=>if (lk fs x).isNone then P.meth C x else none) H[n]?) v
noncomputable def isSp (c:Nat):Bool:=Unicode.isSpace c
noncomputable def za4 (l:List Nat):List Nat:=(l.reverse.dropWhile isSp).reverse
noncomputable def zzu (l x:List Nat):Bool:=x.length≤l.length && l.drop (l.length - x.length) == x
noncomputable def lowA (c:Nat):Nat:=if 65≤c∧c≤90 then c + 32 else c
noncomputable def findL (c:Nat):List Nat→Nat→Int
 | [],_=>-1
 | x::r,k=>if x = c then (k:Int) else findL c r (k + 1)
noncomputable def replL (c:Nat) (z:List Nat):List Nat→List Nat
 | []=>[]
 | x::r=>(if x = c then z else [x])++replL c z r
noncomputable def isNl (c:Nat):Bool:=Unicode.isLineBreak c
noncomputable def linesL (cur l:List Nat):List (List Nat):=match l with
 | []=>if cur.isEmpty then [] else [cur]
 | c::r=>if c = 13 then (match r with
   | []=>[cur]
   | d::r'=>if d = 10 then cur::linesL [] r' else cur::linesL [] (d::r'))
   else if isNl c then cur::linesL [] r else linesL (cur++[c]) r
theorem zgz (cur:List Nat):linesL cur [] = if cur.isEmpty then [] else [cur]:=rfl
theorem zhz (cur r:List Nat):linesL cur (13::10::r) = cur::linesL [] r:=rfl
theorem zh0 (cur:List Nat) (c:Nat) (r:List Nat) (h:∀ r',c = 13→r = 10::r'→False):linesL cur (c::r) = if isNl c then cur::linesL [] r else linesL (cur++[c]) r:=by
 cases r with
 | nil=>
   have e:linesL cur [c] = if c = 13 then [cur] else if isNl c then cur::linesL [] [] else linesL (cur++[c]) []:=by kernel_rfl
   by_cases q:c = 13
   ·subst q; kernel_rfl
   ·exact e.trans (if_neg q)
 | cons d r=>
   have e:linesL cur (c::d::r) = if c = 13 then (if d = 10 then cur::linesL [] r else cur::linesL [] (d::r)) else if isNl c then cur::linesL [] (d::r) else linesL (cur++[c]) (d::r):=by kernel_rfl
   by_cases q:c = 13
   ·subst q
    exact e.trans ((if_pos rfl).trans ((if_neg fun e:d = 10=>h r rfl (congrArg (·::r) e)).trans (if_pos (by kernel_rfl:isNl 13 = true)).symm))
   ·exact e.trans (if_neg q)
theorem findL_c (c x:Nat) (r:List Nat) (k:Nat):findL c (x::r) k = if x = c then (k:Int) else findL c r (k + 1):=rfl
theorem replL_c (c:Nat) (z:List Nat) (x:Nat) (r:List Nat):replL c z (x::r) = (if x = c then z else [x])++replL c z r:=rfl
noncomputable def ints?:List V→Option (List Int)
 | []=>some []
 | .int l::r=>(ints? r).map (l::·)
 | _::_=>none
theorem ints_c (i:Int) (r:List V):ints? (.int i::r) = (ints? r).map (i::·):=rfl
noncomputable def zm6 (x:Str):Option String:=
 if x = "rstrip" then some "str.rstrip" else if x = "lower" then some "str.lower" else if x = "splitlines" then some "str.splitlines"
 else if x = "endswith" then some "str.endswith" else if x = "find" then some "str.find" else if x = "join" then some "str.join" else none
noncomputable def zkk (x:Str):Option String:=
 if x = "append" then some "list.append" else if x = "pop" then some "list.pop" else if x = "extend" then some "list.extend" else none
noncomputable def zcd (H:Hp) (v:V) (x:Str):Option String:=match v with
 | .str _=>zm6 x
 | .obj n=>onLs (fun _=>zkk x) H[n]?
 | _=>none
theorem zy4 (H:Hp) (n:Nat) (x:Str):zcd H (.obj n) x = match H[n]? with | some (.list _)=>zkk x | _=>none:=rfl
noncomputable def zod (H:Hp):List V→Option (V×Hp):=as1 (onS fun l=>some (.str (za4 l),H))
noncomputable def zrp (H:Hp):List V→Option (V×Hp):=as1 (onS fun l=>if l.all (· < 128) then some (.str (l.map lowA),H) else none)
noncomputable def zee (H:Hp):List V→Option (V×Hp):=as1 (onS fun l=>if l.length < cap then some (.obj H.length,H++[.list ((linesL [] l).map .str)]) else none)
noncomputable def zgt (H:Hp):List V→Option (V×Hp):=as2 fun v w=>onS (fun l=>onS (fun y=>some (.bool (zzu l y),H)) w) v
noncomputable def z7h (H:Hp):List V→Option (V×Hp):=as4 fun v w x y=>onS (fun l=>onS (onC fun c=>onI (fun a=>onI (fun b=>if 0≤a∧b = l.length then some (.int (findL c (l.drop a.toNat) a.toNat),H) else none) y) x) w) v
noncomputable def joinL (H:Hp) (xs:List V):Option (V×Hp):=(strs? xs).bind fun ys=>if ys.flatten.length≤cap∧xs.length≤cap then some (.str ys.flatten,H) else none
noncomputable def z2i (H:Hp):List V→Option (V×Hp):=as2 fun v w=>onS (fun l=>if l.isEmpty then onO (fun n=>onLs (joinL H) H[n]?) w else none) v
noncomputable def mAppend (H:Hp):List V→Option (V×Hp):=as2 fun w v=>onO (fun n=>onLs (fun xs=>if xs.length < cap then some (.none,H.set n (.list (xs++[v]))) else none) H[n]?) w
noncomputable def mPop (H:Hp):List V→Option (V×Hp):=as1 (onO fun n=>onLs (fun xs=>(xs.getLast?).map fun v=>(v,H.set n (.list xs.dropLast))) H[n]?)
noncomputable def mExtend (H:Hp):List V→Option (V×Hp):=as2 fun v w=>onO (fun n=>onO (fun k=>onLs (fun xs=>onLs (fun ys=>if xs.length + ys.length≤cap∧k≠n∧ys≠[] then some (.none,H.set n (.list (xs++ys))) else none) H[k]?) H[n]?) w) v
theorem zd3 (H:Hp) (n:Nat) (v:V):mAppend H [.obj n,v] = match H[n]? with | some (.list xs)=>if xs.length < cap then some (.none,H.set n (.list (xs++[v]))) else none | _=>none:=rfl
theorem zy9 {H:Hp} {n k:Nat} {xs ys:List V} (h1:H[n]? = some (.list xs)) (h2:H[k]? = some (.list ys)):mExtend H [.obj n,.obj k] = if xs.length + ys.length≤cap∧k≠n∧ys≠[] then some (.none,H.set n (.list (xs++ys))) else none:=by
 show onLs _ H[n]? = _
 rw [h1]
 show onLs _ H[k]? = _
 rw [h2]
 rfl
theorem z7g (H:Hp) (l:List Nat) (c:Nat) (a b:Int):z7h H [.str l,.str [c],.int a,.int b] = if 0≤a∧b = l.length then some (.int (findL c (l.drop a.toNat) a.toNat),H) else none:=rfl
theorem z2h (H:Hp) (l:List Nat):zrp H [.str l] = if l.all (· < 128) then some (.str (l.map lowA),H) else none:=rfl
theorem zy7 (H:Hp) (l:List Nat):zod H [.str l] = some (.str (za4 l),H):=rfl
theorem zlp (H:Hp) (l:List Nat):zee H [.str l] = if l.length < cap then some (.obj H.length,H++[.list ((linesL [] l).map .str)]) else none:=rfl
theorem zij (H:Hp) (l y:List Nat):zgt H [.str l,.str y] = some (.bool (zzu l y),H):=rfl
noncomputable def zax (H:Hp) (id:String) (as:List V):Option (V×Hp):=
 if id = "str.rstrip" then zod H as else if id = "str.lower" then zrp H as else if id = "str.splitlines" then zee H as
 else if id = "str.endswith" then zgt H as else if id = "str.find" then z7h H as else if id = "str.join" then z2i H as
 else if id = "list.append" then mAppend H as else if id = "list.pop" then mPop H as else if id = "list.extend" then mExtend H as else none
noncomputable def hexOf (c:Nat):Option Nat:=if 48≤c∧c≤57 then some (c - 48) else if 65≤c∧c≤70 then some (c - 55) else if 97≤c∧c≤102 then some (c - 87) else none
noncomputable def typeM (H:Hp):V→Option V
 | .none=>some (.top (.type "NoneType"))
 | .bool _=>some (.top (.type "bool"))
 | .int _=>some (.top (.type "int"))
 | .str _=>some (.top (.type "str"))
 | .obj n=>onLs (fun _=>some (.top (.type "list"))) H[n]?
 | .top _=>none
noncomputable def cLen1 (H:Hp) (v:V):Option (V×Hp):=match v with
 | .str l=>some (.int l.length,H)
 | .obj n=>onLs (fun xs=>some (.int xs.length,H)) H[n]?
 | _=>none
noncomputable def cLen (H:Hp):List V→Option (V×Hp):=as1 (cLen1 H)
noncomputable def cChr (H:Hp):List V→Option (V×Hp):=as1 (onI fun i=>if 0≤i∧i < 256 then some (.str [i.toNat],H) else none)
theorem z4n (H:Hp) (i:Int):cChr H [.int i] = if 0≤i∧i < 256 then some (.str [i.toNat],H) else none:=rfl
noncomputable def cOrd (H:Hp):List V→Option (V×Hp):=as1 (onS (onC fun c=>some (.int c,H)))
noncomputable def hexM (H:Hp) (l:List Nat):Option (V×Hp):=match l with
 | []=>none
 | a::r=>onC (fun b=>(hexOf a).bind fun x=>(hexOf b).map fun y=>(.int (16 * x + y:Nat),H)) r
noncomputable def cInt2 (H:Hp) (v:V) (r:List V):Option (V×Hp):=match v with
 | .int i=>as0 (some (.int i,H)) r
 | .str l=>as1 (onI fun k=>if k = 16 then hexM H l else none) r
 | _=>none
noncomputable def cInt (H:Hp):List V→Option (V×Hp)
 | []=>none
 | v::r=>cInt2 H v r
theorem zxs (H:Hp) (i:Int):cInt H [.int i] = some (.int i,H):=rfl
theorem z9b (H:Hp) (a b:Nat):cInt H [.str [a,b],.int 16] = (hexOf a).bind fun x=>(hexOf b).map fun y=>(.int (16 * x + y:Nat),H):=rfl
noncomputable def strT:V→Bool
 | .top v=>v == .type "str"
 | _=>false
noncomputable def zxr (H:Hp):List V→Option (V×Hp):=as2 fun v w=>onS (fun _=>if strT w then some (.bool true,H) else none) v
noncomputable def cType (H:Hp):List V→Option (V×Hp):=as1 fun v=>(typeM H v).map fun t=>(t,H)
noncomputable def zxt (H:Hp):List V→Option (V×Hp):=as0 (some (.obj H.length,H++[.deque]))
noncomputable def cSum (H:Hp):List V→Option (V×Hp):=as1 (onO fun n=>(listM H n).bind fun xs=>(ints? xs).map fun l=>(.int l.sum,H))
noncomputable def zxq (H:Hp):List V→Option (V×Hp):=as1 (onI fun i=>if 0≤i∧i < 1000 then some (.obj H.length,H++[.rng i.toNat]) else none)
noncomputable def bcB (H:Hp) (n:String) (as:List V):Option (V×Hp):=
 if n = "len" then cLen H as else if n = "chr" then cChr H as else if n = "ord" then cOrd H as else if n = "isinstance" then zxr H as else if n = "sum" then cSum H as else none
noncomputable def bcT (H:Hp) (n:String) (as:List V):Option (V×Hp):=
 if n = "int" then cInt H as else if n = "type" then cType H as else if n = "collections.deque" then zxt H as else if n = "range" then zxq H as else none
noncomputable def zd7 (H:Hp) (f:Value) (as:List V):Option (V×Hp):=match f with
 | .builtin n=>bcB H n as
 | .type n=>bcT H n as
 | _=>none
inductive Src where
 | list (n:Nat) | rng (k:Nat) | str (l:List Nat)
noncomputable def srcO (n:Nat):Option O→Option Src
 | some (.list _)=>some (.list n)
 | some (.rng k)=>some (.rng k)
 | _=>none
noncomputable def srcM (H:Hp):V→Option Src
 | .obj n=>srcO n H[n]?
 | .str l=>some (.str l)
 | _=>none
noncomputable def itemAt (H:Hp) (x:Src) (i:Nat):Option (Option V):=match x with
 | .list n=>onLs (fun xs=>some xs[i]?) H[n]?
 | .rng k=>some (if i < k then some (.int i) else none)
 | .str l=>some ((l[i]?).map fun c=>.str [c])
noncomputable def zdq (sc' sc:Scope) (m:Lo):Bool:=sc'.kind == .function && sc'.names.all fun x=>
 x.2 != .cell && (x.2 != .free || (sc.names.lookup x.1 == some .cell && (m x.1).isSome)) && (x.2 != .local || sc'.names.lookup x.1 == some .local)
noncomputable def z26 (H:Hp) (x:V) (i:Nat):Option (Option V):=onO (fun n=>onLs (fun xs=>some xs[i]?) H[n]?) x
noncomputable def zfl (H:Hp) (x:V):Option Unit:=onO (fun n=>onLs (fun _=>some ()) H[n]?) x
noncomputable def iterM (P:Prg) (H:Hp) (n:Nat):Option Addr:=onIn (fun C _=>P.meth C "__iter__") H[n]?
noncomputable def nextM (P:Prg) (H:Hp) (n:Nat):Option Addr:=onIn (fun C _=>P.meth C "__next__") H[n]?
noncomputable def walkM (P:Prg) (H:Hp) (n a:Nat):Option Unit:=onIn (fun C _=>onLs (fun xs=>if P.hint C && (P.meth C "__next__").isSome && decide (xs.length < cap) then some () else none) H[a]?) H[n]?
noncomputable def sameM (n:Nat):V→V→Option Nat
 | .obj k,.obj a=>if k = n then some a else none
 | _,_=>none
noncomputable def z2k:Option NameKind→Bool
 | some .local=>true
 | _=>false
noncomputable def localB (sc:Scope) (x:Str):Bool:=z2k (kd sc x)
theorem zeg:z2k (some .local) = true:=rfl
theorem zmb {sc:Scope} {x:Str}:localB sc x = true→kd sc x = some .local:=by
 show z2k (kd sc x) = _→_
 cases kd sc x with
 | none=>exact fun h=>nomatch h
 | some k=>cases k with
   | «local»=>exact fun _=>rfl
   | _=>exact fun h=>nomatch h
noncomputable def names?:List Expr→Option (List Str)
 | []=>some []
 | .Name x _::r=>(names? r).map (x::·)
 | _::_=>none
noncomputable def zfd (m:Lo):List Str→List V→Option Lo
 | [],[]=>some m
 | x::xs,v::vs=>zfd (upd m x v) xs vs
 | _,_=>none
noncomputable def assignT (sc:Scope) (m:Lo) (H:Hp) (v:V) (xs:List Str):Option Lo:=if xs.all (localB sc) then onO (fun n=>onLs (fun vs=>if vs.length = xs.length then zfd m xs vs else none) H[n]?) v else none
noncomputable def assignM (sc:Scope) (m:Lo) (H:Hp) (t:Expr) (v:V):Option Lo:=match t with
 | .Name x _=>if localB sc x then some (upd m x v) else none
 | .Tuple es _ _=>(names? es).bind (assignT sc m H v)
 | _=>none
noncomputable def zb5 (e:Expr):Bool:=e.ctorIdx == 8 || (e.ctorIdx == 9 || (e.ctorIdx == 10 || e.ctorIdx == 11))
noncomputable def z3b (n:String):V→Bool
 | .top v=>v == .type n
 | _=>false
noncomputable def z29 (o:Option V):Option Unit:=o.bind fun v=>if z3b "ValueError" v then some () else none
noncomputable def zrz (o:Option V):Option Unit:=o.bind fun v=>if z3b "StopIteration" v then some () else none
noncomputable def z3a (e:Expr):Bool:=e.ctorIdx == 25
noncomputable def zzh (e:Expr):Bool:=e.ctorIdx == 7
noncomputable def zbm:Expr→Bool
 | .Call (.Name _ _) [] [] _=>false
 | _=>true
noncomputable def zke (e:Expr):Bool:=!(e.ctorIdx == 22)
noncomputable def zdi (es:List Expr):Bool:=es.all zke
noncomputable def okM (o:Expr) (apos pos:Pos) (es:List Expr):Bool:=bif apos.endLine == pos.line then (bif es.length - 29 == 0 then (bif zbm o then zdi es else false) else false) else false
noncomputable def okF (P:Prg):V→Bool
 | .top (.ref a)=>P.keeps a
 | .top (.builtin _)=>true
 | .top (.type _)=>true
 | _=>false
noncomputable def zqh (v:V) (a b:Str):Option V:=match v with
 | .str l=>onC (fun c=>if l.length≤cap∧b.cps.toList.length≤10∧a≠b∧(replL c b.cps.toList l).length≤cap then some (.str (replL c b.cps.toList l)) else none) a.cps.toList
 | _=>none
noncomputable def zhs (sc' sc:Scope):Scope:={ sc' with names:=sc'.names.map fun (n,k)=>if k == .free && sc.kind == .function && sc.names.lookup n == some .cell then (n,.cell) else (n,k) }
noncomputable abbrev strC:Expr→Option Str
 | .Constant (.str a) _ _=>some a
 | _=>none
theorem z74 {c x:Nat} (h:hexOf c = some x):c < 103:=by
 refine Nat.lt_of_not_le fun g=>?_
 have f {a b:Nat} (k:b < 103):¬ (a≤c∧c≤b):=fun z=>Nat.lt_irrefl _ (Nat.lt_of_lt_of_le k (Nat.le_trans g z.2))
 unfold hexOf at h
 rw [if_neg (f (by decide)),if_neg (f (by decide)),if_neg (f (by decide))] at h
 cases h
theorem zkr {p:Nat→Nat→Bool} (e:(List.range 103).all (fun c=>(hexOf c).all (p c)) = true) {c x:Nat} (h:hexOf c = some x):p c x = true:=by
 have:=List.all_eq_true.mp e c (List.mem_range.mpr (z74 h))
 rw [h] at this
 exact this
noncomputable def EK.cls:EK→Value
 | .val=>.type "ValueError"
 | .stop=>.type "StopIteration"
noncomputable def VR (ρ:List Cell):V→Value→Prop
 | .none,v=>v = .none
 | .bool b,v=>v = .bool b
 | .int i,v=>∃ t,v = .int i t
 | .str l,v=>l.length≤cap∧∃ t,v = .str ⟨l.toArray⟩ t
 | .obj n,v=>∃ c,ρ[n]? = some c∧v = .ref c.1
 | .top w,v=>v = w∧((∃ a,w = .ref a)∨(∃ n,w = .type n)∨∃ n,w = .builtin n)
noncomputable def VRs (ρ:List Cell):List V→List Value→Prop
 | [],[]=>True
 | x::xs,v::vs=>VR ρ x v∧VRs ρ xs vs
 | _,_=>False
noncomputable def FRs (p:Params) (ρ:List Cell):List (Str×V)→List DictEntry→Prop
 | [],[]=>True
 | f::fs,e::es=>((∃ t,e.key = .str f.1 t)∧e.hash = PyData.keyHash p f.1∧VR ρ f.2 e.val)∧FRs p ρ fs es
 | _,_=>False
noncomputable def zc1:Obj:={ cls:=.type "collections.deque",data:=.fields #[.none,.int 0 0] }
noncomputable def tupOf (its:Array Value) (n:Nat):Obj:={ cls:=.type "tuple",data:=.seq its n }
noncomputable def OR (p:Params) (ρ:List Cell) (h:Heap) (c:Cell):O→Prop
 | .list xs=>(c.2 = c.1∧xs.length≤cap)∧∃ vs n,h.get? c.1 = some (listOf (List.toArray vs) n)∧VRs ρ xs vs
 | .tup xs=>(c.2 = c.1∧xs.length≤cap)∧∃ vs n,h.get? c.1 = some (tupOf (List.toArray vs) n)∧VRs ρ xs vs
 | .inst C fs=>h.get? c.1 = some (instObj C c.2)∧∃ es n,h.get? c.2 = some (dictOf es n)∧FRs p ρ fs es
 | .deque=>c.2 = c.1∧h.get? c.1 = some zc1
 | .rng n=>(c.2 = c.1∧n < 1000)∧∃ t u v,IsRange h c.1 0 n 1 t u v
 | .fix o xs=>(c.2 = c.1∧xs.length≤cap)∧h.get? c.1 = some o∧∃ vs,(∀ h':Heap,h'.get? c.1 = some o→h'.IsList c.1 (List.toArray vs))∧VRs ρ xs vs
structure HR (p:Params) (ρ:List Cell) (H:Hp) (h:Heap):Prop where
 len:ρ.length = H.length
 obj:∀ (i:Nat) (c:Cell) (o:O),ρ[i]? = some c→H[i]? = some o→OR p ρ h c o
 apart:∀ (i j:Nat) (c d:Cell),ρ[i]? = some c→ρ[j]? = some d→i≠j→c.1≠d.1∧c.1≠d.2∧c.2≠d.1∧c.2≠d.2
noncomputable def Off (ρ:List Cell) (b:Addr):Prop:=∀ c∈ρ,b≠c.1∧b≠c.2
noncomputable def Pre (ρ ρ':List Cell):Prop:=∃ ν,ρ' = ρ++ν
theorem Pre.refl (ρ:List Cell):Pre ρ ρ:=⟨[],by simp⟩
theorem Pre.trans {a b c:List Cell} (x:Pre a b) (y:Pre b c):Pre a c:=by
 obtain ⟨u,rfl⟩:=x; obtain ⟨v,rfl⟩:=y; exact ⟨u++v,by simp⟩
theorem Pre.get {ρ ρ':List Cell} (x:Pre ρ ρ') {n:Nat} {c:Cell} (h:ρ[n]? = some c):ρ'[n]? = some c:=by
 obtain ⟨u,rfl⟩:=x
 rw [List.getElem?_append_left]; exact h
 exact (List.getElem?_eq_some_iff.mp h).1
theorem VR.mono {ρ ρ':List Cell} (x:Pre ρ ρ'):∀ {v:V} {w:Value},VR ρ v w→VR ρ' v w
 | .none,_,h=>h
 | .bool _,_,h=>h
 | .int _,_,h=>h
 | .str _,_,h=>h
 | .obj _,_,⟨c,h,e⟩=>⟨c,x.get h,e⟩
 | .top _,_,h=>h
theorem VRs.mono {ρ ρ':List Cell} (x:Pre ρ ρ'):∀ {vs:List V} {ws:List Value},VRs ρ vs ws→VRs ρ' vs ws
 | [],[],_=>trivial
 | _::_,_::_,⟨a,b⟩=>⟨a.mono x,VRs.mono x b⟩
theorem FRs.mono {p:Params} {ρ ρ':List Cell} (x:Pre ρ ρ') {fs:List (Str×V)}:∀ {es:List DictEntry},FRs p ρ fs es→FRs p ρ' fs es:=by
 induction fs with
 | nil=>intro es h; cases es with | nil=>trivial | cons _ _=>exact False.elim h
 | cons f fs ih=>intro es h; cases es with | nil=>exact False.elim h | cons e es=>exact ⟨⟨h.1.1,h.1.2.1,h.1.2.2.mono x⟩,ih h.2⟩
theorem OR.mono {p:Params} {ρ ρ':List Cell} {h h':Heap} {c:Cell} (x:Pre ρ ρ') (k1:∀ o,h.get? c.1 = some o→h'.get? c.1 = some o) (k2:∀ o,h.get? c.2 = some o→h'.get? c.2 = some o):
  ∀ {o:O},OR p ρ h c o→OR p ρ' h' c o
 | .list _,⟨e,vs,n,g,r⟩=>⟨e,vs,n,k1 _ g,r.mono x⟩
 | .tup _,⟨e,vs,n,g,r⟩=>⟨e,vs,n,k1 _ g,r.mono x⟩
 | .inst _ _,⟨g,es,n,g2,r⟩=>⟨k1 _ g,es,n,k2 _ g2,r.mono x⟩
 | .deque,⟨e,g⟩=>⟨e,k1 _ g⟩
 | .rng _,⟨e,t,u,v,g⟩=>⟨e,t,u,v,k1 _ g⟩
 | .fix _ _,⟨e,g,vs,q,r⟩=>⟨e,k1 _ g,vs,q,r.mono x⟩
noncomputable abbrev Base:=Prg
structure SI (B:Base) (ρ:List Cell) (H:Hp) (s:Shared):Prop where
 keep:∀ b o,B.h₀.get? b = some o→s.heap.get? b = some o
 hr:HR B.w.params ρ H s.heap
 fresh:∀ c∈ρ,B.h₀.get? c.1 = none∧B.h₀.get? c.2 = none
structure Ext (ρ ρ':List Cell) (s s':Shared):Prop where
 pre:∃ ν,ρ' = ρ++ν∧∀ c∈ν,s.heap.get? c.1 = none∧s.heap.get? c.2 = none
 keep:∀ b o,s.heap.get? b = some o→Off ρ b→∃ sl,s'.heap.get? b = some { o with slots:=sl }∧((∀ es ep,o.data≠.dict es ep)→sl = o.slots)
 gens:s'.gens = s.gens
 os:s'.os = s.os
theorem Ext.p {ρ ρ':List Cell} {s s':Shared} (x:Ext ρ ρ' s s'):Pre ρ ρ':=let ⟨ν,e,_⟩:=x.pre; ⟨ν,e⟩
theorem Off.add {ρ ν:List Cell} {b:Addr} (x:Off ρ b) (y:Off ν b):Off (ρ++ν) b:=fun c hc=>(List.mem_append.mp hc).elim (x c) (y c)
theorem Ext.off {ρ ρ':List Cell} {s s':Shared} (x:Ext ρ ρ' s s') {b:Addr} {o:Obj} (h:s.heap.get? b = some o) (y:Off ρ b):Off ρ' b:=by
 obtain ⟨ν,rfl,n⟩:=x.pre
 refine y.add fun c hc=>⟨fun e=>?_,fun e=>?_⟩
 ·have:=(n c hc).1; rw [← e,h] at this; cases this
 ·have:=(n c hc).2; rw [← e,h] at this; cases this
theorem Ext.refl (ρ:List Cell) (s:Shared):Ext ρ ρ s s:=⟨⟨[],by simp,(fun _ h=>nomatch h)⟩,fun b o h _=>⟨o.slots,h,fun _=>rfl⟩,rfl,rfl⟩
theorem Ext.trans {ρ ρ' ρ'':List Cell} {s s' s'':Shared} (x:Ext ρ ρ' s s') (y:Ext ρ' ρ'' s' s'') (hn:∀ c∈ρ,(∃ o,s'.heap.get? c.1 = some o)∧∃ o,s'.heap.get? c.2 = some o):Ext ρ ρ'' s s'':=by
 refine ⟨?_,fun b o h f=>?_,y.gens.trans x.gens,y.os.trans x.os⟩
 ·obtain ⟨ν,rfl,n1⟩:=x.pre
  obtain ⟨μ,rfl,n2⟩:=y.pre
  have back:∀ b,s'.heap.get? b = none→s.heap.get? b = none:=fun b hb=>by
   cases q:s.heap.get? b with
   | none=>rfl
   | some o=>
     by_cases f:Off ρ b
     ·obtain ⟨sl,h,_⟩:=x.keep b o q f; rw [h] at hb; cases hb
     ·exact absurd (fun c hc=>by
      obtain ⟨⟨o1,h1⟩,⟨o2,h2⟩⟩:=hn c hc
      exact ⟨fun e=>(by rw [e,h1] at hb; cases hb),fun e=>(by rw [e,h2] at hb; cases hb)⟩) f
  refine ⟨ν++μ,by simp,fun c hc=>?_⟩
  rcases List.mem_append.mp hc with hc | hc
  ·exact n1 c hc
  ·exact ⟨back _ (n2 c hc).1,back _ (n2 c hc).2⟩
 ·obtain ⟨sl,h1,e1⟩:=x.keep b o h f
  obtain ⟨sl2,h2,e2⟩:=y.keep b _ h1 (x.off h f)
  exact ⟨sl2,h2,fun hc=>(e2 hc).trans (e1 hc)⟩
theorem HR.live {p:Params} {ρ:List Cell} {H:Hp} {h:Heap} (x:HR p ρ H h) {c:Cell} (hc:c∈ρ):(∃ o,h.get? c.1 = some o)∧∃ o,h.get? c.2 = some o:=by
 obtain ⟨i,hi,rfl⟩:=List.getElem_of_mem hc
 have hH:i < H.length:=x.len ▸ hi
 have:=x.obj i ρ[i] H[i] (List.getElem?_eq_getElem hi) (List.getElem?_eq_getElem hH)
 revert this
 cases H[i] with
 | list xs=>rintro ⟨⟨e,_⟩,vs,n,g,_⟩; exact ⟨⟨_,g⟩,⟨_,e ▸ g⟩⟩
 | tup xs=>rintro ⟨⟨e,_⟩,vs,n,g,_⟩; exact ⟨⟨_,g⟩,⟨_,e ▸ g⟩⟩
 | inst C fs=>rintro ⟨g,es,n,g2,_⟩; exact ⟨⟨_,g⟩,⟨_,g2⟩⟩
 | deque=>rintro ⟨e,g⟩; exact ⟨⟨_,g⟩,⟨_,e ▸ g⟩⟩
 | rng n=>rintro ⟨⟨e,_⟩,t,u,v,g⟩; exact ⟨⟨_,g⟩,⟨_,e ▸ g⟩⟩
 | fix o xs=>rintro ⟨⟨e,_⟩,g,_⟩; exact ⟨⟨_,g⟩,⟨_,e ▸ g⟩⟩
theorem Ext.then {B:Base} {ρ ρ' ρ'':List Cell} {H':Hp} {s s' s'':Shared} (x:Ext ρ ρ' s s') (i:SI B ρ' H' s') (y:Ext ρ' ρ'' s' s''):Ext ρ ρ'' s s'':=by
 refine x.trans y fun c hc=>?_
 obtain ⟨ν,rfl,_⟩:=x.pre
 exact i.hr.live (List.mem_append.mpr (.inl hc))
section
variable {B:Base} {ρ:List Cell} {H:Hp} {s s':Shared}
theorem SI.same (I:SI B ρ H s) (k:∀ b o,s.heap.get? b = some o→s'.heap.get? b = some o) (hg:s'.gens = s.gens) (ho:s'.os = s.os):SI B ρ H s'∧Ext ρ ρ s s':=
 ⟨⟨fun b o e=>k _ _ (I.keep b o e),⟨I.hr.len,fun i c o h1 h2=>(I.hr.obj i c o h1 h2).mono (Pre.refl _) (k _) (k _),I.hr.apart⟩,I.fresh⟩,
  ⟨⟨[],by simp,(fun _ h=>nomatch h)⟩,fun b o h _=>⟨o.slots,k _ _ h,fun _=>rfl⟩,hg,ho⟩⟩
theorem SI.add (I:SI B ρ H s) (k:∀ b o,s.heap.get? b = some o→s'.heap.get? b = some o) (hg:s'.gens = s.gens) (ho:s'.os = s.os) {c:Cell} {o:O}
  (n1:s.heap.get? c.1 = none) (n2:s.heap.get? c.2 = none) (r:OR B.w.params (ρ++[c]) s'.heap c o):SI B (ρ++[c]) (H++[o]) s'∧Ext ρ (ρ++[c]) s s':=by
 have old:∀ b,s.heap.get? b = none→B.h₀.get? b = none:=fun b hb=>by
  cases q:B.h₀.get? b with
  | none=>rfl
  | some o=>rw [I.keep b o q] at hb; cases hb
 refine ⟨⟨fun b o e=>k _ _ (I.keep b o e),⟨by simp [I.hr.len],fun i d o' h1 h2=>?_,fun i j d e h1 h2 hij=>?_⟩,fun d hd=>?_⟩,⟨⟨[c],rfl,fun d hd=>by rw [List.mem_singleton.mp hd]; exact ⟨n1,n2⟩⟩,fun b o h _=>⟨o.slots,k _ _ h,fun _=>rfl⟩,hg,ho⟩⟩
 ·by_cases hi:i < ρ.length
  ·rw [List.getElem?_append_left hi] at h1
   rw [List.getElem?_append_left (I.hr.len ▸ hi)] at h2
   exact (I.hr.obj i d o' h1 h2).mono ⟨[c],rfl⟩ (k _) (k _)
  ·have hi':i = ρ.length:=by
    have:=(List.getElem?_eq_some_iff.mp h1).1
    simp at this; lia
   subst hi'
   have e1:d = c:=by simpa using h1.symm
   have e2:o' = o:=by
    rw [I.hr.len] at h2
    simpa using h2.symm
   subst e1 e2
   exact r
 ·have key:∀ i d,(ρ++[c])[i]? = some d→(i < ρ.length∧ρ[i]? = some d)∨(i = ρ.length∧d = c):=fun i d h=>by
   by_cases hi:i < ρ.length
   ·rw [List.getElem?_append_left hi] at h; exact .inl ⟨hi,h⟩
   ·have hi':i = ρ.length:=by
     have:=(List.getElem?_eq_some_iff.mp h).1
     simp at this; lia
    subst hi'
    exact .inr ⟨rfl,by simpa using h.symm⟩
  have new:∀ (i:Nat) (d:Cell),ρ[i]? = some d→d.1≠c.1∧d.1≠c.2∧d.2≠c.1∧d.2≠c.2:=fun i d h=>by
   obtain ⟨⟨o1,g1⟩,⟨o2,g2⟩⟩:=I.hr.live (List.mem_of_getElem? h)
   refine ⟨fun e=>?_,fun e=>?_,fun e=>?_,fun e=>?_⟩
   ·rw [e,n1] at g1; cases g1
   ·rw [e,n2] at g1; cases g1
   ·rw [e,n1] at g2; cases g2
   ·rw [e,n2] at g2; cases g2
  rcases key i d h1 with ⟨_,a⟩ | ⟨a,rfl⟩ <;> rcases key j e h2 with ⟨_,b⟩ | ⟨b,rfl⟩
  ·exact I.hr.apart i j d e a b hij
  ·exact new i d a
  ·have:=new j e b; exact ⟨this.1.symm,this.2.2.1.symm,this.2.1.symm,this.2.2.2.symm⟩
  ·exact absurd (a.trans b.symm) hij
 ·rcases List.mem_append.mp hd with hd | hd
  ·exact I.fresh d hd
  ·rw [List.mem_singleton.mp hd]; exact ⟨old _ n1,old _ n2⟩
theorem SI.set (I:SI B ρ H s) {i:Nat} {c:Cell} {o:O} (hc:ρ[i]? = some c) (k:∀ b o,b≠c.1→b≠c.2→s.heap.get? b = some o→s'.heap.get? b = some o) (hg:s'.gens = s.gens) (ho:s'.os = s.os)
  (r:OR B.w.params ρ s'.heap c o):SI B ρ (H.set i o) s'∧Ext ρ ρ s s':=by
 have hm:=List.mem_of_getElem? hc
 have f:=I.fresh c hm
 refine ⟨⟨fun b o e=>k _ _ (fun q=>by rw [q,f.1] at e; cases e) (fun q=>by rw [q,f.2] at e; cases e) (I.keep b o e),⟨by simp [I.hr.len],fun j d o' h1 h2=>?_,I.hr.apart⟩,I.fresh⟩,
  ⟨⟨[],by simp,(fun _ h=>nomatch h)⟩,fun b o h q=>⟨o.slots,k _ _ (q c hm).1 (q c hm).2 h,fun _=>rfl⟩,hg,ho⟩⟩
 by_cases hij:i = j
 ·subst hij
  rw [hc] at h1
  cases h1
  have:o' = o:=by
   have hl:i < H.length:=by rw [← I.hr.len]; exact (List.getElem?_eq_some_iff.mp hc).1
   rw [List.getElem?_set_self hl] at h2
   exact (Option.some.inj h2).symm
  subst this
  exact r
 ·rw [List.getElem?_set_ne hij] at h2
  have a:=I.hr.apart i j c d hc h1 hij
  exact (I.hr.obj j d o' h1 h2).mono (Pre.refl _) (k _ · a.1.symm a.2.2.1.symm) (k _ · a.2.1.symm a.2.2.2.symm)
theorem SI.cell (I:SI B ρ H s) {i:Nat} {o:O} (h:H[i]? = some o):∃ c,ρ[i]? = some c∧OR B.w.params ρ s.heap c o:=by
 have hl:i < ρ.length:=by rw [I.hr.len]; exact (List.getElem?_eq_some_iff.mp h).1
 exact ⟨ρ[i],List.getElem?_eq_getElem hl,I.hr.obj i _ o (List.getElem?_eq_getElem hl) h⟩
end
structure LR (B:Base) (ρ:List Cell) (env:Env) (m:Lo) (h:Heap):Prop where
 ns:∃ rm,h.Ns env.locals rm∧∀ x v,m x = some v→
  (env.scope.names.lookup x = some .local∧∃ v',rm x = some v'∧VR ρ v v')∨
  (env.scope.names.lookup x = some .cell∧∃ ca o v',env.cells.lookup x = some ca∧h.get? ca = some o∧o.data = .cell (some v')∧VR ρ v v'∧Off ρ ca)
 old:B.h₀.get? env.locals = none
 off:Off ρ env.locals
theorem LR.ext {B:Base} {ρ ρ':List Cell} {env:Env} {m:Lo} {s s':Shared} (L:LR B ρ env m s.heap) (x:Ext ρ ρ' s s'):LR B ρ' env m s'.heap:=by
 obtain ⟨⟨rm,⟨o,es,ep,ho,hd,r⟩,hv⟩,old,off⟩:=L
 obtain ⟨sl,h',_⟩:=x.keep _ o ho off
 refine ⟨⟨rm,⟨_,es,ep,h',hd,r⟩,fun y v hy=>?_⟩,old,x.off ho off⟩
 rcases hv y v hy with ⟨a,v',b,c⟩ | ⟨a,ca,o',v',b,c,d,f,g⟩
 ·exact .inl ⟨a,v',b,c.mono x.p⟩
 ·obtain ⟨sl',h'',e'⟩:=x.keep _ o' c g
  exact .inr ⟨a,ca,_,v',b,h'',d,f.mono x.p,x.off c g⟩
structure EnvOk (env:Env):Prop where
 kind:env.scope.kind = .function
 globals:env.globals = mainGlobals
 builtins:env.builtins = builtinsNs
noncomputable def FF (B:Base) (ρ:List Cell) (fl:List Env) (h:Heap):Prop:=∀ e∈fl,e.scope.kind≠.module∧
 ∃ L o,e.frame = some L∧h.get? L = some o∧(∃ es ep,o.data = .dict es ep)∧B.h₀.get? L = none∧Off ρ L
theorem FF.ext {B:Base} {ρ ρ':List Cell} {fl:List Env} {s s':Shared} (F:FF B ρ fl s.heap) (x:Ext ρ ρ' s s'):FF B ρ' fl s'.heap:=fun e he=>by
 obtain ⟨a,L,o,b,c,⟨es,ep,d⟩,f,g⟩:=F e he
 obtain ⟨sl,h',_⟩:=x.keep _ o c g
 exact ⟨a,L,_,b,h',⟨es,ep,d⟩,f,x.off c g⟩
structure Room (A:Around) (d:Nat):Prop where
 depth:A.depth + 4 * d + 8 < 1000
 units:A.units + 40 * d + 100 < 9900
 handled:A.handled = none
structure Fly (B:Base) (ρ ρ':List Cell) (H':Hp) (fl fk:List Env) (s:Shared) (Bh:Heap) (s':Shared):Prop where
 keep:∀ b o,B.h₀.get? b = some o→Bh.get? b = some o
 hr:HR B.w.params ρ' H' Bh
 fresh:∀ c∈ρ',B.h₀.get? c.1 = none∧B.h₀.get? c.2 = none
 pre:∃ ν,ρ' = ρ++ν∧∀ c∈ν,s.heap.get? c.1 = none∧s.heap.get? c.2 = none
 stay:∀ b o,s.heap.get? b = some o→Off ρ b→b ∉ fl.filterMap (·.frame)→∃ sl,Bh.get? b = some { o with slots:=sl }∧((∀ es ep,o.data≠.dict es ep)→sl = o.slots)
 frames:∀ L o,s.heap.get? L = some o→L∈fk.filterMap (·.frame)→∃ sl,s'.heap.get? L = some { o with slots:=sl }
 gens:s'.gens = s.gens
 os:s'.os = s.os
noncomputable def Thru (B:Base) (ρ:List Cell) (fl:List Env) (s:Shared) (k:EK) (H':Hp) (e:Value) (s':Shared):Prop:=
 ∃ ρ' Bh ea a0,e = .ref ea∧Fly B ρ ρ' H' fl fl s Bh s'∧Heap.FlyingW Bh fl ea k.cls a0 s'.heap
noncomputable def HeldP (B:Base) (ρ:List Cell) (env:Env) (outer:List Env) (s:Shared) (k:EK) (H':Hp) (e:Value) (s':Shared):Prop:=
 ∃ ρ' Bh ea a0 L,e = .ref ea∧env.frame = some L∧Fly B ρ ρ' H' (env::outer) outer s Bh s'∧Heap.HeldW Bh (env::outer) ea k.cls a0 L s'.heap
noncomputable def Here (B:Base) (A:Around) (ρ:List Cell) (env:Env) (outer:List Env) (s:Shared) (k:EK) (H':Hp) (e:Value) (s':Shared):Prop:=
 True∧wpAny (model B.prog B.w) A (noteFrame e env) (fun _ s''=>HeldP B ρ env outer s k H' e s'') (fun _ _=>False) s'
structure TopS (mg mb:Str→Option Value) (h:Heap):Prop where
 g:h.Ns mainGlobals mg
 b:h.Ns builtinsNs mb
 nolimit:h.NoLimit
 builtins:∀ x:Str,x ≠ "__name__" → mb x = bootBuiltins x
theorem TopS.keeps {mg mb:Str→Option Value} {h h':Heap} (T:TopS mg mb h) (k:∀ b o,h.get? b = some o→h'.get? b = some o):TopS mg mb h':=⟨T.g.keeps k,T.b.keeps k,T.nolimit.keeps k,T.builtins⟩
structure OkK (B:Base):Prop where
 kin:B.K.In B.h₀
 top:TopS B.mg B.mb B.h₀
 glob:∀ x v,B.glob x = some v→zu4 B.K x = some v
structure OkA (B:Base):Prop where
 datt:∀ C x,B.datt C x = true→plainGet B.K C x = true∧hasDictIn B.K C = true∧findIn B.K (.ref C) x = some none∧
  findIn B.K (.ref C) "__setattr__" = some (some (.builtin "object.__setattr__"))∧plainOver B.K C = true∧takerIn B.K C x = some none
 prop:∀ C x f,B.prop C x = some f→plainGet B.K C x = true∧hasDictIn B.K C = true∧∃ p rest,findIn B.K (.ref C) x = some (some (.ref p))∧
  specialIn B.K (.ref p) "__get__" = some (some (.builtin "property.__get__"))∧takesIn B.K (.ref p) = some true∧recIn B.K p "property" = some (.ref f::rest)
 meth:∀ C x f,B.meth C x = some f→plainGet B.K C x = true∧findIn B.K (.ref C) x = some (some (.ref f))∧isFn B.K (.ref f) = true∧keepIn B.K (.ref f) = true
 keeps:∀ a,B.keeps a = true→keepIn B.K (.ref a) = true
structure FnOk (B:Base) (a:Addr) (n:Nat) (ns:List Str) (fn:Fn) (fd:FuncData):Prop where
 obj:∃ oc od osl,B.K.lookup a = some ⟨oc,od,.func fd,osl⟩
 code:codeIn B.K fd.code fd.qualname = true
 body:fd.body = .stmts fn.body
 scope:fd.scope = fn.scope
 cells:∀ x∈fd.scope.names,x.2≠.cell
 coro:fd.scope.isCoroutine = false
 gen:fd.scope.isGenerator = false
 kind:fd.scope.kind = .function
 globals:fd.globals = mainGlobals
 builtins:fd.builtins = builtinsNs
 bind:∀ (s:Shared) (ρ:List Cell) (as ws:List V) (vs us:List Value) (m:Lo),(∀ b o,B.h₀.get? b = some o→s.heap.get? b = some o)→VRs ρ as vs→VRs ρ ws us→as.length = n→ns.length = ws.length→fn.bind as ws = some m→
  ∃ binds,BindsTo s fd ⟨vs,ns.zip us⟩ binds∧(∀ x∈binds,fd.scope.names.lookup x.1 = some .local)∧∀ x v,m x = some v→∃ v',binds.reverse.lookup x = some v'∧VR ρ v v'
noncomputable def ClsOk (B:Base) (a fi:Addr):Prop:=∀ (A:Around) (s:Shared) (R:Result→Shared→Prop) (vs:List Value) (kw:List (Str×Value)),(B.fn fi (vs.length + 1) (kw.map (·.1))).isNone = false→(∀ b o,B.h₀.get? b = some o→s.heap.get? b = some o)→A.depth + 10 < 1000→A.units + 100 < 9900→A.handled = none→
 (∀ (A':Around) (h':Heap) (x dx:Addr) (n tk:Nat),A'.frames = A.frames→A'.handled = none→A'.depth≤A.depth + 2→A'.units≤A.units + 20→(∀ b o,s.heap.get? b = some o→h'.get? b = some o)→s.heap.get? x = none→s.heap.get? dx = none→
  h'.get? x = some (instObj a dx)→h'.get? dx = some (dictOf [] n)→s.toks≤tk→
  codeAny (model B.prog B.w) A' (.call (.ref fi) ⟨.ref x::vs,kw⟩) (fun r s'=>match r with | .ok (.ret v)=>v = .none∧R (.ok (.ret (.ref x))) s' | .ok _=>False | .error e=>R (.error e) s') { s with heap:=h',toks:=tk })→
 codeAny (model B.prog B.w) A (.call (.ref a) ⟨vs,kw⟩) R s
structure OkF (B:Base):Prop where
 fn:∀ a n ns fn,B.fn a n ns = some fn→∃ fd,FnOk B a n ns fn fd
 cls:∀ a fi,B.cls a = some fi→ClsOk B a fi
noncomputable def OkI (B:Base):Prop:=∀ C,B.hint C = true→findIn B.K (.ref C) "__len__" = some none∧findIn B.K (.ref C) "__length_hint__" = some none
structure Ok (B:Base):Prop where
 k:OkK B
 a:OkA B
 f:OkF B
 i:OkI B
structure Cx (B:Base) (A:Around) (env:Env) (fl:List Env) (s:Shared) (ρ:List Cell) (H:Hp) (d:Nat) (sc:Scope) (m:Lo):Prop where
 sc:env.scope = sc
 ok:EnvOk env
 fr:A.frames = some fl
 room:Room A d
 si:SI B ρ H s
 lr:LR B ρ env m s.heap
 ff:FF B ρ fl s.heap
 toks:1≤s.toks
theorem Cx.next {B:Base} {A:Around} {env:Env} {fl:List Env} {s s':Shared} {ρ ρ':List Cell} {H H':Hp} {d:Nat} {sc:Scope} {m:Lo} (C:Cx B A env fl s ρ H d sc m) (i:SI B ρ' H' s') (x:Ext ρ ρ' s s') (t:1≤s'.toks):
  Cx B A env fl s' ρ' H' d sc m:=⟨C.sc,C.ok,C.fr,C.room,i,C.lr.ext x,C.ff.ext x,t⟩
noncomputable def za8 {α β:Type} (Rl:List Cell→α→β→Prop) (B:Base) (ρ:List Cell) (s:Shared) (r:α×Hp) (b:β) (s':Shared):Prop:=∃ ρ',Rl ρ' r.1 b∧SI B ρ' r.2 s'∧Ext ρ ρ' s s'
theorem Thru.back {B:Base} {ρ ρ':List Cell} {fl:List Env} {s s1 s':Shared} {k:EK} {H1 H':Hp} {e:Value} (F:FF B ρ fl s.heap) (i:SI B ρ' H1 s1) (x:Ext ρ ρ' s s1) (t:Thru B ρ' fl s1 k H' e s'):Thru B ρ fl s k H' e s':=by
 obtain ⟨ρ2,Bh,ea,a0,he,F2,W⟩:=t
 refine ⟨ρ2,Bh,ea,a0,he,⟨F2.keep,F2.hr,F2.fresh,?_,fun b o h q n=>?_,fun L o h n=>?_,F2.gens.trans x.gens,F2.os.trans x.os⟩,W⟩
 ·obtain ⟨ν,rfl,n1⟩:=x.pre
  obtain ⟨μ,rfl,n2⟩:=F2.pre
  have back:∀ b,s1.heap.get? b = none→s.heap.get? b = none:=fun b hb=>by
   cases q:s.heap.get? b with
   | none=>rfl
   | some o=>
     by_cases f:Off ρ b
     ·obtain ⟨sl,h,_⟩:=x.keep b o q f; rw [h] at hb; cases hb
     ·exact absurd (fun c hc=>by
       obtain ⟨⟨o1,h1⟩,⟨o2,h2⟩⟩:=i.hr.live (List.mem_append.mpr (.inl hc):c∈ρ++ν)
       exact ⟨fun e=>(by rw [e,h1] at hb; cases hb),fun e=>(by rw [e,h2] at hb; cases hb)⟩) f
  refine ⟨ν++μ,by simp,fun c hc=>?_⟩
  rcases List.mem_append.mp hc with hc | hc
  ·exact n1 c hc
  ·exact ⟨back _ (n2 c hc).1,back _ (n2 c hc).2⟩
 ·obtain ⟨sl,h1,e1⟩:=x.keep b o h q
  obtain ⟨sl2,h2,e2⟩:=F2.stay b _ h1 (x.off h q) n
  exact ⟨sl2,h2,fun hc=>(e2 hc).trans (e1 hc)⟩
 ·obtain ⟨e,he,hL⟩:=List.mem_filterMap.mp n
  obtain ⟨_,L',o',a1,a2,_,_,off⟩:=F e he
  rw [hL] at a1
  cases a1
  obtain ⟨sl,h1,e1⟩:=x.keep L o h off
  obtain ⟨sl2,h2⟩:=F2.frames L _ h1 n
  exact ⟨sl2,h2⟩
structure Ct where
 B:Base
 d:Nat
 sc:Scope
 m:Lo
 A:Around
 env:Env
 fl:List Env
 s:Shared
 ρ:List Cell
noncomputable abbrev Ct.M (X:Ct):Model:=model X.B.prog X.B.w
structure Nx (X:Ct) (s1:Shared) (ρ1:List Cell) (H1:Hp):Prop where
 cx:Cx X.B X.A X.env X.fl s1 ρ1 H1 X.d X.sc X.m
 ext:Ext X.ρ ρ1 X.s s1
 ff:FF X.B X.ρ X.fl X.s.heap
inductive GP {α β:Type} (Rl:List Cell→α→β→Prop) (X:Ct) (ρ1:List Cell) (Q:α→Hp→Prop) (b:β) (s2:Shared):Prop
 | mk (x:α) (H2:Hp) (ρ2:List Cell) (r:Rl ρ2 x b) (p:Pre ρ1 ρ2) (N:Nx X s2 ρ2 H2) (q:Q x H2)
inductive CE (B:Base) (ρ:List Cell) (fl:List Env) (s:Shared) (E:EK→Hp→Prop) (e:Value) (s':Shared):Prop
 | mk (k:EK) (H':Hp) (t:Thru B ρ fl s k H' e s') (q:E k H')
inductive CP {α β:Type} (Rl:List Cell→α→β→Prop) (B:Base) (ρ:List Cell) (s:Shared) (Q:α→Hp→Prop) (b:β) (s':Shared):Prop
 | mk (x:α) (H':Hp) (ρ':List Cell) (r:Rl ρ' x b) (i:SI B ρ' H' s') (x':Ext ρ ρ' s s') (q:Q x H')
noncomputable abbrev GE (X:Ct) (E:EK→Hp→Prop):Value→Shared→Prop:=CE X.B X.ρ X.fl X.s E
section
variable {X:Ct} {s1:Shared} {ρ1:List Cell} {H H1:Hp} {α β:Type} {Rl:List Cell→α→β→Prop} {Q:α→Hp→Prop} {E:EK→Hp→Prop} {t:Sem β} {K:β→Shared→Prop} {E':Value→Shared→Prop}
theorem CE.back {B:Base} {ρ ρ1:List Cell} {fl:List Env} {s s1 s':Shared} {e:Value} (F:FF B ρ fl s.heap) (i:SI B ρ1 H1 s1) (x:Ext ρ ρ1 s s1) (p:CE B ρ1 fl s1 E e s'):CE B ρ fl s E e s':=
 let ⟨k,H',t,q⟩:=p; ⟨k,H',t.back F i x,q⟩
theorem Nx.next {s2:Shared} {ρ2:List Cell} {H2:Hp} (N:Nx X s1 ρ1 H1) (i:SI X.B ρ2 H2 s2) (x:Ext ρ1 ρ2 s1 s2) (t:1≤s2.toks):Nx X s2 ρ2 H2:=⟨N.cx.next i x t,N.ext.then N.cx.si x,N.ff⟩
theorem GP.bind (h:wpAny X.M X.A t (GP Rl X ρ1 Q) E' s1) (k:∀ {x H2 b s2 ρ2},Rl ρ2 x b→Pre ρ1 ρ2→Nx X s2 ρ2 H2→Q x H2→K b s2):wpAny X.M X.A t K E' s1:=
 wpAny_mono h (fun _ _ z=>by cases z with | mk _ _ _ r p N q=>exact k r p N q) fun _ _ e=>e
theorem Nx.calm (N:Nx X s1 ρ1 H1) {a:α} {H2:Hp} (h:wpAny X.M X.A t (za8 Rl X.B ρ1 s1 (a,H2)) (fun _ _=>False) s1)
  (k:∀ {b s2 ρ2},Rl ρ2 a b→Pre ρ1 ρ2→Nx X s2 ρ2 H2→K b s2):wpAny X.M X.A t K E' s1:=
 wpAny_mono (wpAny_toks_of N.cx.toks h) (fun _ _ ⟨t1,_,q,i,x⟩=>k q x.p (N.next i x t1)) fun _ _ p=>p.2.elim
theorem Nx.leaf (N:Nx X s1 ρ1 H1) {a:α} {H2:Hp} {ρ0:List Cell} (p0:Pre ρ0 ρ1) (q:Q a H2) (h:wpAny X.M X.A t (za8 Rl X.B ρ1 s1 (a,H2)) (fun _ _=>False) s1):wpAny X.M X.A t (GP Rl X ρ0 Q) E' s1:=
 N.calm h fun r p N=>⟨_,_,_,r,p0.trans p,N,q⟩
theorem Nx.call (N:Nx X s1 ρ1 H1) {ρ0:List Cell} (p0:Pre ρ0 ρ1) (h:wpAny X.M X.A t (CP Rl X.B ρ1 s1 Q) (CE X.B ρ1 X.fl s1 E) s1):wpAny X.M X.A t (GP Rl X ρ0 Q) (GE X E) s1:=
 wpAny_mono (wpAny_toks_of N.cx.toks h) (fun _ _ ⟨t1,z⟩=>by cases z with | mk _ _ _ r i x q=>exact ⟨_,_,_,r,p0.trans x.p,N.next i x t1,q⟩) fun _ _ p=>p.2.back N.ff N.cx.si N.ext
theorem GP.pre {b:β} {s2:Shared} {ρ0:List Cell} (p:Pre ρ0 ρ1) (h:GP Rl X ρ1 Q b s2):GP Rl X ρ0 Q b s2:=by cases h with | mk _ _ _ r p' N q=>exact ⟨_,_,_,r,p.trans p',N,q⟩
theorem wpre {ρ0:List Cell} (p:Pre ρ0 ρ1) (h:wpAny X.M X.A t (GP Rl X ρ1 Q) E' s1):wpAny X.M X.A t (GP Rl X ρ0 Q) E' s1:=wpAny_mono h (fun _ _=>GP.pre p) fun _ _ e=>e
theorem Nx.same (N:Nx X s1 ρ1 H1) {s2:Shared} (k:∀ b o,s1.heap.get? b = some o→s2.heap.get? b = some o) (hg:s2.gens = s1.gens) (ho:s2.os = s1.os) (ht:1≤s2.toks):Nx X s2 ρ1 H1:=
 let q:=N.cx.si.same k hg ho
 N.next q.1 q.2 ht
end
theorem Nx.push {X:Ct} {s1:Shared} {ρ1:List Cell} {H1:Hp} (N:Nx X s1 ρ1 H1) (o:Obj):Nx X { s1 with heap:=s1.heap.push o } ρ1 H1:=N.same (fun _ _ e=>Heap.get?_push_of_some _ e) rfl rfl N.cx.toks
noncomputable def evX (X:Ct) (e:Expr) (H:Hp) (Q:V→Hp→Prop) (E:EK→Hp→Prop):Prop:=∀ {s1 ρ1},Nx X s1 ρ1 H→wpAny X.M X.A (eval e X.env) (GP VR X ρ1 Q) (GE X E) s1
noncomputable def evoX (X:Ct) (e:Option Expr) (H:Hp) (Q:V→Hp→Prop) (E:EK→Hp→Prop):Prop:=∀ {s1 ρ1},Nx X s1 ρ1 H→wpAny X.M X.A (valueOrNone (evalOpt e X.env)) (GP VR X ρ1 Q) (GE X E) s1
noncomputable def evsX (X:Ct) (es:List Expr) (H:Hp) (Q:List V→Hp→Prop) (E:EK→Hp→Prop):Prop:=∀ {s1 ρ1} pos,Nx X s1 ρ1 H→wpAny X.M X.A (spliced (backTo pos (starEach es X.env))) (GP VRs X ρ1 Q) (GE X E) s1
noncomputable abbrev RB (_:List Cell) (a b:Bool):Prop:=a = b
noncomputable def trX (X:Ct) (e:Expr) (H:Hp) (Q:Bool→Hp→Prop) (E:EK→Hp→Prop):Prop:=∀ {s1 ρ1},Nx X s1 ρ1 H→wpAny X.M X.A (isTrue e X.env (eval e X.env)) (GP RB X ρ1 Q) (GE X E) s1
noncomputable def trsX (X:Ct) (op:BoolOp) (es:List Expr) (H:Hp) (Q:Bool→Hp→Prop) (E:EK→Hp→Prop):Prop:=∀ {s1 ρ1},Nx X s1 ρ1 H→wpAny X.M X.A (allTrue op es X.env) (GP RB X ρ1 Q) (GE X E) s1
structure ExtL (L:Addr) (ρ ρ':List Cell) (s s':Shared):Prop where
 pre:∃ ν,ρ' = ρ++ν∧∀ c∈ν,s.heap.get? c.1 = none∧s.heap.get? c.2 = none
 keep:∀ b o,s.heap.get? b = some o→Off ρ b→b≠L→∃ sl,s'.heap.get? b = some { o with slots:=sl }∧((∀ es ep,o.data≠.dict es ep)→sl = o.slots)
 gens:s'.gens = s.gens
 os:s'.os = s.os
theorem Ext.l {L:Addr} {ρ ρ':List Cell} {s s':Shared} (x:Ext ρ ρ' s s'):ExtL L ρ ρ' s s':=⟨x.pre,fun b o h f _=>x.keep b o h f,x.gens,x.os⟩
theorem ExtL.p {L:Addr} {ρ ρ':List Cell} {s s':Shared} (x:ExtL L ρ ρ' s s'):Pre ρ ρ':=let ⟨ν,e,_⟩:=x.pre; ⟨ν,e⟩
theorem ExtL.off {L:Addr} {ρ ρ':List Cell} {s s':Shared} (x:ExtL L ρ ρ' s s') {b:Addr} {o:Obj} (h:s.heap.get? b = some o) (y:Off ρ b):Off ρ' b:=by
 obtain ⟨ν,rfl,n⟩:=x.pre
 refine y.add fun c hc=>⟨fun e=>?_,fun e=>?_⟩
 ·have:=(n c hc).1; rw [← e,h] at this; cases this
 ·have:=(n c hc).2; rw [← e,h] at this; cases this
theorem ExtL.then {B:Base} {L:Addr} {ρ ρ' ρ'':List Cell} {H':Hp} {s s' s'':Shared} (x:ExtL L ρ ρ' s s') (i:SI B ρ' H' s') (hL:∃ o,s'.heap.get? L = some o) (y:ExtL L ρ' ρ'' s' s''):ExtL L ρ ρ'' s s'':=by
 refine ⟨?_,fun b o h f n=>?_,y.gens.trans x.gens,y.os.trans x.os⟩
 ·obtain ⟨ν,rfl,n1⟩:=x.pre
  obtain ⟨μ,rfl,n2⟩:=y.pre
  have back:∀ b,s'.heap.get? b = none→s.heap.get? b = none:=fun b hb=>by
   cases q:s.heap.get? b with
   | none=>rfl
   | some o=>
     by_cases f:Off ρ b
     ·by_cases e:b = L
      ·obtain ⟨o',hL⟩:=hL
       rw [e,hL] at hb; cases hb
      ·obtain ⟨sl,h,_⟩:=x.keep b o q f e; rw [h] at hb; cases hb
     ·exact absurd (fun c hc=>by
       obtain ⟨⟨o1,h1⟩,⟨o2,h2⟩⟩:=i.hr.live (List.mem_append.mpr (.inl hc):c∈ρ++ν)
       exact ⟨fun e=>(by rw [e,h1] at hb; cases hb),fun e=>(by rw [e,h2] at hb; cases hb)⟩) f
  refine ⟨ν++μ,by simp,fun c hc=>?_⟩
  rcases List.mem_append.mp hc with hc | hc
  ·exact n1 c hc
  ·exact ⟨back _ (n2 c hc).1,back _ (n2 c hc).2⟩
 ·obtain ⟨sl,h1,e1⟩:=x.keep b o h f n
  obtain ⟨sl2,h2,e2⟩:=y.keep b _ h1 (x.off h f) n
  exact ⟨sl2,h2,fun hc=>(e2 hc).trans (e1 hc)⟩
structure Sx (B:Base) (A:Around) (env:Env) (outer:List Env) (s:Shared) (ρ:List Cell) (H:Hp) (d:Nat) (sc:Scope) (m:Lo):Prop where
 c:Cx B A env (env::outer) s ρ H d sc m
 own:env.frame = some env.locals
 apart:env.locals ∉ outer.filterMap (·.frame)
noncomputable def FlR (ρ:List Cell):Fl→Flow→Prop
 | .next,f=>f = .next
 | .brk,f=>f = .brk
 | .cont,f=>f = .cont
 | .ret v,f=>∃ v',f = .ret v'∧VR ρ v v'
structure Cs where
 B:Base
 d:Nat
 sc:Scope
 A:Around
 env:Env
 outer:List Env
 s:Shared
 ρ:List Cell
noncomputable abbrev Cs.M (Y:Cs):Model:=model Y.B.prog Y.B.w
structure Sn (Y:Cs) (s1:Shared) (ρ1:List Cell) (H1:Hp) (m1:Lo):Prop where
 cx:Sx Y.B Y.A Y.env Y.outer s1 ρ1 H1 Y.d Y.sc m1
 ext:ExtL Y.env.locals Y.ρ ρ1 Y.s s1
 ff:FF Y.B Y.ρ (Y.env::Y.outer) Y.s.heap
 keep:∀ b o,Y.B.h₀.get? b = some o→Y.s.heap.get? b = some o
inductive SP (Y:Cs) (Q:Fl×Lo→Hp→Prop) (f:Flow) (s2:Shared):Prop
 | mk (x:Fl) (m2:Lo) (H2:Hp) (ρ2:List Cell) (r:FlR ρ2 x f) (N:Sn Y s2 ρ2 H2 m2) (q:Q (x,m2) H2)
inductive HE (Y:Cs) (E:EK→Hp→Prop) (e:Value) (s':Shared):Prop
 | mk (k:EK) (H':Hp) (t:HeldP Y.B Y.ρ Y.env Y.outer Y.s k H' e s') (q:E k H')
noncomputable def SE (Y:Cs) (E:EK→Hp→Prop) (e:Value) (s':Shared):Prop:=True∧wpAny Y.M Y.A (noteFrame e Y.env) (fun _ s''=>HE Y E e s'') (fun _ _=>False) s'
noncomputable def exX (Y:Cs) (m:Lo) (st:Stmt) (H:Hp) (Q:Fl×Lo→Hp→Prop) (E:EK→Hp→Prop):Prop:=∀ {s1 ρ1},Sn Y s1 ρ1 H m→wpAny Y.M Y.A (exec st Y.env) (SP Y Q) (SE Y E) s1
noncomputable def exsX (Y:Cs) (m:Lo) (ss:List Stmt) (H:Hp) (Q:Fl×Lo→Hp→Prop) (E:EK→Hp→Prop):Prop:=∀ {s1 ρ1},Sn Y s1 ρ1 H m→wpAny Y.M Y.A (execs ss Y.env) (SP Y Q) (SE Y E) s1
section
variable {B:Base} {A:Around} {env:Env} {outer:List Env} {s s1:Shared} {ρ ρ1:List Cell} {H H1:Hp} {d:Nat} {sc:Scope} {m m1:Lo}
theorem Sx.alive (S:Sx B A env outer s ρ H d sc m):∃ o,s.heap.get? env.locals = some o:=by
 obtain ⟨_,L,o,h1,h2,_⟩:=S.c.ff env (.head _)
 rw [S.own] at h1; cases h1; exact ⟨o,h2⟩
theorem Sx.next (S:Sx B A env outer s ρ H d sc m) (i:SI B ρ1 H1 s1) (l:LR B ρ1 env m1 s1.heap) (f:FF B ρ1 (env::outer) s1.heap) (t:1≤s1.toks):Sx B A env outer s1 ρ1 H1 d sc m1:=
 ⟨⟨S.c.sc,S.c.ok,S.c.fr,S.c.room,i,l,f,t⟩,S.own,S.apart⟩
theorem HeldP.back {k:EK} {H':Hp} {e:Value} {s':Shared} (own:env.frame = some env.locals) (apart:env.locals ∉ outer.filterMap (·.frame)) (F:FF B ρ (env::outer) s.heap) (i:SI B ρ1 H1 s1) (x:ExtL env.locals ρ ρ1 s s1) (hL:∃ o,s1.heap.get? env.locals = some o)
  (t:HeldP B ρ1 env outer s1 k H' e s'):HeldP B ρ env outer s k H' e s':=by
 obtain ⟨ρ2,Bh,ea,a0,L,he,hf,F2,W⟩:=t
 refine ⟨ρ2,Bh,ea,a0,L,he,hf,⟨F2.keep,F2.hr,F2.fresh,?_,fun b o h q n=>?_,fun L o h n=>?_,F2.gens.trans x.gens,F2.os.trans x.os⟩,W⟩
 ·obtain ⟨ν,rfl,n1⟩:=x.pre
  obtain ⟨μ,rfl,n2⟩:=F2.pre
  have back:∀ b,s1.heap.get? b = none→s.heap.get? b = none:=fun b hb=>by
   cases q:s.heap.get? b with
   | none=>rfl
   | some o=>
     by_cases f:Off ρ b
     ·by_cases e:b = env.locals
      ·obtain ⟨o',hL⟩:=hL
       rw [e,hL] at hb; cases hb
      ·obtain ⟨sl,h,_⟩:=x.keep b o q f e; rw [h] at hb; cases hb
     ·exact absurd (fun c hc=>by
       obtain ⟨⟨o1,h1⟩,⟨o2,h2⟩⟩:=i.hr.live (List.mem_append.mpr (.inl hc):c∈ρ++ν)
       exact ⟨fun e=>(by rw [e,h1] at hb; cases hb),fun e=>(by rw [e,h2] at hb; cases hb)⟩) f
  refine ⟨ν++μ,by simp,fun c hc=>?_⟩
  rcases List.mem_append.mp hc with hc | hc
  ·exact n1 c hc
  ·exact ⟨back _ (n2 c hc).1,back _ (n2 c hc).2⟩
 ·obtain ⟨sl,h1,e1⟩:=x.keep b o h q (fun e=>n (by rw [e]; exact List.mem_filterMap.mpr ⟨env,.head _,own⟩))
  obtain ⟨sl2,h2,e2⟩:=F2.stay b _ h1 (x.off h q) n
  exact ⟨sl2,h2,fun hc=>(e2 hc).trans (e1 hc)⟩
 ·obtain ⟨e,he,hL⟩:=List.mem_filterMap.mp n
  obtain ⟨_,L',o',a1,a2,_,_,off⟩:=F e (.tail _ he)
  rw [hL] at a1
  cases a1
  obtain ⟨sl,h1,e1⟩:=x.keep L o h off (fun e=>apart (e ▸ n))
  obtain ⟨sl2,h2⟩:=F2.frames L _ h1 n
  exact ⟨sl2,h2⟩
theorem Thru.here {k:EK} {H':Hp} {e:Value} {s':Shared} (hfr:A.frames = some (env::outer)) (hf:env.frame = some env.locals) (F0:FF B ρ (env::outer) s.heap) (t:Thru B ρ (env::outer) s k H' e s'):Here B A ρ env outer s k H' e s':=by
 obtain ⟨ρ',Bh,ea,a0,rfl,F,W⟩:=t
 refine ⟨trivial,wpAny_looks_onW hfr hf W fun h' hw up=>⟨ρ',Bh,ea,a0,_,rfl,hf,⟨F.keep,F.hr,F.fresh,F.pre,F.stay,fun L o h n=>?_,F.gens,F.os⟩,hw⟩⟩
 obtain ⟨x,hx,e⟩:=List.mem_filterMap.mp n
 obtain ⟨sl,h1⟩:=F.frames L o h (List.mem_filterMap.mpr ⟨x,.tail _ hx,e⟩)
 obtain ⟨_,L',o',a1,a2,⟨es,ep,a3⟩,_⟩:=F0 x (.tail _ hx)
 rw [e] at a1; cases a1
 rw [h] at a2; cases a2
 obtain ⟨sl',h2⟩:=up L _ h1 (fun vs q=>by dsimp only at q; rw [a3] at q; cases q)
 exact ⟨sl',h2⟩
end
section
variable {Y:Cs} {s1:Shared} {ρ1:List Cell} {H1:Hp} {m1:Lo} {α β:Type} {Rl:List Cell→α→β→Prop} {E:EK→Hp→Prop} {t:Sem β} {K:β→Shared→Prop} {E':Value→Shared→Prop}
noncomputable abbrev Cs.x (Y:Cs) (s1:Shared) (ρ1:List Cell) (m1:Lo):Ct:=⟨Y.B,Y.d,Y.sc,m1,Y.A,Y.env,Y.env::Y.outer,s1,ρ1⟩
noncomputable abbrev Cs.at_ (Y:Cs) (s1:Shared) (ρ1:List Cell):Cs:={ Y with s:=s1,ρ:=ρ1 }
theorem Sn.nx (N:Sn Y s1 ρ1 H1 m1):Nx (Y.x s1 ρ1 m1) s1 ρ1 H1:=⟨N.cx.c,Ext.refl _ _,N.cx.c.ff⟩
theorem Sn.here (N:Sn Y s1 ρ1 H1 m1):Sn (Y.at_ s1 ρ1) s1 ρ1 H1 m1:=⟨N.cx,(Ext.refl _ _).l,N.cx.c.ff,N.cx.c.si.keep⟩
theorem Sn.held (N:Sn Y s1 ρ1 H1 m1) {k:EK} {H':Hp} {e:Value} {s':Shared} (t:HeldP Y.B ρ1 Y.env Y.outer s1 k H' e s'):HeldP Y.B Y.ρ Y.env Y.outer Y.s k H' e s':=
 t.back N.cx.own N.cx.apart N.ff N.cx.c.si N.ext N.cx.alive
theorem Sn.back (N:Sn Y s1 ρ1 H1 m1) {e:Value} {s':Shared} (h:SE (Y.at_ s1 ρ1) E e s'):SE Y E e s':=
 ⟨trivial,wpAny_mono h.2 (fun _ _ z=>by cases z with | mk k H' t q=>exact ⟨k,H',N.held t,q⟩) fun _ _ z=>z⟩
theorem Sn.raised (N:Sn Y s1 ρ1 H1 m1) {k:EK} {H':Hp} {e:Value} {s':Shared} (q:E k H') (h:Here Y.B Y.A ρ1 Y.env Y.outer s1 k H' e s'):SE Y E e s':=
 ⟨trivial,wpAny_mono h.2 (fun _ _ z=>⟨k,H',N.held z,q⟩) fun _ _ z=>z⟩
theorem Sn.through (N:Sn Y s1 ρ1 H1 m1) {e:Value} {s':Shared} (h:CE Y.B ρ1 (Y.env::Y.outer) s1 E e s'):SE Y E e s':=by
 cases h with | mk k H' t q=>exact N.raised q (t.here N.cx.c.fr N.cx.own N.cx.c.ff)
theorem Sn.re {s2:Shared} {ρ2:List Cell} {H2:Hp} {m2:Lo} (N:Sn Y s1 ρ1 H1 m1) (N2:Sn (Y.at_ s1 ρ1) s2 ρ2 H2 m2):Sn Y s2 ρ2 H2 m2:=⟨N2.cx,N.ext.then N.cx.c.si N.cx.alive N2.ext,N.ff,N.keep⟩
theorem Sn.next {s2:Shared} {ρ2:List Cell} {H2:Hp} (N:Sn Y s1 ρ1 H1 m1) (i:SI Y.B ρ2 H2 s2) (x:Ext ρ1 ρ2 s1 s2) (t:1≤s2.toks):Sn Y s2 ρ2 H2 m1:=
 ⟨N.cx.next i (N.cx.c.lr.ext x) (N.cx.c.ff.ext x) t,N.ext.then N.cx.c.si N.cx.alive x.l,N.ff,N.keep⟩
theorem Sn.bind {Q:α→Hp→Prop} (N:Sn Y s1 ρ1 H1 m1) (h:wpAny Y.M Y.A t (GP Rl (Y.x s1 ρ1 m1) ρ1 Q) (GE (Y.x s1 ρ1 m1) E) s1)
  (k:∀ {a H2 b s2 ρ2},Rl ρ2 a b→Pre ρ1 ρ2→Sn Y s2 ρ2 H2 m1→Q a H2→K b s2):wpAny Y.M Y.A t K (SE Y E) s1:=
 wpAny_mono h (fun _ _ z=>by cases z with | mk _ _ _ r p X q=>exact k r p (N.next X.cx.si X.ext X.cx.toks) q) fun _ _ z=>N.through z
theorem Sn.calm (N:Sn Y s1 ρ1 H1 m1) {a:α} {H2:Hp} (h:wpAny Y.M Y.A t (za8 Rl Y.B ρ1 s1 (a,H2)) (fun _ _=>False) s1)
  (k:∀ {b s2 ρ2},Rl ρ2 a b→Pre ρ1 ρ2→Sn Y s2 ρ2 H2 m1→K b s2):wpAny Y.M Y.A t K E' s1:=
 wpAny_mono (wpAny_toks_of N.cx.c.toks h) (fun _ _ ⟨t1,_,q,i,x⟩=>k q x.p (N.next i x t1)) fun _ _ p=>p.2.elim
theorem SE.passes:PassesOwn Y.M Y.A Y.env (SE Y E):=kfy_passes (P:=fun _=>True) (K:=HE Y E) (E₁:=fun _ _=>False)
end
structure RoomC (A:Around) (d:Nat):Prop where
 depth:A.depth + 4 * d + 8 < 1000
 units:A.units + 40 * d + 90 < 9900
 handled:A.handled = none
theorem Room.call {A:Around} {d:Nat} (R:Room A d):RoomC A d:=⟨R.depth,by have:=R.units; lia,R.handled⟩
theorem Room.call1 {A:Around} {d:Nat} (R:Room A d):RoomC A.in1 d:=⟨R.depth,by have:=R.units; show A.units + 1 + _ + _ < _; lia,R.handled⟩
noncomputable def CallC (B:Base) (A:Around) (fl:List Env) (ρ:List Cell) (s:Shared) (c:Code) (Q:V→Hp→Prop) (E:EK→Hp→Prop):Prop:=
 codeAny (model B.prog B.w) A c (fun q s'=>match q with | .ok (.ret v)=>CP VR B ρ s Q v s' | .ok _=>False | .error e=>CE B ρ fl s E e s') s
noncomputable def CallR (B:Base) (A:Around) (fl:List Env) (ρ:List Cell) (s:Shared) (gv:Value) (vs:List Value) (kw:List (Str×Value)) (Q:V→Hp→Prop) (E:EK→Hp→Prop):Prop:=
 wpAny (model B.prog B.w) A (PySem.call gv vs kw) (CP VR B ρ s Q) (CE B ρ fl s E) s∧∀ a,gv = .ref a→CallC B A fl ρ s (.call gv ⟨vs,kw⟩) Q E
theorem CallC.r {B:Base} {A:Around} {fl:List Env} {ρ:List Cell} {s:Shared} {a:Addr} {vs:List Value} {kw:List (Str×Value)} {Q:V→Hp→Prop} {E:EK→Hp→Prop} (h:CallC B A fl ρ s (.call (.ref a) ⟨vs,kw⟩) Q E):CallR B A fl ρ s (.ref a) vs kw Q E:=
 ⟨wpAny_call h,fun _ _=>h⟩
noncomputable def call (B:Base) (d:Nat) (g:V) (as:List V) (ns:List Str) (ws:List V):M V:=fun H Q E=>Ok B→∀ {A fl s ρ gv vs us},A.frames = some fl→RoomC A d→SI B ρ H s→FF B ρ fl s.heap→
 VR ρ g gv→VRs ρ as vs→VRs ρ ws us→ns.length = ws.length→1≤s.toks→CallR B A fl ρ s gv vs (ns.zip us) Q E
noncomputable def z37 (B:Base) (d n a:Nat):M V:=fun H Q E=>Ok B→∀ {A fl s ρ c ca},A.frames = some fl→RoomC A.in1 d→SI B ρ H s→FF B ρ fl s.heap→ρ[n]? = some c→ρ[a]? = some ca→1≤s.toks→
 codeAny (model B.prog B.w) A (.builtin "list.extend.loop" ⟨[.ref ca.1,.ref c.1,.none],[]⟩) (fun q s'=>match q with | .ok (.ret v)=>v = .none∧CP VR B ρ s Q (.ref ca.1) s' | .ok _=>False | .error e=>CE B ρ fl s E e s') s
namespace DQ
theorem mro:mroOf (.type "collections.deque") = pure [.type "collections.deque",.type "object"]:=by rw [mroOf_type]; kernel_rfl
theorem zzb:typeLookup (.type "collections.deque") "__new__" = pure (some (.builtin "collections.deque.__new__")):=by rw [typeLookup_type,builtinLookup_eq_fast]; kernel_rfl
theorem z05:Slot "collections.deque" "__init__" "collections.deque.__init__" :=
 .of (owner := "collections.deque") (n := "__init__") (by rw [typeLookup_type,builtinLookup_eq_fast]; kernel_rfl) (by decide +kernel) (by decide +kernel) (by decide +kernel)
  (by first | exact .inl (by decide +kernel) | exact .inr (by decide +kernel)) (by rw [isSubtype_type]; kernel_rfl)
theorem slot_len:Slot "collections.deque" "__len__" "collections.deque.__len__" :=
 .of (owner := "collections.deque") (n := "__len__") (by rw [typeLookup_type,builtinLookup_eq_fast]; kernel_rfl) (by decide +kernel) (by decide +kernel) (by decide +kernel)
  (by first | exact .inl (by decide +kernel) | exact .inr (by decide +kernel)) (by rw [isSubtype_type]; kernel_rfl)
theorem called:TypeCalled "collections.deque" "collections.deque.__new__" "collections.deque.__init__" :=
 ⟨by decide +kernel,by decide +kernel,⟨_,_,mro⟩,madeBy_type mro zzb (by decide +kernel),by decide +kernel,by rw [isSubtype_type]; kernel_rfl,z05⟩
theorem z5w:checkTypeCall "collections.deque" ⟨[],[]⟩ = pure ():=by kernel_rfl
theorem newCall:checkBuiltinCall "collections.deque.__new__" ⟨[.type "collections.deque"],[]⟩ = pure ():=by kernel_rfl
theorem z36:entryFor table "collections.deque.__new__" = some Builtin.«collections.deque.__new__»:=entryFor_of_tree (by kernel_rfl)
theorem zzt:entryFor table "collections.deque.__init__" = some Builtin.«collections.deque.__init__»:=entryFor_of_tree (by kernel_rfl)
theorem entry_len:entryFor table "collections.deque.__len__" = some Builtin.«collections.deque.__len__»:=entryFor_of_tree (by kernel_rfl)
theorem z9r (a:Value):argsOk "collections.deque.__len__" ⟨[a],[]⟩:=by unfold argsOk; kernel_rfl
theorem z40 (a:Value):argsOk "collections.deque.__init__" ⟨[a],[]⟩:=by unfold argsOk; kernel_rfl
theorem noBool:typeLookup (.type "collections.deque") "__bool__" = pure none:=by rw [typeLookup_type,builtinLookup_eq_fast]; kernel_rfl
theorem new_eq:Builtin.«collections.deque.__new__» ⟨[.type "collections.deque"],[]⟩ = (do ret (← newObj (.type "collections.deque") (.fields #[.none,.int 0 0]) none)):=by kernel_rfl
theorem init_eq (a:Addr):Builtin.«collections.deque.__init__» ⟨[.ref a],[]⟩ = (do setField (.ref a) 0 .none; Builtin.Deque.clear (.ref a); ret .none):=by kernel_rfl
theorem len_eq (a:Addr):Builtin.«collections.deque.__len__» ⟨[.ref a],[]⟩ = (do retInt (← Builtin.Deque.size (.ref a))):=by kernel_rfl
section
variable {prog:Program} {w:World} {A:Around} {E:Value→Shared→Prop} {s:Shared}
theorem call_ok {Q:Value→Shared→Prop} (h:∀ h',(∀ b o,s.heap.get? b = some o→h'.get? b = some o)→h'.get? s.heap.objs.size = some zc1→Q (.ref s.heap.objs.size) { s with heap:=h' }):
  wpAny (model prog w) A (PySem.call (.type "collections.deque") []) Q E s:=by
 refine callType_meets (Q₁:=fun v s'=>v = .ref s.heap.objs.size∧s' = { s with heap:=s.heap.push zc1 }) called z5w newCall z36 zzt
  (S:=fun _ R s=>R (.ok (.ret (.ref s.heap.objs.size))) { s with heap:=s.heap.push zc1 }) ?_ ⟨rfl,rfl⟩ ?_
 ·refine Meets.of_wp fun prog w A R s hs=>?_
  rw [new_eq]
  exact wpAny_bind (wpAny_newObj_type (wpAny_pure ⟨_,rfl,hs⟩) (by size_fits))
 ·rintro obj s₁ ⟨rfl,rfl⟩
  have g:(s.heap.push zc1).get? s.heap.objs.size = some zc1:=Heap.get?_push_size _ rfl
  refine ⟨⟨_,g,rfl⟩,z40 _,fun _ R s'=>s'.heap.get? s.heap.objs.size = some zc1∧R (.ok (.ret .none)) { s' with heap:=s'.heap.update s.heap.objs.size (Obj.mapFields (·.setIfInBounds 0 .none)) },?_,g,rfl,?_⟩
  ·refine Meets.of_wp fun prog w A R s' hs=>?_
   obtain ⟨g,hs⟩:=hs
   rw [init_eq]
   refine wpAny_bind (wpAny_setField g rfl (by simp) (wpAny_bind ?_))
   have g2:(s'.heap.update s.heap.objs.size (Obj.mapFields (·.setIfInBounds 0 .none))).get? s.heap.objs.size = some zc1:=(Heap.get?_update_self _ g rfl).trans rfl
   unfold Builtin.Deque.clear Builtin.Deque.items
   refine wpAny_bind (wpAny_bind (wpAny_fieldsOf g2 rfl (wpAny_pure ?_)))
   exact wpAny_pure (wpAny_pure ⟨_,rfl,hs⟩)
  ·refine h _ (fun b o e=>?_) ((Heap.get?_update_self _ g rfl).trans rfl)
   rw [Heap.get?_update_other _ _ (Nat.ne_of_gt (Heap.lt_size e))]
   exact Heap.get?_push_of_some _ e
theorem truthy_ok {a:Addr} {Q:Bool→Shared→Prop} (g:s.heap.get? a = some zc1) (h:∀ k,Q false { s with toks:=k }):wpAny (model prog w) A (truthy (.ref a)) Q E s:=by
 have hT:s.TypeIs (.ref a) "collections.deque" := ⟨_,g,rfl⟩
 have body:∀ A:Around,wpAny (model prog w) A (Builtin.«len» ⟨[.ref a],[]⟩) (fun fin s'=>∃ r k,fin = .done (.ret r)∧r = .int 0 (s.toks + 1)∧s' = { s with toks:=k }) E s:=by
  intro A
  unfold Builtin.«len»
  refine wpAny_bind (m:=oneArg "len" _) (wpAny_pure ?_)
  refine wpAny_bind (m:=callSpecial? (.ref a) (Str.ofString "__len__")) (wpAny_callSpecial?_slot (name:=Str.ofString "__len__") hT slot_len
   (wpAny_call_entry slot_len hT entry_len ?_ (z9r _)))
  rw [len_eq]
  unfold Builtin.Deque.size
  refine wpAny_bind (wpAny_bind (wpAny_fieldsOf g rfl (wpAny_pure (wpAny_bind (wpAny_mkInt (wpAny_pure ⟨_,rfl,?_⟩))))))
  refine wpAny_bind (wpAny_holding (wpAny_pure ?_))
  refine wpAny_bind (wpAny_letGo ?_)
  show wpAny _ _ (if ((_:Int)) < 0 then _ else _) _ _ _
  rw [if_neg (by decide)]
  show wpAny _ _ (if ((_:Int)) ≥ 2 ^ 63 then _ else _) _ _ _
  rw [if_neg (by decide)]
  exact wpAny_bind (wpAny_mkInt (wpAny_pure ⟨_,_,rfl,rfl,rfl⟩))
 have key:wpAny (model prog w) A (runValue (.builtin "len" ⟨[.ref a],[]⟩)) (fun r s'=>∃ k t,r = .int 0 t∧s' = { s with toks:=k }) E s:=by
  refine wpAny_runValue (codeAny_builtin PySem.entry_len ?_)
  rw [Around.under_plainId plain_len _]
  exact wpAny_mono (body _) (fun fin s' h'=>by obtain ⟨r,k,rfl,rfl,e⟩:=h'; exact ⟨k,_,rfl,e⟩) fun _ _ e=>e
 unfold truthy
 refine wpAny_bind (wpAny_callSpecial?_none (name:=Str.ofString "__bool__") hT noBool ?_)
 refine wpAny_bind (wpAny_specialOf (name:=Str.ofString "__len__") hT slot_len.lookup ?_)
 exact wpAny_bind (wpAny_mono key (fun r s' h'=>by obtain ⟨k,t,rfl,rfl⟩:=h'; exact wpAny_pure (h k)) fun _ _ e=>e)
end
end DQ
section
variable {B:Base} {A:Around} {fl:List Env} {s:Shared} {ρ:List Cell} {H:Hp} {E:Value→Shared→Prop}
theorem OR.isList {p:Params} {h:Heap} {c:Cell} {xs:List V} (x:OR p ρ h c (.list xs)):∃ vs,h.IsList c.1 (List.toArray vs)∧VRs ρ xs vs∧xs.length≤cap:=by
 obtain ⟨⟨_,l⟩,vs,n,g,r⟩:=x
 exact ⟨vs,⟨_,g,rfl,n,rfl⟩,r,l⟩
theorem OR.isTuple {p:Params} {h:Heap} {c:Cell} {xs:List V} (x:OR p ρ h c (.tup xs)):∃ vs,h.IsTuple c.1 (List.toArray vs)∧VRs ρ xs vs∧xs.length≤cap:=by
 obtain ⟨⟨_,l⟩,vs,n,g,r⟩:=x
 exact ⟨vs,⟨_,g,rfl,n,rfl⟩,r,l⟩
theorem VRs.len {xs:List V}:∀ {vs:List Value},VRs ρ xs vs→xs.length = vs.length:=by
 induction xs with
 | nil=>intro vs h; cases vs with | nil=>rfl | cons=>exact h.elim
 | cons x xs ih=>intro vs h; cases vs with | nil=>exact h.elim | cons v vs=>exact congrArg Nat.succ (ih h.2)
theorem VRs.get {xs:List V}:∀ {vs:List Value},VRs ρ xs vs→∀ {i:Nat} {x:V},xs[i]? = some x→∃ v,vs[i]? = some v∧VR ρ x v:=by
 induction xs with
 | nil=>intro vs _ i x e; cases e
 | cons y xs ih=>
   intro vs h i x e
   cases vs with
   | nil=>exact h.elim
   | cons v vs=>
     cases i with
     | zero=>cases e; exact ⟨v,rfl,h.1⟩
     | succ i=>exact ih h.2 e
theorem VRs.append {xs ys:List V}:∀ {vs ws:List Value},VRs ρ xs vs→VRs ρ ys ws→VRs ρ (xs++ys) (vs++ws):=by
 induction xs with
 | nil=>intro vs ws h k; cases vs with | nil=>exact k | cons=>exact h.elim
 | cons x xs ih=>intro vs ws h k; cases vs with | nil=>exact h.elim | cons v vs=>exact ⟨h.1,ih h.2 k⟩
theorem VRs.take {xs:List V}:∀ {vs:List Value},VRs ρ xs vs→∀ n,VRs ρ (xs.take n) (vs.take n):=by
 induction xs with
 | nil=>intro vs h n; cases vs with | nil=>rw [List.take_nil,List.take_nil]; trivial | cons=>exact h.elim
 | cons x xs ih=>intro vs h n; cases vs with
   | nil=>exact h.elim
   | cons v vs=>cases n with | zero=>trivial | succ n=>exact ⟨h.1,ih h.2 n⟩
theorem VRs.drop {xs:List V}:∀ {vs:List Value},VRs ρ xs vs→∀ n,VRs ρ (xs.drop n) (vs.drop n):=by
 induction xs with
 | nil=>intro vs h n; cases vs with | nil=>rw [List.drop_nil,List.drop_nil]; trivial | cons=>exact h.elim
 | cons x xs ih=>intro vs h n; cases vs with
   | nil=>exact h.elim
   | cons v vs=>cases n with | zero=>exact h | succ n=>exact ih h.2 n
theorem zd0 {α:Type} {k:List Nat→Option α} {v:V} {w:Value} {r:α} (hv:VR ρ v w) (h:onS k v = some r):∃ l t,l.length≤cap∧w = .str ⟨l.toArray⟩ t∧k l = some r:=by
 obtain ⟨l,rfl,h⟩:=onS_inv h; obtain ⟨a,t,b⟩:=hv; exact ⟨l,t,a,b,h⟩
theorem zb9 {α:Type} {k:Int→Option α} {v:V} {w:Value} {r:α} (hv:VR ρ v w) (h:onI k v = some r):∃ i t,w = .int i t∧k i = some r:=by
 obtain ⟨l,rfl,h⟩:=onI_inv h; obtain ⟨t,b⟩:=hv; exact ⟨l,t,b,h⟩
theorem zex {α:Type} {k:Nat→Option α} {v:V} {w:Value} {r:α} (hv:VR ρ v w) (h:onO k v = some r):∃ n c,ρ[n]? = some c∧w = .ref c.1∧k n = some r:=by
 obtain ⟨l,rfl,h⟩:=zue h; obtain ⟨c,a,b⟩:=hv; exact ⟨l,c,a,b,h⟩
theorem za3 {α:Type} {k:List V→Option α} {n:Nat} {c:Cell} {r:α} (I:SI B ρ H s) (hc:ρ[n]? = some c) (h:onLs k H[n]? = some r):∃ xs,H[n]? = some (.list xs)∧OR B.w.params ρ s.heap c (.list xs)∧k xs = some r:=by
 obtain ⟨xs,hx,h⟩:=znn h
 obtain ⟨d,hd,R⟩:=I.cell hx
 rw [hc] at hd; cases hd
 exact ⟨xs,hx,R,h⟩
theorem zdj:cap = 100000:=rfl
theorem zqr {v:V} {w:Value} {s':Shared} (I:SI B ρ H s) (h:VR ρ v w) (k:∀ b o,s.heap.get? b = some o→s'.heap.get? b = some o) (hg:s'.gens = s.gens) (ho:s'.os = s.os):
  za8 VR B ρ s (v,H) w s':=⟨ρ,h,(I.same k hg ho).1,(I.same k hg ho).2⟩
theorem zag {v:V} {w:Value} {k:Nat} (I:SI B ρ H s) (h:VR ρ v w):za8 VR B ρ s (v,H) w { s with toks:=k }:=zqr I h (fun _ _ e=>e) rfl rfl
theorem zdz {b:Bool} {k:Nat} (I:SI B ρ H s):za8 RB B ρ s (b,H) b { s with toks:=k }:=⟨ρ,rfl,(I.same (s':={ s with toks:=k }) (fun _ _ e=>e) rfl rfl).1,(I.same (s':={ s with toks:=k }) (fun _ _ e=>e) rfl rfl).2⟩
theorem zi6 {v:V} {w:Value} {b:Bool} (I:SI B ρ H s) (h:VR ρ v w) (e:zeq H v = some b):wpAny (model B.prog B.w) A (truthy w) (za8 RB B ρ s (b,H)) E s:=by
 cases v with
 | none=>cases h; cases e; exact wpAny_pure (zdz (k:=s.toks) I)
 | bool x=>cases h; cases e; exact wpAny_truthy_bool (zdz (k:=s.toks) I)
 | int i=>
   obtain ⟨t,rfl⟩:=h
   cases e
   exact P.truthy_int (zdz (k:=s.toks) I)
 | str l=>
   obtain ⟨hl,t,rfl⟩:=h
   cases e
   rw [zdj] at hl
   refine P.truthy_str (x:=⟨l.toArray⟩) (by show ¬ ((l.toArray.size:Int) ≥ 2 ^ 63); rw [List.size_toArray]; lia) ?_
   have q:((((⟨l.toArray⟩:Str).length:Nat):Int) != 0) = !l.isEmpty:=by
    show (((l.toArray.size:Nat):Int) != 0) = _
    rw [List.size_toArray]
    cases l with
    | nil=>rfl
    | cons a r=>simp; lia
   rw [q]
   exact zdz I
 | obj n=>
   obtain ⟨c,hc,rfl⟩:=h
   have e:z90 H[n]? = some b:=e
   cases hx:H[n]? with
   | none=>rw [hx] at e; cases e
   | some o=>
     rw [hx] at e
     obtain ⟨d,hd,R⟩:=I.cell hx
     rw [hc] at hd; cases hd
     cases o with
     | list xs=>
       cases e
       obtain ⟨vs,L,r,hl⟩:=R.isList
       rw [zdj] at hl
       refine wpAny_truthy_list L (by rw [List.size_toArray,← r.len]; lia) ?_
       have:(!(List.toArray vs).isEmpty) = !xs.isEmpty:=by
        have:=r.len
        cases xs <;> cases vs <;> simp_all
       rw [this]
       exact zdz I
     | deque=>cases e; exact DQ.truthy_ok R.2 fun k=>zdz I
     | _=>cases e
 | top x=>cases e
theorem z03 (a b:List Nat):(⟨a.toArray⟩:Str)++⟨b.toArray⟩ = ⟨(a++b).toArray⟩:=by
 show Str.append _ _ = _
 unfold Str.append
 simp
theorem binM_ok {op:Operator} {a b c:V} {x y:Value} (I:SI B ρ H s) (ha:VR ρ a x) (hb:VR ρ b y) (e:binM op a b = some c):wpAny (model B.prog B.w) A (binaryOp op x y) (za8 VR B ρ s (c,H)) E s:=by
 cases op with
 | Add=>
   have e:addM a b = some c:=e
   cases a with
   | int i=>
     obtain ⟨t,rfl⟩:=ha
     obtain ⟨j,u,rfl,e⟩:=zb9 hb e
     cases e
     exact P.add_int (zag I ⟨_,rfl⟩)
   | str a=>
     obtain ⟨la,t,rfl⟩:=ha
     obtain ⟨b,u,lb,rfl,e⟩:=zd0 hb e
     by_cases hl:a.length + b.length≤cap
     ·rw [if_pos hl] at e
      cases e
      refine PyProof.Rows.add_str (x:=⟨a.toArray⟩) (y:=⟨b.toArray⟩) (fun t' tk=>?_) (by show a.toArray.size + b.toArray.size≤_; rw [List.size_toArray,List.size_toArray,sizeLine_eq]; rw [zdj] at hl; lia)
      rw [z03]
      exact zag I ⟨by rw [List.length_append]; exact hl,_,rfl⟩
     ·rw [if_neg hl] at e; cases e
   | _=>cases e
 | FloorDiv=>
   obtain ⟨i,t,rfl,e⟩:=zb9 ha (show onI _ a = some c from e)
   obtain ⟨j,u,rfl,e⟩:=zb9 hb e
   by_cases hb:0 < j∧j≤1000
   ·rw [if_pos hb] at e
    cases e
    refine PyProof.Rows.floordiv_int (by lia) ?_ (.inl (PyProof.noPylong_small (by lia)))
    rw [Int.fdiv_eq_ediv_of_nonneg _ (by lia)]
    exact zag I ⟨_,rfl⟩
   ·rw [if_neg hb] at e; cases e
 | Mod=>
   obtain ⟨i,t,rfl,e⟩:=zb9 ha (show onI _ a = some c from e)
   obtain ⟨j,u,rfl,e⟩:=zb9 hb e
   by_cases hb:0 < j∧j≤1000
   ·rw [if_pos hb] at e
    cases e
    refine PyProof.Rows.mod_int' (by lia) ?_
    rw [Int.fmod_eq_emod_of_nonneg _ (by lia)]
    exact zag I ⟨_,rfl⟩
   ·rw [if_neg hb] at e; cases e
 | _=>cases e
theorem unM_ok {op:UnaryOp} {a c:V} {x:Value} (I:SI B ρ H s) (ha:VR ρ a x) (e:unM H op a = some c):wpAny (model B.prog B.w) A (unaryOp op x) (za8 VR B ρ s (c,H)) E s:=by
 cases op with
 | USub=>
   obtain ⟨i,t,rfl,e⟩:=zb9 ha (show onI _ a = some c from e)
   cases e
   exact PyProof.Rows.neg_int (zag I ⟨_,rfl⟩)
 | Not=>
   obtain ⟨b,hb,rfl⟩:=Option.map_eq_some_iff.mp (show (zeq H a).map _ = some c from e)
   refine not_value (wpAny_mono (zi6 I ha hb) (fun b' s' p=>?_) fun _ _ p=>p)
   obtain ⟨ρ',q,i,x⟩:=p
   cases q
   exact ⟨ρ',rfl,i,x⟩
 | _=>cases e
theorem zif (a b:List Nat):((⟨a.toArray⟩:Str) == ⟨b.toArray⟩) = (a == b):=by
 rw [Bool.eq_iff_iff,beq_iff_eq,beq_iff_eq]
 constructor
 ·intro h; injection h with h; exact List.toArray_inj h
 ·intro h; rw [h]
theorem typeOfV_inv {v:Value} {n:String} (h:zjy v = some n):v = .type n:=by cases v with | type m=>cases h; rfl | _=>cases h
theorem isN_ok {a:V} {k:Bool} {x:Value} (ha:VR ρ a x) (e:isN a = some k):plainIs x .none = true∧(x == .none) = k:=by
 cases a with
 | none=>cases ha; cases e; exact ⟨rfl,rfl⟩
 | bool t=>cases ha; cases e; exact ⟨rfl,rfl⟩
 | int i=>obtain ⟨t,rfl⟩:=ha; cases e; exact ⟨rfl,rfl⟩
 | str l=>obtain ⟨_,t,rfl⟩:=ha; cases e; exact ⟨rfl,rfl⟩
 | obj n=>obtain ⟨c,_,rfl⟩:=ha; cases e; exact ⟨rfl,rfl⟩
 | top v=>cases e
theorem isB_ok {a:V} {k b:Bool} {x:Value} (ha:VR ρ a x) (e:isB b a = some k):plainIs x (.bool b) = true∧(x == .bool b) = k:=by
 cases a with
 | bool t=>cases ha; cases e; exact ⟨rfl,by cases t <;> cases b <;> rfl⟩
 | str l=>obtain ⟨_,t,rfl⟩:=ha; cases e; exact ⟨rfl,rfl⟩
 | _=>cases e
theorem isT_ok {a:V} {k:Bool} {n:String} {x:Value} (ha:VR ρ a x) (e:isT n a = some k):plainIs x (.type n) = true∧(x == .type n) = k:=by
 cases a with
 | top v=>
   obtain ⟨m,hm,rfl⟩:=Option.map_eq_some_iff.mp (show (zjy v).map _ = some k from e)
   obtain rfl:=typeOfV_inv hm
   obtain ⟨rfl,_⟩:=ha
   refine ⟨rfl,?_⟩
   rw [Bool.eq_iff_iff,beq_iff_eq,beq_iff_eq,Value.type.injEq]
 | _=>cases e
theorem isV_ok {a b:V} {k:Bool} {x y:Value} (ha:VR ρ a x) (hb:VR ρ b y) (e:isV a b = some k):plainIs x y = true∧(x == y) = k:=by
 cases b with
 | none=>cases hb; exact isN_ok ha e
 | bool t=>cases hb; exact isB_ok ha e
 | top v=>
   obtain ⟨n,hn,e⟩:=Option.bind_eq_some_iff.mp (show (zjy v).bind _ = some k from e)
   obtain rfl:=typeOfV_inv hn
   obtain ⟨rfl,_⟩:=hb
   exact isT_ok ha e
 | _=>cases e
noncomputable abbrev EqR (A:Around) (s:Shared) (x y:Value) (k:Bool):Prop:=SeqAt.EqAt A s x y k∧SeqAt.RcAt A s x y k∧SeqAt.RcNeAt A s x y (!k)
theorem eqN_ok {b:V} {k:Bool} {y:Value} (hb:VR ρ b y) (e:eqN b = some k):EqR A s .none y k:=by
 cases b with
 | none=>cases e; cases hb; exact ⟨SeqAt.EqAt.same _,SeqAt.RcAt.none_none,SeqAt.RcNeAt.none_none⟩
 | str l=>cases e; obtain ⟨_,t,rfl⟩:=hb; exact ⟨SeqAt.EqAt.none_str _ _,SeqAt.RcAt.none_str _ _,SeqAt.RcNeAt.none_str _ _⟩
 | _=>cases e
theorem eqF_ok {a b:V} {k:Bool} {x y:Value} (ha:VR ρ a x) (hb:VR ρ b y) (e:eqF a b = some k):EqR A s x y k:=by
 cases a with
 | none=>cases ha; exact eqN_ok hb e
 | bool p=>
   cases ha
   cases b with
   | bool q=>cases hb; cases e; exact ⟨SeqAt.EqAt.bool_bool _ _,SeqAt.RcAt.bool_bool _ _,SeqAt.RcNeAt.bool_bool _ _⟩
   | _=>cases e
 | int i=>
   obtain ⟨t,rfl⟩:=ha
   obtain ⟨j,u,rfl,e⟩:=zb9 hb (show onI _ b = some k from e)
   cases e
   exact ⟨SeqAt.EqAt.int_int _ _ _ _,SeqAt.RcAt.int_int _ _ _ _,SeqAt.RcNeAt.int_int _ _ _ _⟩
 | str l=>
   obtain ⟨_,t,rfl⟩:=ha
   cases b with
   | none=>cases e; cases hb; exact ⟨SeqAt.EqAt.str_none _ _,SeqAt.RcAt.str_none _ _,SeqAt.RcNeAt.str_none _ _⟩
   | str q=>cases e; obtain ⟨_,u,rfl⟩:=hb; rw [← zif]; exact ⟨SeqAt.EqAt.str_str _ _ _ _,SeqAt.RcAt.str_str _ _ _ _,SeqAt.RcNeAt.str_str _ _ _ _⟩
   | _=>cases e
 | _=>cases e
theorem z9t {p q:Option Bool} {k:Bool} (h:and2 p q = some k):∃ a b,p = some a∧q = some b∧k = (a && b):=by
 cases p with
 | none=>cases h
 | some a=>obtain ⟨b,rfl,e⟩:=Option.map_eq_some_iff.mp (show q.map _ = some k from h); exact ⟨a,b,rfl,rfl,e.symm⟩
noncomputable def hd (p:Bool) (e:Nat→Bool) (j:Nat):Bool:=match j with
 | 0=>p
 | j + 1=>e j
theorem allM_ok {f:V→V→Option Bool} {xs:List V}:∀ {ys:List V} {k:Bool},allM f xs ys = some k→
  ∃ e:Nat→Bool,k = (List.range xs.length).all e∧∀ (j:Nat) (a b:V),xs[j]? = some a→ys[j]? = some b→f a b = some (e j):=by
 induction xs with
 | nil=>intro ys k h; cases ys with | nil=>cases h; exact ⟨fun _=>true,rfl,fun j a b h=>by cases h⟩ | cons _ _=>cases h
 | cons x xs ih=>
   intro ys k h
   cases ys with
   | nil=>cases h
   | cons y ys=>
   obtain ⟨p,q,hp,hq,rfl⟩:=z9t (show and2 _ _ = some k from h)
   obtain ⟨e,rfl,he⟩:=ih hq
   refine ⟨hd p e,?_,fun j a b h1 h2=>?_⟩
   ·rw [List.length_cons,List.range_succ_eq_map,List.all_cons,List.all_map]; rfl
   ·cases j with
    | zero=>cases h1; cases h2; exact hp
    | succ j=>exact he j a b h1 h2
theorem zw8 {n:Nat} {c:Cell} {k:Bool} (I:SI B ρ H s) (hc:ρ[n]? = some c) (h:isL H[n]? = some k):k = false∧∃ vs,s.heap.IsList c.1 (List.toArray vs):=by
 cases hx:H[n]? with
 | none=>rw [hx] at h; cases h
 | some o=>
   rw [hx] at h
   obtain ⟨d,hd,R⟩:=I.cell hx
   rw [hc] at hd; cases hd
   cases o with
   | list xs=>cases h; obtain ⟨vs,L,_,_⟩:=R.isList; exact ⟨rfl,vs,L⟩
   | _=>cases h
theorem eqL_ok {A:Around} {d n m:Nat} {c c':Cell} {k:Bool} (I:SI B ρ H s) (hu:A.units + d + 2 < cLine) (hc:ρ[n]? = some c) (hc':ρ[m]? = some c') (hne:c.1≠c'.1)
  (ih:∀ {A:Around} {a b:V} {k:Bool} {x y:Value},A.units + d + 1 < cLine→VR ρ a x→VR ρ b y→eqV H d a b = some k→EqR A s x y k) (e:eqL (eqV H d) H[n]? H[m]? = some k):EqR A s (.ref c.1) (.ref c'.1) k:=by
 obtain ⟨xs,hx,R1,e⟩:=za3 I hc e
 obtain ⟨ys,hy,R2,e⟩:=za3 I hc' e
 obtain ⟨vs,L1,r1,_⟩:=R1.isList
 obtain ⟨ws,L2,r2,_⟩:=R2.isList
 have hs1:(List.toArray vs).size = xs.length:=by rw [List.size_toArray,← r1.len]
 have hs2:(List.toArray ws).size = ys.length:=by rw [List.size_toArray,← r2.len]
 have hu':A.units < cLine:=Nat.lt_of_le_of_lt (Nat.le_trans (Nat.le_add_right _ _) (Nat.le_add_right _ _)) hu
 by_cases hl:xs.length = ys.length
 ·rw [if_pos hl] at e
  obtain ⟨f,rfl,hf⟩:=allM_ok e
  have he:∀ j (h1:j < (List.toArray vs).size) (h2:j < (List.toArray ws).size),SeqAt.EqAt A.in1 s (List.toArray vs)[j] (List.toArray ws)[j] (f j):=fun j h1 h2=>by
   have l1:j < xs.length:=hs1 ▸ h1
   have l2:j < ys.length:=hs2 ▸ h2
   obtain ⟨v,e1,q1⟩:=r1.get (List.getElem?_eq_getElem l1)
   obtain ⟨w,e2,q2⟩:=r2.get (List.getElem?_eq_getElem l2)
   have e1':(List.toArray vs)[j] = v:=(List.getElem?_eq_some_iff.mp e1).2
   have e2':(List.toArray ws)[j] = w:=(List.getElem?_eq_some_iff.mp e2).2
   rw [e1',e2']
   exact (ih (A:=A.in1) (by show A.units + 1 + d + 1 < cLine; lia) q1 q2 (hf j _ _ (List.getElem?_eq_getElem l1) (List.getElem?_eq_getElem l2))).1
  have hr:=SeqAt.RcAt.lists (A:=A) L1 L2 (hs1.trans (hl.trans hs2.symm)) hu' he
  have hn:=SeqAt.RcNeAt.lists (A:=A) L1 L2 (hs1.trans (hl.trans hs2.symm)) hu' he
  rw [hs1] at hr hn
  exact ⟨.of_refs hne hr,hr,hn⟩
 ·rw [if_neg hl] at e
  cases e
  have hsz:((List.toArray vs).size != (List.toArray ws).size) = true:=by rw [hs1,hs2]; exact bne_iff_ne.mpr hl
  have hr:=SeqAt.RcAt.lists_lengths (A:=A) L1 L2 hsz hu'
  exact ⟨.of_refs hne hr,hr,SeqAt.RcNeAt.lists_lengths L1 L2 hsz hu'⟩
theorem z35 (d:Nat):∀ {A:Around} {a b:V} {k:Bool} {x y:Value},SI B ρ H s→A.units + d + 1 < cLine→VR ρ a x→VR ρ b y→eqV H d a b = some k→EqR A s x y k:=by
 induction d with
 | zero=>intro A a b k x y I hu ha hb e; exact eqF_ok ha hb e
 | succ d ih=>
   intro A a b k x y I hu ha hb e
   have hu':A.units < cLine:=Nat.lt_of_le_of_lt (Nat.le_trans (Nat.le_add_right _ _) (Nat.le_add_right _ _)) hu
   cases a with
   | obj n=>
     obtain ⟨c,hc,rfl⟩:=ha
     cases b with
     | obj m=>
       obtain ⟨c',hc',rfl⟩:=hb
       have e:(if n = m then none else eqL (eqV H d) H[n]? H[m]?) = some k:=e
       by_cases hab:n = m
       ·rw [if_pos hab] at e; cases e
       ·rw [if_neg hab] at e
        exact eqL_ok I hu hc hc' (I.hr.apart n m c c' hc hc' hab).1 (ih I) e
     | none=>
       cases hb
       obtain ⟨rfl,vs,L⟩:=zw8 I hc e
       exact ⟨SeqAt.EqAt.list_none L hu',SeqAt.RcAt.list_none L hu',SeqAt.RcNeAt.list_none L hu'⟩
     | _=>cases e
   | none=>
     cases ha
     cases b with
     | obj m=>
       obtain ⟨c',hc',rfl⟩:=hb
       obtain ⟨rfl,vs,L⟩:=zw8 I hc' e
       exact ⟨SeqAt.EqAt.none_list L hu',SeqAt.RcAt.none_list L hu',SeqAt.RcNeAt.none_list L hu'⟩
     | _=>exact eqN_ok hb e
   | _=>exact eqF_ok ha hb e
theorem zwe {xs:List V}:∀ {vs:List Value} {ys:List (List Nat)},VRs ρ xs vs→strs? xs = some ys→StrsAre vs (ys.map fun l=>(⟨l.toArray⟩:Str)):=by
 induction xs with
 | nil=>intro vs ys h e; cases vs with | nil=>cases e; exact .nil | cons _ _=>exact False.elim h
 | cons x xs ih=>
   intro vs ys h e
   cases vs with
   | nil=>exact False.elim h
   | cons v vs=>
   cases x with
   | str l=>
     obtain ⟨zs,hz,rfl⟩:=Option.map_eq_some_iff.mp (show (strs? xs).map (l::·) = some ys from e)
     obtain ⟨_,t,rfl⟩:=h.1
     exact .cons _ _ (ih h.2 hz)
   | _=>cases e
theorem z9s (ys:List (List Nat)) (x:List Nat):((ys.map fun l=>(⟨l.toArray⟩:Str)).any (· == ⟨x.toArray⟩)) = ys.contains x:=by
 rw [List.any_map,List.contains_eq_any_beq]
 congr 1
 funext l
 show ((⟨l.toArray⟩:Str) == ⟨x.toArray⟩) = _
 rw [zif]
 rw [Bool.eq_iff_iff,beq_iff_eq,beq_iff_eq]
 exact eq_comm
theorem inV_ok {a b:V} {k:Bool} {x y:Value} (I:SI B ρ H s) (ha:VR ρ a x) (hb:VR ρ b y) (e:inV H a b = some k) {Q:Value→Shared→Prop}:
  (Q (.bool k) s→wpAny (model B.prog B.w) A (compareOp .In x y) Q E s)∧(Q (.bool (!k)) s→wpAny (model B.prog B.w) A (compareOp .NotIn x y) Q E s):=by
 obtain ⟨l,t,_,rfl,e⟩:=zd0 ha e
 cases b with
 | str y=>
   obtain ⟨_,u,rfl⟩:=hb
   obtain ⟨c,rfl,e⟩:=zkc (show onC _ l = some k from e)
   cases e
   have q:(!(Builtin.Str.occurrences ⟨y.toArray⟩ ⟨[c].toArray⟩ 0 (⟨y.toArray⟩:Str).length 1).isEmpty) = y.contains c:=by
    rw [show (⟨[c].toArray⟩:Str) = ⟨#[c]⟩ from rfl,StrLaws.found_one,List.contains_eq_mem]
   exact ⟨fun h=>P.in_str (x:=⟨y.toArray⟩) (by rw [q]; exact h),fun h=>P.notIn_str (x:=⟨y.toArray⟩) (by rw [q]; exact h)⟩
 | obj n=>
   obtain ⟨c,hc,rfl⟩:=hb
   obtain ⟨ys,hy,rfl⟩:=Option.map_eq_some_iff.mp (show (z52 H[n]?).map _ = some k from e)
   have key:∀ {vs:List Value},StrsAre vs (ys.map fun l=>(⟨l.toArray⟩:Str))→(List.toArray vs).any (isStrOf ⟨l.toArray⟩) = ys.contains l∧∀ y,y∈List.toArray vs→SeqAt.EqAt A.in1 s y (.str ⟨l.toArray⟩ t) (isStrOf ⟨l.toArray⟩ y):=fun {vs} hs=>
    ⟨by rw [← Array.any_toList,show (List.toArray vs).toList = vs from rfl,any_isStrOf _ hs,z9s],fun y hy=>(eq_isStrOf _ t hs y (by simpa using hy)).at _ _⟩
   cases hx:H[n]? with
   | none=>rw [hx] at hy; cases hy
   | some o=>
     rw [hx] at hy
     obtain ⟨d,hd,R⟩:=I.cell hx
     rw [hc] at hd; cases hd
     cases o with
     | list xs=>
       obtain ⟨vs,L,r,_⟩:=R.isList
       obtain ⟨k1,k2⟩:=key (zwe r hy)
       exact ⟨fun h=>SeqAt.in_listAt _ L k2 (by rw [k1]; exact h),fun h=>SeqAt.notIn_listAt _ L k2 (by rw [k1]; exact h)⟩
     | tup xs=>
       obtain ⟨vs,L,r,_⟩:=R.isTuple
       obtain ⟨k1,k2⟩:=key (zwe r hy)
       exact ⟨fun h=>SeqAt.in_tupleAt _ L k2 (by rw [k1]; exact h),fun h=>SeqAt.notIn_tupleAt _ L k2 (by rw [k1]; exact h)⟩
     | _=>cases hy
 | _=>cases e
theorem zwz {f:Int→Int→Bool} {a b:V} {k:Bool} {x y:Value} (ha:VR ρ a x) (hb:VR ρ b y) (e:lt2 f a b = some k):∃ i t j u,x = .int i t∧y = .int j u∧f i j = k:=by
 obtain ⟨i,t,h1,e⟩:=zb9 ha e
 obtain ⟨j,u,h2,e⟩:=zb9 hb e
 exact ⟨i,t,j,u,h1,h2,Option.some.inj e⟩
theorem cmp_ok {op:CmpOp} {a b:V} {k:Bool} {x y:Value} (I:SI B ρ H s) (hu:A.units + 10 < cLine) (ha:VR ρ a x) (hb:VR ρ b y) (e:cmpM H op a b = some k):
  wpAny (model B.prog B.w) A (compareOp op x y) (za8 VR B ρ s ((.bool k),H)) E s:=by
 have fin:za8 VR B ρ s ((.bool k),H) (.bool k) s:=zag (k:=s.toks) I rfl
 have hu':A.units + 4 + 1 < cLine:=by lia
 have neg:∀ {o:Option Bool},o.map (!·) = some k→o = some (!k):=fun {o} h=>by cases o with | none=>cases h | some b=>cases h; rw [Bool.not_not]
 have nn:(!(!k)) = k:=Bool.not_not k
 cases op with
 | Eq=>exact cmp_ofEq ((z35 4 (A:=A) I hu' ha hb e).2.1 _ _ _ _ fin)
 | NotEq=>
   have h:=(z35 4 (A:=A) I hu' ha hb (neg e)).2.2
   rw [nn] at h
   exact cmp_ofNotEq (h _ _ _ _ fin)
 | Lt=>obtain ⟨i,t,j,u,rfl,rfl,rfl⟩:=zwz ha hb e; exact P.lt_int fin
 | LtE=>obtain ⟨i,t,j,u,rfl,rfl,rfl⟩:=zwz ha hb e; exact P.le_int fin
 | Gt=>obtain ⟨i,t,j,u,rfl,rfl,rfl⟩:=zwz ha hb e; exact P.gt_int fin
 | GtE=>obtain ⟨i,t,j,u,rfl,rfl,rfl⟩:=zwz ha hb e; exact P.ge_int fin
 | Is=>obtain ⟨p,rfl⟩:=isV_ok ha hb e; exact wpAny_is_plain p fin
 | IsNot=>
   obtain ⟨p,q⟩:=isV_ok ha hb (neg e)
   have q:(!(x == y)) = k:=by rw [q]; exact nn
   subst q
   exact wpAny_isNot_plain p fin
 | In=>exact (inV_ok I ha hb e).1 fin
 | NotIn=>
   have h:=(inV_ok (A:=A) (E:=E) I ha hb (neg e) (Q:=za8 VR B ρ s ((.bool k),H))).2
   rw [nn] at h
   exact h fin
end
section
variable {B:Base} {A:Around} {fl:List Env} {s:Shared} {ρ:List Cell} {H:Hp} {E:Value→Shared→Prop}
theorem zfo {i:Int} {n:Int} (h:i < 0):i + n < n:=by have:=Int.add_lt_add_right h n; rwa [Int.zero_add] at this
theorem zqc {i:Int} {n k:Nat} (h:idx i n = some k):seqIndex? i n = some k:=by
 have b:∀ {j:Int},0≤j→j < n→(if (decide (0≤j) && decide (j < n)) = true then some j.toNat else none) = some j.toNat:=fun p q=>if_pos (by rw [decide_eq_true p,decide_eq_true q]; rfl)
 show (if (decide (0≤(if i < 0 then i + (n:Int) else i)) && decide ((if i < 0 then i + (n:Int) else i) < n)) = true then some (if i < 0 then i + (n:Int) else i).toNat else none) = _
 rcases ite_some (show (if _ then _ else _) = some k from h) with ⟨q,h⟩ | ⟨_,h⟩
 ·rw [if_neg (Int.not_lt.mpr q.1)]; exact (b q.1 q.2).trans h
 ·obtain ⟨q,h⟩:=zaf h
  rw [if_pos q.1]; exact (b q.2 (zfo q.1)).trans h
theorem zys {i:Int} {n:Int} (h:0≤i + n):-n≤i:=by lia
theorem idx_lt {i:Int} {n k:Nat} (h:idx i n = some k):k < n∧-(n:Int)≤i∧i < n∧(0≤i→k = i.toNat)∧(i < 0→k = (i + n).toNat):=by
 have z:0≤(n:Int):=Int.natCast_nonneg n
 rcases ite_some (show (if _ then _ else _) = some k from h) with ⟨q,h⟩ | ⟨_,h⟩
 ·cases h
  exact ⟨(Int.toNat_lt q.1).mpr q.2,Int.le_trans (Int.neg_nonpos_of_nonneg z) q.1,q.2,fun _=>rfl,fun h=>absurd q.1 (Int.not_le.mpr h)⟩
 ·obtain ⟨q,h⟩:=zaf h
  cases h
  exact ⟨(Int.toNat_lt q.2).mpr (zfo q.1),zys q.2,Int.lt_of_lt_of_le q.1 z,fun h=>absurd q.1 (Int.not_lt.mpr h),fun _=>rfl⟩
theorem z1h {α:Type} (l:List α) (a b:Nat) (hb:b≤l.length):(sliceRange (a:Int) (b:Int) 1).filterMap (l[·]?) = cut l a b:=by
 unfold sliceRange cut
 simp only [show (1:Int) > 0 from by decide,if_true]
 by_cases h:(a:Int) < b
 ·rw [if_pos h,List.filterMap_map]
  have e:((b:Int) - a + 1 - 1) / 1 = ((b - a:Nat):Int):=by rw [Int.ediv_one]; lia
  rw [e,Int.toNat_natCast]
  have:∀ n,a + n≤l.length→List.filterMap ((fun x=>l[x]?) ∘ fun (k:Nat)=>((a:Int) + 1 * (k:Int)).toNat) (List.range n) = (l.take (a + n)).drop a:=by
   intro n
   induction n with
   | zero=>intro _; simp
   | succ n ih=>
     intro hn
     rw [List.range_succ,List.filterMap_append,ih (Nat.le_of_lt (by assumption))]
     have hl:a + n < l.length:=by assumption
     have e1:((a:Int) + 1 * (n:Int)).toNat = a + n:=by lia
     simp only [List.filterMap_cons,List.filterMap_nil,Function.comp,e1,List.getElem?_eq_getElem hl]
     have:l.take (a + (n + 1)) = l.take (a + n)++[l[a + n]]:=by rw [← Nat.add_assoc,List.take_succ_eq_append_getElem hl]
     rw [this,List.drop_append_of_le_length (by rw [List.length_take]; lia)]
  rw [this (b - a) (by lia)]
  congr 2; lia
 ·rw [if_neg h]
  simp
  lia
noncomputable def zdr:V→Option Int
 | .int i=>some i
 | _=>none
theorem z85 {i:Int} {n:Nat} (h:0≤i):((min i.toNat n:Nat):Int) = min i n:=by
 rcases Nat.le_total i.toNat n with q | q
 ·rw [Nat.min_eq_left q,Int.min_eq_left (Int.toNat_le.mp q),Int.toNat_of_nonneg h]
 ·rw [Nat.min_eq_right q,Int.min_eq_right ((Int.le_toNat h).mp q)]
theorem z4h (i:Int) (n:Nat):clampI i n≤n∧((clampI i n:Nat):Int) = max 0 (min (if i < 0 then i + n else i) n):=by
 have z:0≤(n:Int):=Int.natCast_nonneg n
 unfold clampI
 by_cases q:i < 0
 ·rw [if_pos q,if_pos q,Int.ofNat_toNat,Int.min_eq_left (Int.le_of_lt (zfo q)),Int.max_comm]
  exact ⟨Int.toNat_le.mpr (Int.le_of_lt (zfo q)),rfl⟩
 ·have q:=Int.not_lt.mp q
  rw [if_neg (Int.not_lt.mpr q),if_neg (Int.not_lt.mpr q),z85 q,Int.max_eq_right (Int.le_min.mpr ⟨q,z⟩)]
  exact ⟨Nat.min_le_right _ _,rfl⟩
theorem zhc {d n:Nat} {v:V} {a:Nat} (h:zdf d n v = some a) (hd:d≤n):a≤n∧(match zdr v with | none=>v = .none∧a = d | some i=>(a:Int) = max 0 (min (if i < 0 then i + n else i) n)):=by
 cases v with
 | none=>cases h; exact ⟨hd,rfl,rfl⟩
 | int i=>
   cases h
   exact z4h i n
 | _=>cases h
theorem zww {v:V} {w:Value} {d n a:Nat} (h:VR ρ v w) (e:zdf d n v = some a):IsPart w (zdr v):=by
 cases v with
 | none=>cases h; exact .none
 | int i=>obtain ⟨t,rfl⟩:=h; exact .int _ _
 | _=>cases e
theorem zqu {v:V} {w:Value} {d n a:Nat} (h:VR ρ v w) (e:zdf d n v = some a):∃ p:Option (Int×Tok),w = partValue p∧p.map (·.1) = zdr v:=by
 cases v with
 | none=>cases h; exact ⟨none,rfl,rfl⟩
 | int i=>obtain ⟨t,rfl⟩:=h; exact ⟨some (_,t),rfl,rfl⟩
 | _=>cases e
theorem zmo {n:Nat} {lo hi:V} {a b:Nat} (ha:zdf 0 n lo = some a) (hb:zdf n n hi = some b):sliceBounds (zdr lo) (zdr hi) none n = ((a:Int),(b:Int),1):=by
 obtain ⟨a1,a2⟩:=zhc ha (Nat.zero_le _)
 obtain ⟨b1,b2⟩:=zhc hb (Nat.le_refl _)
 unfold sliceBounds
 simp only [Option.getD_none,show (1:Int) > 0 from by decide,if_true]
 congr 1
 ·cases hp:zdr lo with
  | none=>rw [hp] at a2; rw [a2.2]; rfl
  | some i=>rw [hp] at a2; exact a2.symm
 ·congr 1
  cases hp:zdr hi with
  | none=>rw [hp] at b2; rw [b2.2]
  | some i=>rw [hp] at b2; exact b2.symm
theorem z1g (a b:Nat):(sliceRange (a:Int) (b:Int) 1).length = b - a:=by
 unfold sliceRange
 simp only [show (1:Int) > 0 from by decide,if_true,List.length_map,List.length_range]
 by_cases h:(a:Int) < b
 ·rw [if_pos h,Int.ediv_one]; lia
 ·rw [if_neg h]; simp; lia
theorem zwv {α:Type} {l:List α} {lo hi:V} {a b:Nat} (ha:zdf 0 l.length lo = some a) (hb:zdf l.length l.length hi = some b):
  (sliceRange (sliceBounds (zdr lo) (zdr hi) none l.length).1 (sliceBounds (zdr lo) (zdr hi) none l.length).2.1 (sliceBounds (zdr lo) (zdr hi) none l.length).2.2).filterMap (l[·]?) = cut l a b:=by
 rw [zmo ha hb]
 exact z1h l a b (zhc hb (Nat.le_refl _)).1
noncomputable def SubAt (B:Base) (A:Around) (s:Shared) (x y:Value) (Q:Value→Shared→Prop) (E:Value→Shared→Prop):Prop:=
 ∃ T id,s.TypeIs x T∧typeLookup (.type T) "__getitem__" = pure (some (.builtin id))∧wpAny (model B.prog B.w) A (getItem x y) Q E s
theorem SubAt.tail {value slice:Expr} {x y:Value} {ops:List Value} {Q:Value→Shared→Prop} (h:SubAt B A s x y Q E) (hs:subscripted slice false x y = operate ops (getItem x y)):
  wpAny (model B.prog B.w) A (subscriptTail value slice x y) Q E s:=
 let ⟨_,_,hT,hl,hg⟩:=h
 tail_any hT hl hg hs
theorem zkd {w:Value} {v:V} (h:zuf w = some v):VR ρ v w:=by
 cases w with
 | none=>cases h; rfl
 | bool b=>cases h; rfl
 | int i tk=>cases h; exact ⟨_,rfl⟩
 | str x tk=>
   obtain ⟨q,e⟩:=zaf (show strV x = some v from h)
   cases e; exact ⟨q,_,rfl⟩
 | ref a=>cases h; exact ⟨rfl,.inl ⟨_,rfl⟩⟩
 | type a=>cases h; exact ⟨rfl,.inr (.inl ⟨_,rfl⟩)⟩
 | builtin a=>cases h; exact ⟨rfl,.inr (.inr ⟨_,rfl⟩)⟩
 | _=>cases h
theorem ztv {K:Frag} {a:Addr} {vs:List Value} (h:topList K a = some vs):∃ d q n sl,K.lookup a = some ⟨.type "list",d,.seq q n,sl⟩∧vs = q.toList:=by
 obtain ⟨o,ho,e⟩:=Option.bind_eq_some_iff.mp h
 obtain ⟨hc,e⟩:=zaf e
 obtain ⟨c,d,dt,sl⟩:=o
 obtain rfl:c = .type "list" := beq_iff_eq.mp hc
 cases dt with
 | seq q n=>cases e; exact ⟨d,q,n,sl,ho,rfl⟩
 | _=>cases e
theorem sub_ok {a b c:V} {x y:Value} (KX:B.K.In B.h₀) (I:SI B ρ H s) (ha:VR ρ a x) (hb:VR ρ b y) (e:subM B.K H a b = some c):SubAt B A s x y (za8 VR B ρ s (c,H)) E:=by
 cases a with
 | obj n=>
   obtain ⟨d,hd,rfl⟩:=ha
   obtain ⟨i,t,rfl,e⟩:=zb9 hb (show onI _ b = some c from e)
   obtain ⟨xs,hx,R,e⟩:=za3 I hd e
   obtain ⟨k,hk,hc⟩:=Option.bind_eq_some_iff.mp e
   obtain ⟨vs,L,r,hl⟩:=R.isList
   obtain ⟨v,hv,q⟩:=r.get hc
   obtain ⟨k1,k2,k3,k4,k5⟩:=idx_lt hk
   rw [zdj] at hl
   have fin:za8 VR B ρ s (c,H) v s:=zag (k:=s.toks) I q
   refine ⟨"list",_,L.typeIs,slot_list_getitem.lookup,?_⟩
   by_cases h0:0≤i
   ·exact wpAny_getItem_list L h0 (by lia) (by rw [List.getElem?_toArray,← k4 h0]; exact hv) fin
   ·have hn:i < 0:=Int.not_le.mp h0
    refine wpAny_getItem_list_neg L hn (by rw [List.size_toArray,← r.len]; exact k2) (by lia) ?_ fin
    rw [List.size_toArray,← r.len,List.getElem?_toArray,← k5 hn]; exact hv
 | str l=>
   obtain ⟨hl,t,rfl⟩:=ha
   obtain ⟨i,u,rfl,e⟩:=zb9 hb (show onI _ b = some c from e)
   obtain ⟨k,hk,hc⟩:=Option.bind_eq_some_iff.mp e
   obtain ⟨ch,hch,rfl⟩:=Option.map_eq_some_iff.mp hc
   obtain ⟨k1,k2,k3,k4,k5⟩:=idx_lt hk
   rw [zdj] at hl
   refine ⟨"str",_,typeIs_str s _ t,slot_str_getitem.lookup,P.getItem_str (c:=ch) ?_ ?_ ?_⟩
   ·rw [Bool.or_eq_false_iff]; exact ⟨decide_eq_false (by lia),decide_eq_false (by lia)⟩
   ·show (seqIndex? i (Str.length ⟨l.toArray⟩)).bind _ = _
    rw [show Str.length ⟨l.toArray⟩ = l.length from List.size_toArray ..,zqc hk]
    simpa using hch
   ·exact zag I ⟨by simp [zdj],_,rfl⟩
 | top v=>
   obtain ⟨i,u,rfl,e⟩:=zb9 hb (show onI (z91 B.K v) b = some c from e)
   cases v with
   | ref a=>
     obtain ⟨rfl,_⟩:=ha
     obtain ⟨hi,e⟩:=zaf (show (if _ then _ else none) = some c from e)
     obtain ⟨vs,hv,e⟩:=Option.bind_eq_some_iff.mp e
     obtain ⟨w,hw,e2⟩:=Option.bind_eq_some_iff.mp e
     obtain ⟨d,q,n,sl,hK,rfl⟩:=ztv hv
     have g:=I.keep _ _ (KX _ _ hK)
     have L:s.heap.IsList a q:=⟨_,g,rfl,_,rfl⟩
     exact ⟨"list",_,L.typeIs,slot_list_getitem.lookup,wpAny_getItem_list L hi.1 (by lia) (by rw [← Array.getElem?_toList]; exact hw) (zag (k:=s.toks) I (zkd e2))⟩
   | _=>cases e
 | _=>cases e
theorem z4c {α:Type} (l:List α) (a b:Nat):(cut l a b).length≤l.length:=by
 unfold cut; rw [List.length_drop,List.length_take]; lia
theorem cut_ok {v lo hi r:V} {H':Hp} {x:Value} {sl:Addr} {vl vu:Value} (I:SI B ρ H s) (ha:VR ρ v x) (hl:VR ρ lo vl) (hh:VR ρ hi vu) (hs:s.heap.IsSliceOf sl vl vu .none) (e:cutM H v lo hi = some (r,H')):
  SubAt B A s x (.ref sl) (za8 VR B ρ s (r,H')) E:=by
 cases v with
 | str l=>
   obtain ⟨hc,t,rfl⟩:=ha
   obtain ⟨a,h1,e⟩:=Option.bind_eq_some_iff.mp (show Option.bind _ _ = some (r,H') from e)
   obtain ⟨b,h2,e⟩:=Option.map_eq_some_iff.mp e
   cases e
   obtain ⟨p1,rfl,e1⟩:=zqu hl h1
   obtain ⟨p2,rfl,e2⟩:=zqu hh h2
   refine ⟨"str",_,typeIs_str s _ t,slot_str_getitem.lookup,wpAny_getItem_str_slice (l:=p1) (u:=p2) (st:=none) hs (by decide) ?_⟩
   have q:slicePicked ⟨l.toArray⟩ p1 p2 none = sliceRange (sliceBounds (zdr lo) (zdr hi) none l.length).1 (sliceBounds (zdr lo) (zdr hi) none l.length).2.1 (sliceBounds (zdr lo) (zdr hi) none l.length).2.2:=by
    unfold slicePicked
    rw [e1,e2,show Str.length ⟨l.toArray⟩ = l.length from List.size_toArray ..]
    rfl
   have q2:(slicePicked ⟨l.toArray⟩ p1 p2 none).filterMap ((⟨l.toArray⟩:Str).cps[·]?) = cut l a b:=by
    rw [q,← zwv h1 h2]
    congr 1
    funext k
    simp
   unfold sliceMade
   split
   ·rename_i z
    rw [Bool.and_eq_true,beq_iff_eq,beq_iff_eq] at z
    have z2:=z.2
    rw [show Str.length ⟨l.toArray⟩ = l.length from List.size_toArray ..,q,zmo h1 h2,z1g] at z2
    have b1:=(zhc h2 (Nat.le_refl _)).1
    have this:cut l a b = l:=by
     unfold cut
     by_cases hz:l.length = 0
     ·rw [List.eq_nil_of_length_eq_zero hz]; simp
     ·have hb:b = l.length:=by lia
      have ha:a = 0:=by lia
      rw [hb,ha]; simp
    rw [this]
    exact zag (k:=s.toks) I ⟨hc,_,rfl⟩
   ·rw [q2]
    refine ⟨by show (cut l a b).toArray.size≤sizeLine; rw [List.size_toArray,sizeLine_eq]; have:=z4c l a b; rw [zdj] at hc; lia,?_⟩
    exact zag I ⟨Nat.le_trans (z4c l a b) hc,_,rfl⟩
 | obj n=>
   obtain ⟨c,hc,rfl⟩:=ha
   obtain ⟨xs,hx,R,e⟩:=za3 I hc (show onLs _ _ = some (r,H') from e)
   obtain ⟨a,h1,e⟩:=Option.bind_eq_some_iff.mp e
   obtain ⟨b,h2,e⟩:=Option.map_eq_some_iff.mp e
   cases e
   obtain ⟨vs,L,r,hl'⟩:=R.isList
   have hn:=r.len
   refine ⟨"list",_,L.typeIs,slot_list_getitem.lookup,wpAny_getItem_list_slice L hs (zww hl h1) (zww hh h2) .none ((fun h=>nomatch h)) ?_ (by rw [List.size_toArray,← hn,sizeLine_eq]; rw [zdj] at hl'; lia)⟩
   have q:slicePick (List.toArray vs) (zdr lo) (zdr hi) none = (cut vs a b).toArray:=by
    unfold slicePick
    rw [List.size_toArray,← hn]
    rw [hn] at h1 h2
    rw [hn,← zwv h1 h2]
    congr 2
    funext k
    simp
   rw [q]
   have k:∀ b' o,s.heap.get? b' = some o→(s.heap.push { cls:=.type "list",data:=.seq (cut vs a b).toArray }).get? b' = some o:=fun b' o e=>Heap.get?_push_of_some _ e
   have:=I.add (s':={ s with heap:=s.heap.push { cls:=.type "list",data:=.seq (cut vs a b).toArray } }) (c:=(s.heap.objs.size,s.heap.objs.size)) (o:=.list (cut xs a b)) k rfl rfl
    (by cases q:s.heap.get? s.heap.objs.size with | none=>rfl | some o=>exact absurd (Heap.lt_size q) (Nat.lt_irrefl _))
    (by cases q:s.heap.get? s.heap.objs.size with | none=>rfl | some o=>exact absurd (Heap.lt_size q) (Nat.lt_irrefl _))
    ⟨⟨rfl,Nat.le_trans (z4c xs a b) hl'⟩,cut vs a b,0,Heap.get?_push_size _ rfl,((r.take b).drop a).mono ⟨_,rfl⟩⟩
   refine ⟨_,⟨(s.heap.objs.size,s.heap.objs.size),?_,rfl⟩,this.1,this.2⟩
   rw [← I.hr.len]; simp
 | _=>cases e
end
section
open PySem.Builtin PySem.Builtin.Str
theorem zen (l:List Nat):Str.length ⟨l.toArray⟩ = l.length:=List.size_toArray ..
theorem z6a {a b l:List Nat} (h:a++b = l.reverse):b.reverse = l.take (l.length - a.length):=by
 have e:l = b.reverse++a.reverse:=by rw [← List.reverse_append,h,List.reverse_reverse]
 subst e
 rw [List.length_append,List.length_reverse,List.length_reverse,Nat.add_sub_cancel]
 exact (List.take_left' List.length_reverse).symm
theorem zgi (p:Nat→Bool) (l:List Nat):(l.reverse.dropWhile p).reverse = l.take (l.length - (l.reverse.takeWhile p).length):=z6a List.takeWhile_append_dropWhile
theorem z1b (l:List Nat):Txt.rstrip ⟨l.toArray⟩ = ⟨(za4 l).toArray⟩:=by
 unfold Txt.rstrip
 rw [PyProof.Rows.stripBy_eq]
 unfold stripLo stripHi za4
 apply PySem.Str.ext'
 apply Array.toList_inj.mp
 rw [StrLaws.strSub_toList]
 simp only [Bool.false_eq_true,if_false,if_true,List.drop_zero,Nat.sub_zero,zen]
 show List.take (l.length - (List.takeWhile Unicode.isSpace l.reverse).length) l = _
 rw [show isSp = Unicode.isSpace from rfl,zgi]
theorem low_one:∀ c,c < 128→Unicode.lowerOf c = [lowA c]:=by decide +kernel
theorem zw0 (l:List Nat) (h:l.all (· < 128) = true):Txt.lower ⟨l.toArray⟩ = ⟨(l.map lowA).toArray⟩:=by
 unfold Txt.lower placed
 apply PySem.Str.ext'
 apply Array.toList_inj.mp
 have e:(Array.mapIdx (fun i c=>((fun i _=>Unicode.lowerAt l.toArray i) i c).toArray) l.toArray) = (l.map fun c=>#[lowA c]).toArray:=by
  apply Array.ext
  ·simp
  ·intro i h1 h2
   simp at h1
   have hi:l[i] < 128:=by
    have:=List.all_eq_true.mp h l[i] (List.getElem_mem h1)
    simpa using this
   simp [Unicode.lowerAt,h1,low_one _ hi]
   intro q; lia
 show (Array.mapIdx (fun i c=>((fun i _=>Unicode.lowerAt l.toArray i) i c).toArray) l.toArray).flatten.toList = _
 rw [e]
 have:∀ k:List Nat,((k.map fun c=>#[lowA c]).toArray).flatten.toList = k.map lowA:=by
  intro k
  rw [Array.toList_flatten]
  simp only [List.map_map]
  induction k with
  | nil=>rfl
  | cons a r ih=>simpa using ih
 rw [this]
theorem zva (l y:List Nat):Txt.endswith ⟨l.toArray⟩ ⟨y.toArray⟩ = zzu l y:=by
 unfold Txt.endswith zzu
 rw [StrLaws.subAt_eq,zen,zen,Nat.zero_add]
 by_cases h:y.length≤l.length
 ·simp only [h,decide_true,Bool.true_and]
  rw [List.take_of_length_le (by rw [List.length_drop]; exact Nat.le_of_eq (Nat.sub_sub_self h))]
 ·simp [h]
theorem zmk (c:Nat) (l:List Nat):∀ (k:Nat),(findL c l k = -1∧c ∉ l)∨∃ i,findL c l k = ((k + i:Nat):Int)∧i < l.length∧l[i]? = some c∧∀ j,j < i→l[j]?≠some c:=by
 induction l with
 | nil=>exact fun k=>.inl ⟨rfl,List.not_mem_nil⟩
 | cons x r ih=>
   intro k
   rw [findL_c]
   by_cases h:x = c
   ·exact .inr ⟨0,if_pos h,Nat.succ_pos _,congrArg some h,fun j hj=>absurd hj (Nat.not_lt_zero j)⟩
   ·rw [if_neg h]
    rcases ih (k + 1) with ⟨h1,h2⟩ | ⟨i,h1,h2,h3,h4⟩
    ·exact .inl ⟨h1,fun q=>(List.mem_cons.mp q).elim (fun e=>h e.symm) h2⟩
    ·exact .inr ⟨i + 1,h1.trans (congrArg Int.ofNat (Nat.add_right_comm k 1 i)),Nat.succ_lt_succ h2,h3,fun j hj=>by
      cases j with
      | zero=>exact fun e=>h (Option.some.inj e)
      | succ j=>exact h4 j (Nat.lt_of_succ_lt_succ hj)⟩
theorem find_eq (l:List Nat) (c a:Nat):(match occurrences ⟨l.toArray⟩ ⟨#[c]⟩ a (Str.length ⟨l.toArray⟩) 1 with | k::_=>(k:Int) | []=>-1) = findL c (l.drop a) a:=by
 rcases StrLaws.occ_head_from ⟨l.toArray⟩ ⟨#[c]⟩ a 1 (Nat.le_refl 1) with ⟨h0,hn⟩ | ⟨k,r,h0,hlo,hk,hn⟩
 ·rw [h0]
  rcases zmk c (l.drop a) a with ⟨h1,_⟩ | ⟨i,h1,h2,h3,h4⟩
  ·exact h1.symm
  ·rw [List.getElem?_drop] at h3
   exact absurd ((StrLaws.subAt_one ⟨l.toArray⟩ c (a + i)).mpr (h3)) (hn (a + i) (Nat.le_add_right _ _))
 ·rw [h0]
  have hk':=(StrLaws.subAt_one ⟨l.toArray⟩ c k).mp hk
  have hk2:l[k]? = some c:=hk'
  have hd:(l.drop a)[k - a]? = some c:=by rw [List.getElem?_drop,Nat.add_sub_cancel' hlo]; exact hk2
  rcases zmk c (l.drop a) a with ⟨_,h2⟩ | ⟨i,h1,h2,h3,h4⟩
  ·exact absurd (List.mem_of_getElem? hd) h2
  ·rw [h1]
   have e1:¬ (k - a < i):=fun q=>h4 _ q hd
   have e2:¬ (a + i < k):=fun q=>by
    rw [List.getElem?_drop] at h3
    exact hn (a + i) (Nat.le_add_right _ _) q ((StrLaws.subAt_one ⟨l.toArray⟩ c (a + i)).mpr (h3))
   show (k:Int) = _
   congr 1; lia
theorem z3e (c:Nat):Unicode.isLineBreak c = isNl c:=rfl
noncomputable def subL (l:List Nat) (p:Nat×Nat×Nat):List Nat:=(l.drop p.1).take (p.2.1 - p.1)
theorem z2o (l:List Nat):∀ (n:Nat) (rest pre:List Nat) (arr:Array (Nat×Nat×Nat)) (start:Nat),rest.length≤n→l = pre++rest→start≤pre.length→
  (StrLaws.lsEnd ⟨l.toArray⟩ (Id.run (forIn (m:=Id) (List.range' pre.length rest.length) ((arr,start):StrLaws.LsSt) (StrLaws.lsBody ⟨l.toArray⟩)))).map (subL l) = arr.toList.map (subL l)++linesL (pre.drop start) rest:=by
 intro n
 induction n with
 | zero=>
   intro rest pre arr start hn hl hs
   have:rest = []:=List.eq_nil_of_length_eq_zero (by lia)
   subst this
   simp only [List.length_nil,List.range'_zero,List.forIn_nil]
   show (StrLaws.lsEnd ⟨l.toArray⟩ (arr,start)).map (subL l) = _
   unfold StrLaws.lsEnd
   rw [zgz]
   rw [zen]
   simp only [List.append_nil] at hl
   subst hl
   by_cases h:start < l.length
   ·rw [if_pos h]
    have:(l.drop start).isEmpty = false:=by
     rw [List.isEmpty_eq_false_iff]; intro q
     have:=congrArg List.length q
     simp at this; lia
    rw [this]
    simp [subL,List.take_of_length_le]
   ·rw [if_neg h]
    have:l.drop start = []:=List.drop_eq_nil_of_le (Nat.le_of_not_lt (by assumption))
    simp [this]
 | succ n ih=>
   intro rest pre arr start hn hl hs
   cases rest with
   | nil=>exact ih [] pre arr start (Nat.zero_le _) hl hs
   | cons c r=>
     have hc:(l.toArray).getD pre.length 0 = c:=by
      simp [hl]
     have hsub:subL l (start,pre.length,StrLaws.lsNext ⟨l.toArray⟩ pre.length) = pre.drop start:=by
      unfold subL
      show (l.drop start).take (pre.length - start) = _
      rw [hl,List.drop_append_of_le_length hs,List.take_append_of_le_length (by rw [List.length_drop]; lia),List.take_of_length_le (by rw [List.length_drop]; lia)]
     rw [List.length_cons,List.range'_succ,List.forIn_cons]
     by_cases hb:isNl c = true
     ·have hb1:StrLaws.lsBody ⟨l.toArray⟩ pre.length (arr,start) = pure (ForInStep.yield (arr.push (start,pre.length,StrLaws.lsNext ⟨l.toArray⟩ pre.length),StrLaws.lsNext ⟨l.toArray⟩ pre.length)):=by
       unfold StrLaws.lsBody
       show (if (decide (start≤pre.length) && Unicode.isLineBreak ((l.toArray).getD pre.length 0)) = true then _ else _) = _
       rw [hc,z3e,hb,if_pos (by simp [hs])]
      rw [hb1]
      show (StrLaws.lsEnd ⟨l.toArray⟩ (Id.run (forIn (m:=Id) (List.range' (pre.length + 1) r.length) ((arr.push (start,pre.length,StrLaws.lsNext ⟨l.toArray⟩ pre.length),StrLaws.lsNext ⟨l.toArray⟩ pre.length):StrLaws.LsSt) (StrLaws.lsBody ⟨l.toArray⟩)))).map (subL l) = _
      by_cases h2:c = 13∧∃ r',r = 10::r'
      ·obtain ⟨rfl,r',rfl⟩:=h2
       have hnx:StrLaws.lsNext ⟨l.toArray⟩ pre.length = pre.length + 2:=by
        unfold StrLaws.lsNext
        show (if ((l.toArray).getD pre.length 0 == 13 && l.toArray[pre.length + 1]? == some 10) = true then _ else _) = _
        rw [hc,if_pos]
        simp [hl]
       rw [hnx] at hsub ⊢
       rw [List.length_cons,List.range'_succ,List.forIn_cons]
       have hb2:StrLaws.lsBody ⟨l.toArray⟩ (pre.length + 1) (arr.push (start,pre.length,pre.length + 2),pre.length + 2) = pure (ForInStep.yield (arr.push (start,pre.length,pre.length + 2),pre.length + 2)):=by
        unfold StrLaws.lsBody
        show (if (decide (pre.length + 2≤pre.length + 1) && _) = true then _ else _) = _
        rw [if_neg (by simp)]
       rw [hb2]
       have:=ih r' (pre++[13,10]) (arr.push (start,pre.length,pre.length + 2)) (pre.length + 2) (by simp at hn ⊢; lia) (by simp [hl]) (by simp)
       simp only [List.length_append,List.length_cons,List.length_nil,Array.toList_push,List.map_append,List.map_cons,List.map_nil] at this
       rw [hsub] at this
       refine Eq.trans this ?_
       have e:(pre++[13,10]).drop (pre.length + 2) = []:=List.drop_eq_nil_of_le (by simp)
       rw [e,zhz]
       simp
      ·have hnx:StrLaws.lsNext ⟨l.toArray⟩ pre.length = pre.length + 1:=by
        unfold StrLaws.lsNext
        show (if ((l.toArray).getD pre.length 0 == 13 && l.toArray[pre.length + 1]? == some 10) = true then _ else _) = _
        rw [hc,if_neg]
        intro q
        simp only [Bool.and_eq_true,beq_iff_eq] at q
        refine h2 ⟨q.1,?_⟩
        have q2:=q.2
        rw [hl] at q2
        cases r with
        | nil=>simp at q2
        | cons b r'=>simp at q2; exact ⟨r',by rw [q2]⟩
       rw [hnx] at hsub ⊢
       have:=ih r (pre++[c]) (arr.push (start,pre.length,pre.length + 1)) (pre.length + 1) (by simp at hn; lia) (by simp [hl]) (by simp)
       simp only [List.length_append,List.length_cons,List.length_nil,Array.toList_push,List.map_append,List.map_cons,List.map_nil,Nat.zero_add] at this
       rw [hsub] at this
       refine Eq.trans this ?_
       have e:(pre++[c]).drop (pre.length + 1) = []:=List.drop_eq_nil_of_le (by simp)
       rw [e]
       have e2:linesL (pre.drop start) (c::r) = pre.drop start::linesL [] r:=by
        rw [zh0 _ _ _ (fun r' h1 h3=>h2 ⟨h1,r',h3⟩),if_pos hb]
       rw [e2]
       simp
     ·have hb1:StrLaws.lsBody ⟨l.toArray⟩ pre.length (arr,start) = pure (ForInStep.yield (arr,start)):=by
       unfold StrLaws.lsBody
       show (if (decide (start≤pre.length) && Unicode.isLineBreak ((l.toArray).getD pre.length 0)) = true then _ else _) = _
       rw [hc,z3e,if_neg (by simp [hb])]
      rw [hb1]
      have:=ih r (pre++[c]) arr start (by simp at hn; lia) (by simp [hl]) (by simp; lia)
      simp only [List.length_append,List.length_cons,List.length_nil,Nat.zero_add] at this
      refine Eq.trans this ?_
      rw [List.drop_append_of_le_length hs]
      have e2:linesL (pre.drop start) (c::r) = linesL (pre.drop start++[c]) r:=by
       rw [zh0 _ _ _ (fun r' h1 h3=>hb (by rw [h1]; rfl)),if_neg hb]
      rw [e2]
theorem zvd (l:List Nat):(lineCuts ⟨l.toArray⟩).map (fun p=>strSub ⟨l.toArray⟩ p.1 p.2) = (linesL [] l).map fun k=>(⟨k.toArray⟩:Str):=by
 have h:=z2o l l.length l [] #[] 0 (Nat.le_refl _) rfl (Nat.le_refl _)
 simp only [List.drop_nil,List.map_nil,List.nil_append] at h
 unfold lineCuts
 rw [StrLaws.ls_eq]
 rw [List.map_map,← h,List.map_map]
 apply List.map_congr_left
 intro p _
 show strSub ⟨l.toArray⟩ p.1 p.2.1 = _
 apply PySem.Str.ext'
 apply Array.toList_inj.mp
 rw [StrLaws.strSub_toList]
 rfl
theorem z7j (l:List Nat):Txt.lines ⟨l.toArray⟩ = (linesL [] l).map fun k=>(⟨k.toArray⟩:Str):=by
 rw [← zvd]
 unfold Txt.lines
 split
 ·rename_i h
  rw [beq_iff_eq.mp h]
  simp only [List.map_cons,List.map_nil]
  rw [StrLaws.sub_whole]
 ·rfl
theorem replL_app (c:Nat) (z a b:List Nat):replL c z (a++b) = replL c z a++replL c z b:=by
 induction a with
 | nil=>rfl
 | cons x r ih=>rw [List.cons_append,replL_c,replL_c,ih,List.append_assoc]
theorem zl8 (c:Nat) (z a:List Nat) (h:c ∉ a):replL c z a = a:=by
 induction a with
 | nil=>rfl
 | cons x r ih=>
   simp only [List.mem_cons,not_or] at h
   rw [replL_c,ih h.2,if_neg (fun q=>h.1 q.symm)]
   rfl
theorem zl7 (c:Nat) (z:Str):∀ ps:List Str,(∀ p∈ps,c ∉ p.cps.toList)→(Str.join z ps).cps.toList = replL c z.cps.toList (Str.join ⟨#[c]⟩ ps).cps.toList
 | [],_=>rfl
 | [p],h=>(zl8 c _ _ (h p (.head _))).symm
 | p::q::r,h=>by
   have ih:=zl7 c z (q::r) (fun x hx=>h x (.tail _ hx))
   show (p++z++Str.join z (q::r)).cps.toList = replL c _ (p++⟨#[c]⟩++Str.join ⟨#[c]⟩ (q::r)).cps.toList
   simp only [PySem.Str.cps_append,Array.toList_append]
   rw [ih,replL_app,replL_app,zl8 c _ _ (h p (.head _)),show replL c z.cps.toList [c] = z.cps.toList from (congrArg (·++[]) (if_pos rfl)).trans (List.append_nil _)]
theorem zyj (l:List Nat) (c:Nat) (z:Str):Txt.replace ⟨l.toArray⟩ ⟨#[c]⟩ z = ⟨(replL c z.cps.toList l).toArray⟩:=by
 apply PySem.Str.ext'
 apply Array.toList_inj.mp
 rw [StrLaws.replace_one,zl7 c z _ (StrLaws.split_free _ c),StrLaws.join_split]
theorem join_eq (ls:List (List Nat)):Txt.join ⟨#[]⟩ (ls.map fun k=>(⟨k.toArray⟩:Str)) = ⟨ls.flatten.toArray⟩:=by
 unfold Txt.join
 rw [StrLaws.glued_eq_join]
 apply PySem.Str.ext'
 apply Array.toList_inj.mp
 induction ls with
 | nil=>rfl
 | cons a r ih=>
   cases r with
   | nil=>show a = _; simp
   | cons b t=>
     show ((⟨a.toArray⟩:Str)++⟨#[]⟩++Str.join ⟨#[]⟩ _).cps.toList = _
     simp only [PySem.Str.cps_append,Array.toList_append]
     rw [show (Str.join ⟨#[]⟩ (((b::t).map fun k=>(⟨k.toArray⟩:Str)))).cps.toList = _ from ih]
     simp
end
section
variable {B:Base} {A:Around} {fl:List Env} {s:Shared} {ρ:List Cell} {H:Hp} {E:Value→Shared→Prop}
theorem VRs.one {x:V} {ws:List Value} (h:VRs ρ [x] ws):∃ w,ws = [w]∧VR ρ x w:=by
 cases ws with
 | nil=>exact h.elim
 | cons w r=>cases r with
   | nil=>exact ⟨w,rfl,h.1⟩
   | cons=>exact h.2.elim
theorem VRs.two {x y:V} {ws:List Value} (h:VRs ρ [x,y] ws):∃ w v,ws = [w,v]∧VR ρ x w∧VR ρ y v:=by
 cases ws with
 | nil=>exact h.elim
 | cons w r=>obtain ⟨v,rfl,hv⟩:=VRs.one h.2; exact ⟨w,v,rfl,h.1,hv⟩
theorem VRs.three {x y z:V} {ws:List Value} (h:VRs ρ [x,y,z] ws):∃ w v u,ws = [w,v,u]∧VR ρ x w∧VR ρ y v∧VR ρ z u:=by
 cases ws with
 | nil=>exact h.elim
 | cons w r=>obtain ⟨v,u,rfl,hv,hu⟩:=VRs.two h.2; exact ⟨w,v,u,rfl,h.1,hv,hu⟩
theorem VRs.four {x y z t:V} {ws:List Value} (h:VRs ρ [x,y,z,t] ws):∃ w v u q,ws = [w,v,u,q]∧VR ρ x w∧VR ρ y v∧VR ρ z u∧VR ρ t q:=by
 cases ws with
 | nil=>exact h.elim
 | cons w r=>obtain ⟨v,u,q,rfl,hv,hu,hq⟩:=VRs.three h.2; exact ⟨w,v,u,q,rfl,h.1,hv,hu,hq⟩
theorem zfe {α:Type} {k:V→Option α} {as:List V} {ws:List Value} {r:α} (h:VRs ρ as ws) (e:as1 k as = some r):∃ v w,ws = [w]∧VR ρ v w∧k v = some r:=by
 obtain ⟨v,rfl,e⟩:=z4z e; obtain ⟨w,rfl,k⟩:=h.one; exact ⟨v,w,rfl,k,e⟩
theorem zs0 {α:Type} {k:V→V→Option α} {as:List V} {ws:List Value} {r:α} (h:VRs ρ as ws) (e:as2 k as = some r):∃ v u w x,ws = [w,x]∧VR ρ v w∧VR ρ u x∧k v u = some r:=by
 obtain ⟨v,u,rfl,e⟩:=z4y e; obtain ⟨w,x,rfl,k1,k2⟩:=h.two; exact ⟨v,u,w,x,rfl,k1,k2,e⟩
theorem za1 (h:Heap):h.get? h.objs.size = none:=by
 cases q:h.get? h.objs.size with
 | none=>rfl
 | some o=>exact absurd (Heap.lt_size q) (Nat.lt_irrefl _)
theorem zdy {vs:List Value} {xs:List V} {h':Heap} {k:Nat} {n:Nat} (I:SI B ρ H s) (hk:∀ b o,s.heap.get? b = some o→h'.get? b = some o) (g:h'.get? s.heap.objs.size = some (listOf vs.toArray n)) (r:VRs ρ xs vs) (hl:xs.length≤cap):
  za8 VR B ρ s ((.obj H.length),H++[.list xs]) (.ref s.heap.objs.size) { s with heap:=h',toks:=k }:=by
 have:=I.add (s':={ s with heap:=h',toks:=k }) (c:=(s.heap.objs.size,s.heap.objs.size)) (o:=.list xs) hk rfl rfl (za1 _) (za1 _) ⟨⟨rfl,hl⟩,vs,n,g,r.mono ⟨_,rfl⟩⟩
 exact ⟨_,⟨(s.heap.objs.size,s.heap.objs.size),by rw [← I.hr.len]; simp,rfl⟩,this.1,this.2⟩
theorem z60 {vs:List Value} {xs:List V} {h':Heap} {k:Nat} {n:Nat} (I:SI B ρ H s) (hk:∀ b o,s.heap.get? b = some o→h'.get? b = some o) (g:h'.get? s.heap.objs.size = some (tupOf vs.toArray n)) (r:VRs ρ xs vs) (hl:xs.length≤cap):
  za8 VR B ρ s ((.obj H.length),H++[.tup xs]) (.ref s.heap.objs.size) { s with heap:=h',toks:=k }:=by
 have:=I.add (s':={ s with heap:=h',toks:=k }) (c:=(s.heap.objs.size,s.heap.objs.size)) (o:=.tup xs) hk rfl rfl (za1 _) (za1 _) ⟨⟨rfl,hl⟩,vs,n,g,r.mono ⟨_,rfl⟩⟩
 exact ⟨_,⟨(s.heap.objs.size,s.heap.objs.size),by rw [← I.hr.len]; simp,rfl⟩,this.1,this.2⟩
theorem zja {i:Nat} {c:Cell} {xs:List V} {vs:List Value} {n:Nat} {h':Heap} {v:V} {w:Value} {k:Nat} (I:SI B ρ H s) (hc:ρ[i]? = some c) (e:c.2 = c.1) (hs:Heap.SameBut c.1 s.heap h')
  (g:h'.get? c.1 = some (listOf vs.toArray n)) (r:VRs ρ xs vs) (hl:xs.length≤cap) (hv:VR ρ v w):
  za8 VR B ρ s (v,H.set i (.list xs)) w { s with heap:=h',toks:=k }:=by
 have:=I.set (s':={ s with heap:=h',toks:=k }) (o:=.list xs) hc (fun b o n1 _ q=>(hs.2 b n1).trans q) rfl rfl ⟨⟨e,hl⟩,vs,n,g,r⟩
 exact ⟨ρ,hv,this.1,this.2⟩
theorem z02 {xs:List V} {ys:List (List Nat)} {vs:List Value} (r:VRs ρ xs vs) (e:strs? xs = some ys):∃ l:List (Str×Tok),vs = strValues l∧l.map (·.1) = ys.map fun k=>(⟨k.toArray⟩:Str):=by
 induction xs generalizing ys vs with
 | nil=>cases vs with
   | nil=>cases e; exact ⟨[],rfl,rfl⟩
   | cons=>exact r.elim
 | cons x t ih=>cases vs with
   | nil=>exact r.elim
   | cons v vt=>
     cases x with
     | str l=>
       obtain ⟨zs,hz,rfl⟩:=Option.map_eq_some_iff.mp e
       obtain ⟨⟨_,tk,rfl⟩,rt⟩:=r
       obtain ⟨q,rfl,hq⟩:=ih rt hz
       exact ⟨(⟨l.toArray⟩,tk)::q,rfl,by simp [hq]⟩
     | _=>cases e
theorem z0i {ys:List (List Nat)}:∀ (l:List (Str×Tok)),l.map (·.1) = ys.map (fun k=>(⟨k.toArray⟩:Str))→(∀ y∈ys,y.length≤cap)→VRs ρ (ys.map .str) (strValues l):=by
 induction ys with
 | nil=>intro l h _; cases l with | nil=>trivial | cons=>cases h
 | cons y ys ih=>
   intro l h hc
   cases l with
   | nil=>cases h
   | cons p r=>
     obtain ⟨s,t⟩:=p
     injection h with h1 h2
     cases h1
     exact ⟨⟨hc y (.head _),t,rfl⟩,ih r h2 fun z hz=>hc z (.tail _ hz)⟩
theorem z3f {xs:List V} {l:List Int} {vs:List Value} (r:VRs ρ xs vs) (e:ints? xs = some l):l.length = vs.length∧∀ (i:Nat) (v:Value),vs[i]? = some v→∃ t,v = .int (l.getD i 0) t:=by
 induction xs generalizing l vs with
 | nil=>cases vs with
   | nil=>cases e; exact ⟨rfl,fun i v h=>by simp at h⟩
   | cons=>exact r.elim
 | cons x t ih=>cases vs with
   | nil=>exact r.elim
   | cons v vt=>
     cases x with
     | int n=>
       obtain ⟨zs,hz,rfl⟩:=Option.map_eq_some_iff.mp e
       obtain ⟨⟨tk,rfl⟩,rt⟩:=r
       obtain ⟨h1,h2⟩:=ih rt hz
       refine ⟨by simp [h1],fun i v h=>?_⟩
       cases i with
       | zero=>simp at h; exact ⟨tk,by simp [← h]⟩
       | succ i=>simpa using h2 i v (h)
     | _=>cases e
theorem zl9 (f:Nat→Int):∀ n,preSum f (n + 1) = f 0 + preSum (fun i=>f (i + 1)) n
 | 0=>by show preSum f 0 + f 0 = _; simp [preSum]
 | n + 1=>by
   show preSum f (n + 1) + f (n + 1) = _
   rw [zl9 f n]
   show _ = f 0 + (preSum (fun i=>f (i + 1)) n + f (n + 1))
   lia
theorem zj8:∀ l:List Int,preSum (fun i=>l.getD i 0) l.length = l.sum
 | []=>rfl
 | a::r=>by
   rw [List.length_cons,zl9,List.sum_cons,← zj8 r]
   rfl
theorem zmc {X:List (List Nat)} {cur:List Nat} {m k:Nat} (h:m < k) (x:X.length≤m + 1∧∀ y∈X,y.length≤0 + m):(cur::X).length≤k + 1∧∀ y∈cur::X,y.length≤cur.length + k:=
 ⟨Nat.succ_le_succ (Nat.le_trans x.1 h),fun y hy=>by
  rcases List.mem_cons.mp hy with rfl | hy
  ·exact Nat.le_add_right _ _
  ·exact Nat.le_trans (x.2 y hy) (Nat.add_le_add (Nat.zero_le _) (Nat.le_of_lt h))⟩
theorem zzc (l:List Nat):∀ (cur:List Nat),(linesL cur l).length≤l.length + 1∧∀ y∈linesL cur l,y.length≤cur.length + l.length:=by
 induction h:l.length using Nat.strongRecOn generalizing l with
 | _ n ih=>
 intro cur
 subst h
 cases l with
 | nil=>
   rw [zgz]
   cases cur with
   | nil=>exact ⟨Nat.zero_le _,fun y hy=>nomatch hy⟩
   | cons a r=>exact ⟨Nat.le_refl _,fun y hy=>Nat.le_of_eq (congrArg List.length (List.mem_singleton.mp hy))⟩
 | cons c r=>
   have one:=ih r.length (Nat.lt_succ_self _) r rfl
   have plain (h:∀ r',c = 13→r = 10::r'→False):(linesL cur (c::r)).length≤(c::r).length + 1∧∀ y∈linesL cur (c::r),y.length≤cur.length + (c::r).length:=by
    rw [zh0 _ _ _ h]
    by_cases q:isNl c = true
    ·rw [if_pos q]; exact zmc (Nat.lt_succ_self _) (one [])
    ·rw [if_neg q]
     have:=one (cur++[c])
     rw [List.length_append,Nat.add_assoc,Nat.add_comm [c].length] at this
     exact ⟨Nat.le_succ_of_le this.1,this.2⟩
   by_cases q:c = 13
   ·cases r with
    | nil=>exact plain fun _ _ e=>nomatch e
    | cons b r=>
      by_cases q2:b = 10
      ·subst q; subst q2
       rw [zhz]
       exact zmc (Nat.lt_succ_of_lt (Nat.lt_succ_self _)) (ih r.length (Nat.lt_succ_of_lt (Nat.lt_succ_self _)) r rfl [])
      ·exact plain fun _ _ e=>q2 (List.cons.inj e).1
   ·exact plain fun _ e _=>q e
theorem fitsz {n:Nat} (h:n≤cap):n≤sizeLine:=by rw [zdj] at h; rw [sizeLine_eq]; lia
theorem zro {M:Model} {v:V} {w:Value} {x:Str} {id:String} {pl:Sem Bool} {Q:Value×List Value→Shared→Prop} (I:SI B ρ H s) (h:VR ρ v w) (e:zcd H v x = some id) (hq:Q (.builtin id,[w]) s):
  wpAny M A (getMethod w x pl) Q E s:=by
 cases v with
 | str l=>
   obtain ⟨_,t,rfl⟩:=h
   have e:zm6 x = some id:=e
   rcases ite_some e with ⟨rfl,e⟩ | ⟨_,e⟩
   ·cases e; exact GM.rstrip hq
   rcases ite_some e with ⟨rfl,e⟩ | ⟨_,e⟩
   ·cases e; exact GM.lower hq
   rcases ite_some e with ⟨rfl,e⟩ | ⟨_,e⟩
   ·cases e; exact GM.splitlines hq
   rcases ite_some e with ⟨rfl,e⟩ | ⟨_,e⟩
   ·cases e; exact GM.endswith hq
   rcases ite_some e with ⟨rfl,e⟩ | ⟨_,e⟩
   ·cases e; exact GM.find hq
   obtain ⟨rfl,e⟩:=zaf e
   cases e; exact GM.join hq
 | obj n=>
   obtain ⟨c,hc,rfl⟩:=h
   obtain ⟨xs,_,⟨_,vs,n',g,_⟩,e⟩:=za3 I hc (show onLs _ _ = some id from e)
   have key:∀ {name:Str} {id:String},Slot "list" name id→typeOf (.builtin id) = pure (.type "method_descriptor")→Q (.builtin id,[.ref c.1]) s→wpAny M A (getMethod (.ref c.1) name pl) Q E s:=
    fun sl ty q=>getMethod_builtin ⟨_,g,rfl⟩ PySem.F.plainAttrs_list sl ty (fun a e=>by cases e; exact ⟨_,g,rfl⟩) q
   rcases ite_some e with ⟨rfl,e⟩ | ⟨_,e⟩
   ·cases e; exact key PySem.F.slot_list_append PySem.F.type_list_append hq
   rcases ite_some e with ⟨rfl,e⟩ | ⟨_,e⟩
   ·cases e; exact key PySem.F.slot_list_pop PySem.F.type_list_pop hq
   obtain ⟨rfl,e⟩:=zaf e
   cases e; exact key PySem.F.slot_list_extend PySem.F.type_list_extend hq
 | _=>cases e
theorem zi8 {l:List Nat} {t':Tok} {k:Nat} (I:SI B ρ H s) (hl:l.length≤cap):za8 VR B ρ s ((.str l),H) (.str ⟨l.toArray⟩ t') { s with toks:=k }:=zag I ⟨hl,_,rfl⟩
theorem zyi (l:List Nat):(za4 l).length≤l.length:=by
 unfold za4; rw [zgi,List.length_take]; lia
theorem zy6 {as:List V} {ws:List Value} {r:V} {H':Hp} (I:SI B ρ H s) (h:VRs ρ as ws) (e:zod H as = some (r,H')):wpAny (model B.prog B.w) A (PySem.call (.builtin "str.rstrip") ws) (za8 VR B ρ s (r,H')) E s:=by
 obtain ⟨_,_,rfl,hv,e⟩:=zfe h e
 obtain ⟨l,t,hl,rfl,e⟩:=zd0 hv e
 cases e
 refine SC.rstrip (fun t' k=>?_) (by rw [zen]; exact fitsz hl)
 rw [z1b]
 exact zi8 I (Nat.le_trans (zyi _) hl)
theorem z2g {as:List V} {ws:List Value} {r:V} {H':Hp} (I:SI B ρ H s) (h:VRs ρ as ws) (e:zrp H as = some (r,H')):wpAny (model B.prog B.w) A (PySem.call (.builtin "str.lower") ws) (za8 VR B ρ s (r,H')) E s:=by
 obtain ⟨_,_,rfl,hv,e⟩:=zfe h e
 obtain ⟨l,t,hl,rfl,e⟩:=zd0 hv e
 obtain ⟨ha,e⟩:=zaf e
 cases e
 refine SC.lower ?_ ?_
 ·rw [zw0 _ ha]
  unfold Builtin.Str.tooLong
  rw [zen,List.length_map]
  exact decide_eq_false (Nat.not_lt.mpr (fitsz hl))
 ·rw [zw0 _ ha]
  exact zi8 I (by rw [List.length_map]; exact hl)
theorem zrq {as:List V} {ws:List Value} {r:V} {H':Hp} (I:SI B ρ H s) (h:VRs ρ as ws) (e:zgt H as = some (r,H')):wpAny (model B.prog B.w) A (PySem.call (.builtin "str.endswith") ws) (za8 VR B ρ s (r,H')) E s:=by
 obtain ⟨_,_,_,_,rfl,hv,hu,e⟩:=zs0 h e
 obtain ⟨l,t,hl,rfl,e⟩:=zd0 hv e
 obtain ⟨y,u,hy,rfl,e⟩:=zd0 hu e
 cases e
 refine SC.endswith ?_
 rw [zva]
 exact zag (k:=s.toks) I rfl
theorem zu5 (x y:Str) (i:Int) (t u v q:Tok):Gives (Builtin.«str.find» ⟨[.str x t,.str y u,.int i v,.int (x.length:Nat) q],[]⟩) (.int (match Builtin.Str.occurrences x y (fromIndex x.length i) x.length 1 with | k::_=>(k:Int) | []=>-1)):=by
 show Gives (match Builtin.Str.occurrences x y (fromIndex x.length i) (min (fromIndex x.length (x.length:Nat)) x.length) 1 with | k::_=>retInt k | []=>(do rule "str.find.not-found"; retInt (-1))) _
 have e:min (fromIndex x.length (x.length:Nat)) x.length = x.length:=by
  unfold fromIndex
  rw [if_neg (Int.not_lt.mpr (Int.natCast_nonneg _)),Int.max_eq_right (Int.natCast_nonneg _),Int.toNat_natCast,Nat.min_self]
 rw [e]
 cases Builtin.Str.occurrences x y (fromIndex x.length i) x.length 1 with
 | nil=>exact .rule (.of_eq rfl)
 | cons k _=>exact .of_eq rfl
theorem z7f {as:List V} {ws:List Value} {r:V} {H':Hp} (I:SI B ρ H s) (h:VRs ρ as ws) (e:z7h H as = some (r,H')):wpAny (model B.prog B.w) A (PySem.call (.builtin "str.find") ws) (za8 VR B ρ s (r,H')) E s:=by
 obtain ⟨_,_,_,_,rfl,e⟩:=as4_inv e
 obtain ⟨_,_,_,_,rfl,k1,k2,k3,k4⟩:=h.four
 obtain ⟨l,t,hl,rfl,e⟩:=zd0 k1 e
 obtain ⟨y,t2,hc,rfl,e⟩:=zd0 k2 e
 obtain ⟨c,rfl,e⟩:=zkc e
 obtain ⟨a,t3,rfl,e⟩:=zb9 k3 e
 obtain ⟨b,t4,rfl,e⟩:=zb9 k4 e
 obtain ⟨hab,e⟩:=zaf e
 ·· cases e
    obtain ⟨h0,rfl⟩:=hab
    have:=zu5 ⟨l.toArray⟩ ⟨#[c]⟩ a t t2 t3 t4
    rw [zen] at this
    have e2:fromIndex l.length a = a.toNat:=by
     unfold fromIndex
     rw [if_neg (by lia)]
     lia
    have e3:=find_eq l c a.toNat
    rw [zen] at e3
    rw [e2] at this
    refine call_gives F.slot_str_find (typeIs_str _ _ _) F.entry_str_find (F.args_str_find_4 _ _ _ _) (Eq.mp (congrArg (Gives _) (congrArg Made.int e3)) this) ?_
    exact zag I ⟨_,rfl⟩
theorem zlo {as:List V} {ws:List Value} {r:V} {H':Hp} (I:SI B ρ H s) (h:VRs ρ as ws) (e:zee H as = some (r,H')):wpAny (model B.prog B.w) A (PySem.call (.builtin "str.splitlines") ws) (za8 VR B ρ s (r,H')) E s:=by
 obtain ⟨_,_,rfl,hv,e⟩:=zfe h e
 obtain ⟨l,t,hl,rfl,e⟩:=zd0 hv e
 obtain ⟨hcap,e⟩:=zaf e
 ·· cases e
    have hn:(lineCuts ⟨l.toArray⟩).length = (linesL [] l).length:=by
     have:=congrArg List.length (zvd l)
     simpa using this
    have hb:=zzc l []
    refine call_meets F.slot_str_splitlines (typeIs_str _ _ _) F.entry_str_splitlines (F.args_str_splitlines_1 _) (meets_str_splitlines ⟨l.toArray⟩ t (by rw [zen]; exact fitsz hl) (by rw [hn]; exact fitsz (by lia))) ?_
    have hys:∀ y∈linesL [] l,y.length≤cap:=fun y hy=>by have:=hb.2 y hy; simp at this; lia
    have hlen:(linesL [] l).length≤cap:=by lia
    have hlen':((linesL [] l).map V.str).length≤cap:=by rw [List.length_map]; exact hlen
    show (if (lineCuts ⟨l.toArray⟩ == [(0,Str.length ⟨l.toArray⟩)]) = true then _ else _)
    split
    ·rename_i hq
     have e1:Txt.lines ⟨l.toArray⟩ = [⟨l.toArray⟩]:=by unfold Txt.lines; rw [if_pos hq]
     have e2:=z7j l
     rw [e1] at e2
     have r0:VRs ρ ((linesL [] l).map .str) (strValues [(⟨l.toArray⟩,t)]):=z0i _ e2 hys
     exact zdy (k:=s.toks) I (fun b o e=>Heap.get?_push_of_some _ e) (Heap.get?_push_size _ rfl) r0 hlen'
    ·have r0:VRs ρ ((linesL [] l).map .str) (strsFrom s.toks (linesOf ⟨l.toArray⟩)):=by
      have e2:=zvd l
      have:linesOf ⟨l.toArray⟩ = (linesL [] l).map fun k=>(⟨k.toArray⟩:Str):=e2
      rw [this]
      have:∀ (ys:List (List Nat)) (k:Nat),(∀ y∈ys,y.length≤cap)→VRs ρ (ys.map .str) (strsFrom k (ys.map fun k=>(⟨k.toArray⟩:Str))):=by
       intro ys
       induction ys with
       | nil=>intro _ _; trivial
       | cons y r ih=>intro k hc; exact ⟨⟨hc y (.head _),_,rfl⟩,ih _ fun z hz=>hc z (.tail _ hz)⟩
      exact this _ _ hys
     exact zdy I (fun b o e=>Heap.get?_push_of_some _ e) (Heap.get?_push_size _ rfl) r0 hlen'
theorem z7e {as:List V} {ws:List Value} {r:V} {H':Hp} (I:SI B ρ H s) (h:VRs ρ as ws) (e:z2i H as = some (r,H')):wpAny (model B.prog B.w) A (PySem.call (.builtin "str.join") ws) (za8 VR B ρ s (r,H')) E s:=by
 obtain ⟨_,_,_,_,rfl,hv,hu,e⟩:=zs0 h e
 obtain ⟨p,t,hl,rfl,e⟩:=zd0 hv e
 obtain ⟨hp,e⟩:=zaf e
 obtain rfl:=List.isEmpty_iff.mp hp
 obtain ⟨n,c,hc,rfl,e⟩:=zex hu e
 obtain ⟨xs,hx,R,e⟩:=za3 I hc e
 obtain ⟨ys,hy,e⟩:=Option.bind_eq_some_iff.mp e
 obtain ⟨hcap,e⟩:=zaf e
 ·· · cases e
      obtain ⟨vs,L,r,hl'⟩:=R.isList
      obtain ⟨l,rfl,hm⟩:=z02 r hy
      refine SC.join L hm ?_ fun t' k=>?_
      ·unfold JoinOk
       rw [StrLaws.joinTotal]
       have:((ys.map fun k=>(⟨k.toArray⟩:Str)).map (·.length)).sum = ys.flatten.length:=by
        rw [List.length_flatten,List.map_map]
        congr 1
       rw [this]
       have z:=fitsz hcap.1
       show (!decide (ys.flatten.length + (ys.map _).length * Str.length ⟨#[]⟩ > sizeLine)) = true
       rw [show Str.length ⟨#[]⟩ = 0 from rfl]
       simp; simpa using z
      ·show za8 VR B ρ s _ (.str (Txt.join ⟨#[]⟩ (ys.map fun k=>(⟨k.toArray⟩:Str))) t') _
       rw [join_eq]
       exact zi8 I hcap.1
theorem zza {as:List V} {ws:List Value} {r:V} {H':Hp} (I:SI B ρ H s) (h:VRs ρ as ws) (e:mAppend H as = some (r,H')):wpAny (model B.prog B.w) A (PySem.call (.builtin "list.append") ws) (za8 VR B ρ s (r,H')) E s:=by
 obtain ⟨_,v,_,x,rfl,hw,hv,e⟩:=zs0 h e
 obtain ⟨n,c,hc,rfl,e⟩:=zex hw e
 obtain ⟨xs,hx,⟨⟨e1,_⟩,vs,n',g,r⟩,e⟩:=za3 I hc e
 obtain ⟨hcap,e⟩:=zaf e
 cases e
 have hz:vs.length < cap:=r.len ▸ hcap
 refine append_at g (fun h' hs g'=>?_) (by rw [List.size_toArray]; exact fitsz (Nat.le_of_lt hz))
 refine zja (vs:=vs++[x]) (n:=n' + 1) (k:=s.toks) I hc e1 hs ?_ (r.append ⟨hv,trivial⟩) (by rw [List.length_append]; exact hcap) rfl
 rw [g']; simp [W.listOf]
theorem VRs.dropLast {xs:List V}:∀ {vs:List Value},VRs ρ xs vs→VRs ρ xs.dropLast vs.dropLast:=by
 induction xs with
 | nil=>intro vs h; cases vs with | nil=>trivial | cons=>exact h.elim
 | cons x xs ih=>
   intro vs h
   cases vs with
   | nil=>exact h.elim
   | cons v vs=>
     cases xs with
     | nil=>cases vs with | nil=>trivial | cons=>exact h.2.elim
     | cons y xs=>cases vs with | nil=>exact h.2.elim | cons w vs=>exact ⟨h.1,ih h.2⟩
theorem mPop_ok {as:List V} {ws:List Value} {r:V} {H':Hp} (I:SI B ρ H s) (h:VRs ρ as ws) (e:mPop H as = some (r,H')):wpAny (model B.prog B.w) A (PySem.call (.builtin "list.pop") ws) (za8 VR B ρ s (r,H')) E s:=by
 obtain ⟨_,_,rfl,hv,e⟩:=zfe h e
 obtain ⟨n,c,hc,rfl,e⟩:=zex hv e
 obtain ⟨xs,hx,⟨⟨e1,hcap⟩,vs,n',g,r⟩,e⟩:=za3 I hc e
 obtain ⟨v,hv,e⟩:=Option.map_eq_some_iff.mp e
 cases e
 rw [List.getLast?_eq_getElem?] at hv
 obtain ⟨y,hy,ry⟩:=r.get hv
 refine Copied.pop_at g (y:=y) (by rw [List.size_toArray,List.getElem?_toArray,← r.len]; exact hy) (fun h' hs g'=>?_) (by rw [List.size_toArray,← r.len]; exact fitsz hcap)
 refine zja (vs:=vs.dropLast) (n:=n' + 1) (k:=s.toks) I hc e1 hs ?_ r.dropLast (by rw [List.length_dropLast]; exact Nat.le_trans (Nat.sub_le _ _) hcap) ry
 rw [g']; simp [W.listOf]
theorem zy8 {as:List V} {ws:List Value} {r:V} {H':Hp} (I:SI B ρ H s) (h:VRs ρ as ws) (e:mExtend H as = some (r,H')):wpAny (model B.prog B.w) A (PySem.call (.builtin "list.extend") ws) (za8 VR B ρ s (r,H')) E s:=by
 obtain ⟨_,_,_,_,rfl,hv,hu,e⟩:=zs0 h e
 obtain ⟨n,c,hc,rfl,e⟩:=zex hv e
 obtain ⟨k,c2,hc2,rfl,e⟩:=zex hu e
 obtain ⟨xs,hx,⟨⟨e1,hl1⟩,vs,n',g,r⟩,e⟩:=za3 I hc e
 obtain ⟨ys,hy,⟨⟨e2,hl2⟩,us,n2,g2,r2⟩,e⟩:=za3 I hc2 e
 obtain ⟨hcap,e⟩:=zaf e
 ·· · cases e
      have z:=fitsz hcap.1
      have l1:=r.len
      have l2:=r2.len
      have z1:vs.length + us.length≤sizeLine:=by lia
      refine call_meets PySem.F.slot_list_extend ⟨_,g,rfl⟩ PySem.F.entry_list_extend (PySem.F.args_list_extend_2 _ _) (PySem.AutoSeq1.list_extend_list_list_0 c.1 vs.toArray n' c2.1 us.toArray n2 ?_ (by rw [List.size_toArray]; lia) (by rw [List.size_toArray,List.size_toArray]; lia)) ⟨g,g2,?_⟩
      ·intro q
       rw [Bool.and_eq_true] at q
       have:=q.2
       unfold Builtin.List.listTooLong at this
       simp only [List.size_toArray] at this
       rw [sizeLine_eq] at z1
       rw [decide_eq_true_eq] at this
       revert this
       show ¬ _
       lia
      ·refine zja (vs:=vs++us) (n:=n' + 1) (k:=s.toks) I hc e1 (Heap.SameBut.update ..) ?_ (r.append r2) (by rw [List.length_append]; exact hcap.1) rfl
       have hne:us≠[]:=by
        intro q; subst q; exact hcap.2.2 (List.eq_nil_of_length_eq_zero l2)
       have e3:Obj.mapSeq (fun x=>x++us.toArray) (W.listOf vs.toArray n') = W.listOf (vs++us).toArray (n' + 1):=by
        unfold Obj.mapSeq W.listOf
        simp [hne]
       rw [Heap.get?_update_self _ g (by rw [e3]; rfl),e3]
theorem zfc {id:String} {as:List V} {ws:List Value} {r:V} {H':Hp} (I:SI B ρ H s) (h:VRs ρ as ws) (e:zax H id as = some (r,H')):wpAny (model B.prog B.w) A (PySem.call (.builtin id) ws) (za8 VR B ρ s (r,H')) E s:=by
 rcases ite_some e with ⟨rfl,e⟩ | ⟨_,e⟩
 ·exact zy6 I h e
 rcases ite_some e with ⟨rfl,e⟩ | ⟨_,e⟩
 ·exact z2g I h e
 rcases ite_some e with ⟨rfl,e⟩ | ⟨_,e⟩
 ·exact zlo I h e
 rcases ite_some e with ⟨rfl,e⟩ | ⟨_,e⟩
 ·exact zrq I h e
 rcases ite_some e with ⟨rfl,e⟩ | ⟨_,e⟩
 ·exact z7f I h e
 rcases ite_some e with ⟨rfl,e⟩ | ⟨_,e⟩
 ·exact z7e I h e
 rcases ite_some e with ⟨rfl,e⟩ | ⟨_,e⟩
 ·exact zza I h e
 rcases ite_some e with ⟨rfl,e⟩ | ⟨_,e⟩
 ·exact mPop_ok I h e
 obtain ⟨rfl,e⟩:=zaf e
 exact zy8 I h e
end
noncomputable def hexL:List (Nat×Nat):=(List.range 10).map (fun i=>(48 + i,i))++(List.range 6).map (fun i=>(65 + i,10 + i))++(List.range 6).map (fun i=>(97 + i,10 + i))
noncomputable def zu2 (t u:Tok) (p q:Nat×Nat):Sem Fin:=Builtin.«int.__new__» ⟨[.type "int",.str ⟨#[p.1,q.1]⟩ t,.int 16 u],[]⟩
noncomputable def zu3 (p q:Nat×Nat):Sem Fin:=do ret (← mkInt ((16 * p.2 + q.2:Nat):Int))
theorem hexAll (t u:Tok):hexL.map (fun p=>hexL.map (zu2 t u p)) = hexL.map (fun p=>hexL.map (zu3 p)):=by kernel_rfl
theorem zr2 {c x:Nat} (h:hexOf c = some x):(c,x)∈hexL:=of_decide_eq_true (zkr (p:=fun c x=>decide ((c,x)∈hexL)) (by kernel_rfl) h)
theorem zhx {α β:Type} {f g:α→β}:∀ {l:List α},l.map f = l.map g→∀ a∈l,f a = g a
 | _::_,h,a,ha=>by
   simp only [List.map_cons,List.cons.injEq] at h
   rcases List.mem_cons.mp ha with rfl | ha
   ·exact h.1
   ·exact zhx h.2 a ha
theorem pick2 {α γ:Type} {L:List α} {f g:α→α→γ} (h:L.map (fun p=>L.map (f p)) = L.map (fun p=>L.map (g p))) (p:α) (hp:p∈L) (q:α) (hq:q∈L):f p q = g p q:=
 zhx (zhx h p hp) q hq
theorem hex_eq {a b x y:Nat} (t u:Tok) (ha:hexOf a = some x) (hb:hexOf b = some y):zu2 t u (a,x) (b,y) = zu3 (a,x) (b,y):=
 @pick2 _ _ hexL (zu2 t u) zu3 (hexAll t u) (a,x) (zr2 ha) (b,y) (zr2 hb)
theorem zlc (a b:Value):checkTypeCall "int" ⟨[a,b],[]⟩ = pure ():=by kernel_rfl
theorem znr (a b:Value):checkBuiltinCall "int.__new__" ⟨[.type "int",a,b],[]⟩ = pure ():=by kernel_rfl
theorem zzi (obj a b:Value):argsOk "object.__init__" ⟨[obj,a,b],[]⟩:=F.initArgs_range_2 obj a b
section
variable {B:Base} {A:Around} {fl:List Env} {s:Shared} {ρ:List Cell} {H:Hp} {E:Value→Shared→Prop}
theorem cLen_ok {as:List V} {ws:List Value} {r:V} {H':Hp} (I:SI B ρ H s) (h:VRs ρ as ws) (e:cLen H as = some (r,H')):wpAny (model B.prog B.w) A (PySem.call (.builtin "len") ws) (za8 VR B ρ s (r,H')) E s:=by
 obtain ⟨v,w,rfl,hv,e⟩:=zfe h e
 cases v with
 | str l=>
   obtain ⟨hl,t,rfl⟩:=hv
   cases e
   rw [zdj] at hl
   refine P.len_str (by rw [zen]; lia) ?_
   rw [zen]
   exact zag I ⟨_,rfl⟩
 | obj n=>
   obtain ⟨c,hc,rfl⟩:=hv
   obtain ⟨xs,hx,R,e⟩:=za3 I hc (show onLs _ _ = some (r,H') from e)
   cases e
   obtain ⟨vs,L,r,hl⟩:=R.isList
   rw [zdj,r.len] at hl
   refine Calls.call_len_list L (by rw [List.size_toArray]; lia) ?_
   rw [List.size_toArray,← r.len]
   exact zag I ⟨_,rfl⟩
 | _=>cases e
theorem cChr_ok {as:List V} {ws:List Value} {r:V} {H':Hp} (I:SI B ρ H s) (h:VRs ρ as ws) (e:cChr H as = some (r,H')):wpAny (model B.prog B.w) A (PySem.call (.builtin "chr") ws) (za8 VR B ρ s (r,H')) E s:=by
 obtain ⟨_,_,rfl,hv,e⟩:=zfe h e
 obtain ⟨i,t,rfl,e⟩:=zb9 hv e
 obtain ⟨hi,e⟩:=zaf e
 cases e
 refine P.chr_of_int ?_ (zag I ⟨by simp [zdj],_,rfl⟩)
 rw [Bool.or_eq_false_iff]; exact ⟨decide_eq_false (by lia),decide_eq_false (by lia)⟩
theorem cOrd_ok {as:List V} {ws:List Value} {r:V} {H':Hp} (I:SI B ρ H s) (h:VRs ρ as ws) (e:cOrd H as = some (r,H')):wpAny (model B.prog B.w) A (PySem.call (.builtin "ord") ws) (za8 VR B ρ s (r,H')) E s:=by
 obtain ⟨_,_,rfl,hv,e⟩:=zfe h e
 obtain ⟨l,t,_,rfl,e⟩:=zd0 hv e
 obtain ⟨c,rfl,e⟩:=zkc e
 cases e
 exact P.ord_of_char (zag I ⟨_,rfl⟩)
theorem cInt_ok {as:List V} {ws:List Value} {r:V} {H':Hp} (I:SI B ρ H s) (h:VRs ρ as ws) (e:cInt H as = some (r,H')):wpAny (model B.prog B.w) A (PySem.call (.type "int") ws) (za8 VR B ρ s (r,H')) E s:=by
 cases as with
 | nil=>cases e
 | cons v as=>
   cases ws with
   | nil=>exact h.elim
   | cons w ws=>
   have e:cInt2 H v as = some (r,H'):=e
   cases v with
   | int i=>
     obtain ⟨⟨t,rfl⟩,h⟩:=h
     obtain ⟨rfl,e⟩:=zvs e
     cases ws with
     | cons=>exact h.elim
     | nil=>cases e; exact call_int_int (zag (k:=s.toks) I ⟨_,rfl⟩)
   | str l=>
     obtain ⟨⟨_,t,rfl⟩,h⟩:=h
     obtain ⟨_,_,rfl,hv,e⟩:=zfe h (show as1 _ as = some (r,H') from e)
     obtain ⟨k,u,rfl,e⟩:=zb9 hv e
     obtain ⟨rfl,e⟩:=zaf e
     cases l with
     | nil=>cases e
     | cons a l=>
     obtain ⟨b,rfl,e⟩:=zkc (show onC _ l = some (r,H') from e)
     obtain ⟨x,hx,e⟩:=Option.bind_eq_some_iff.mp e
     obtain ⟨y,hy,e⟩:=Option.map_eq_some_iff.mp e
     cases e
     have g:Gives (Builtin.«int.__new__» ⟨[.type "int",.str ⟨#[a,b]⟩ t,.int 16 u],[]⟩) (.int ((16 * x + y:Nat):Int)):=.of_eq (hex_eq t u hx hy)
     exact callType_new F.called_int F.newNe_int (zlc _ _) (znr _ _) (fun obj=>zzi obj _ _) F.entry_int_new g.meets (show (Made.int _).post _ s from ⟨rfl,zag I ⟨_,rfl⟩⟩)
   | _=>cases e
theorem z4l {as:List V} {ws:List Value} {r:V} {H':Hp} (I:SI B ρ H s) (h:VRs ρ as ws) (e:zxr H as = some (r,H')):wpAny (model B.prog B.w) A (PySem.call (.builtin "isinstance") ws) (za8 VR B ρ s (r,H')) E s:=by
 obtain ⟨_,u,_,_,rfl,hv,hu,e⟩:=zs0 h e
 obtain ⟨l,t,_,rfl,e⟩:=zd0 hv e
 obtain ⟨q,e⟩:=zaf e
 cases e
 cases u with
 | top v=>
   obtain rfl:v = .type "str" := beq_iff_eq.mp q
   obtain ⟨rfl,_⟩:=hu
   exact call_isinstance (isinstance_true (Tx := "str") F.isi_meta_str PySem.F.sub_str_str) ⟨typeIs_str s _ t,zag (k:=s.toks) I rfl⟩
 | _=>cases q
theorem z9a {as:List V} {ws:List Value} {r:V} {H':Hp} (I:SI B ρ H s) (h:VRs ρ as ws) (e:cType H as = some (r,H')):wpAny (model B.prog B.w) A (PySem.call (.type "type") ws) (za8 VR B ρ s (r,H')) E s:=by
 obtain ⟨v,w,rfl,hv,e⟩:=zfe h e
 obtain ⟨t,ht,e⟩:=Option.map_eq_some_iff.mp e
 cases e
 have key:∀ {T:String},s.TypeIs w T→(Value.type T == Value.type "builtin_function_or_method") = false→typeM H v = some (.top (.type T))→wpAny (model B.prog B.w) A (PySem.call (.type "type") [w]) (za8 VR B ρ s (r,H)) E s:=
  fun h1 h2 h3=>by
   rw [h3] at ht; cases ht
   exact call_type_of h1 h2 (zag (k:=s.toks) I ⟨rfl,.inr (.inl ⟨_,rfl⟩)⟩)
 cases v with
 | none=>cases hv; exact key rfl (by decide) rfl
 | bool b=>cases hv; exact key rfl (by decide) rfl
 | int i=>obtain ⟨t,rfl⟩:=hv; exact key rfl (by decide) rfl
 | str l=>obtain ⟨_,t,rfl⟩:=hv; exact key (typeIs_str s _ t) (by decide) rfl
 | obj n=>
   obtain ⟨c,hc,rfl⟩:=hv
   obtain ⟨xs,hx,R,e⟩:=za3 I hc (show onLs _ _ = some r from ht)
   obtain ⟨vs,L,r,hl⟩:=R.isList
   exact key L.typeIs (by decide) (ht.trans e.symm)
 | top v=>cases ht
theorem z4m {as:List V} {ws:List Value} {r:V} {H':Hp} (I:SI B ρ H s) (h:VRs ρ as ws) (e:zxt H as = some (r,H')):wpAny (model B.prog B.w) A (PySem.call (.type "collections.deque") ws) (za8 VR B ρ s (r,H')) E s:=by
 obtain ⟨rfl,e⟩:=zvs e
 cases ws with
 | cons=>exact h.elim
 | nil=>
   cases e
   refine DQ.call_ok fun h' hk g=>?_
   have:=I.add (s':={ s with heap:=h' }) (c:=(s.heap.objs.size,s.heap.objs.size)) (o:=.deque) hk rfl rfl (za1 _) (za1 _) ⟨rfl,g⟩
   exact ⟨_,⟨(s.heap.objs.size,s.heap.objs.size),by rw [← I.hr.len]; simp,rfl⟩,this.1,this.2⟩
theorem z4k {as:List V} {ws:List Value} {r:V} {H':Hp} (I:SI B ρ H s) (h:VRs ρ as ws) (e:zxq H as = some (r,H')):wpAny (model B.prog B.w) A (PySem.call (.type "range") ws) (za8 VR B ρ s (r,H')) E s:=by
 obtain ⟨_,_,rfl,hv,e⟩:=zfe h e
 obtain ⟨i,t,rfl,e⟩:=zb9 hv e
 obtain ⟨hi,e⟩:=zaf e
 cases e
 refine call_range_1 ?_
 have g:=IsRange.new s.heap 0 i 1 s.toks t (s.toks + 1)
 have e0:i = ((i.toNat:Nat):Int):=(Int.toNat_of_nonneg hi.1).symm
 have hn:i.toNat < 1000:=by lia
 generalize i.toNat = k at e0 hn
 subst e0
 have:=I.add (s':={ s with heap:=s.heap.push { cls:=.type "range",data:=.fields #[.int 0 s.toks,.int (k:Int) t,.int 1 (s.toks + 1)] },toks:=s.toks + 1 + 1 }) (c:=(s.heap.objs.size,s.heap.objs.size)) (o:=.rng k)
  (fun b o e=>Heap.get?_push_of_some _ e) rfl rfl (za1 _) (za1 _) ⟨⟨rfl,hn⟩,_,_,_,g⟩
 exact ⟨_,⟨(s.heap.objs.size,s.heap.objs.size),by rw [← I.hr.len]; simp,rfl⟩,this.1,this.2⟩
theorem SI.cellL (I:SI B ρ H s) {n:Nat} {c:Cell} {xs:List V} (hc:ρ[n]? = some c) (hx:listM H n = some xs):∃ vs,s.heap.IsList c.1 (List.toArray vs)∧VRs ρ xs vs∧xs.length≤cap:=by
 have hx:z2n H[n]? = some xs:=hx
 cases h:H[n]? with
 | none=>rw [h] at hx; cases hx
 | some o=>
   rw [h] at hx
   obtain ⟨d,hd,R⟩:=I.cell h
   rw [hc] at hd; cases hd
   cases o with
   | list ys=>cases hx; exact R.isList
   | fix o ys=>
     cases hx
     obtain ⟨⟨_,hl⟩,g,vs,q,r⟩:=R
     exact ⟨vs,q _ g,r,hl⟩
   | _=>cases hx
theorem cSum_ok {as:List V} {ws:List Value} {r:V} {H':Hp} (hh:A.handled = none) (I:SI B ρ H s) (h:VRs ρ as ws) (e:cSum H as = some (r,H')):wpAny (model B.prog B.w) A (PySem.call (.builtin "sum") ws) (za8 VR B ρ s (r,H')) E s:=by
 obtain ⟨_,_,rfl,hv,e⟩:=zfe h e
 obtain ⟨n,c,hc,rfl,e⟩:=zex hv e
 ·· obtain ⟨xs,hx,e⟩:=Option.bind_eq_some_iff.mp e
    obtain ⟨l,hl,e⟩:=Option.map_eq_some_iff.mp e
    cases e
    obtain ⟨vs,L,r,_⟩:=I.cellL hc hx
    obtain ⟨o,ho,_⟩:=id L
    obtain ⟨hlen,hget⟩:=z3f r hl
    have hne:c.1≠s.heap.objs.size:=Nat.ne_of_lt (Heap.lt_size ho)
    have W:=(Walks.list (prog:=B.prog) (w:=B.w) (A:=A.in1) hh s.heap.objs.size c.1 hne (List.toArray vs)).toS
    refine call_sum_walkAnyS (wpAny_pyIter_list L ?_)
    refine ⟨s.heap.objs.size,_,_,_,_,_,_,(fun i=>l.getD i 0),rfl,W,⟨⟨_,Heap.get?_push_size _ rfl,rfl,rfl⟩,L.at fun o e=>Heap.get?_push_of_some _ e⟩,fun b hb=>?_,fun i v hP=>hget i v (by rw [← List.getElem?_toArray]; exact hP),fun s' t' hm=>?_⟩
    ·rcases List.mem_cons.mp hb with rfl | hb
     ·exact Heap.lt_size (Heap.get?_push_size _ rfl)
     ·obtain rfl:=List.mem_singleton.mp hb
      exact Heap.lt_size (Heap.get?_push_of_some _ ho)
    ·rw [List.size_toArray,← hlen,zj8]
     obtain ⟨h',g',d',tk',os'⟩:=s'
     have e1:g' = s.gens:=hm.gens
     have e2:d' = s.drawn:=hm.drawn
     have e3:os' = s.os:=hm.os
     subst e1 e2 e3
     exact zqr I ⟨_,rfl⟩ (fun b o e=>hm.heap b o (fun hb=>absurd (Heap.lt_size e) ((List.mem_singleton.mp hb) ▸ Nat.lt_irrefl _)) (Heap.get?_push_of_some _ e)) rfl rfl
theorem zsk {f:Value} {as:List V} {ws:List Value} {r:V} {H':Hp} (hh:A.handled = none) (I:SI B ρ H s) (h:VRs ρ as ws) (e:zd7 H f as = some (r,H')):wpAny (model B.prog B.w) A (PySem.call f ws) (za8 VR B ρ s (r,H')) E s:=by
 cases f with
 | builtin n=>
   rcases ite_some (show bcB H n as = some (r,H') from e) with ⟨rfl,e⟩ | ⟨_,e⟩
   ·exact cLen_ok I h e
   rcases ite_some e with ⟨rfl,e⟩ | ⟨_,e⟩
   ·exact cChr_ok I h e
   rcases ite_some e with ⟨rfl,e⟩ | ⟨_,e⟩
   ·exact cOrd_ok I h e
   rcases ite_some e with ⟨rfl,e⟩ | ⟨_,e⟩
   ·exact z4l I h e
   obtain ⟨rfl,e⟩:=zaf e
   exact cSum_ok hh I h e
 | type n=>
   rcases ite_some (show bcT H n as = some (r,H') from e) with ⟨rfl,e⟩ | ⟨_,e⟩
   ·exact cInt_ok I h e
   rcases ite_some e with ⟨rfl,e⟩ | ⟨_,e⟩
   ·exact z9a I h e
   rcases ite_some e with ⟨rfl,e⟩ | ⟨_,e⟩
   ·exact z4m I h e
   obtain ⟨rfl,e⟩:=zaf e
   exact z4k I h e
 | _=>cases e
theorem repl_ok {l:List Nat} {c:Nat} {b:Str} {r:V} {t u v:Tok} {x:V} (I:SI B ρ H s) (hu:u≠0) (hv:v≠0) (huv:u≠v) {a:Str} (hl:l.length≤cap) (e:zqh (.str l) a b = some r):
  wpAny (model B.prog B.w) A (PySem.call (.builtin "str.replace") [.str ⟨l.toArray⟩ t,.str a u,.str b v]) (za8 VR B ρ s (r,H)) E s:=by
 obtain ⟨c,ha,e⟩:=zkc (k:=fun c=>if l.length≤cap∧b.cps.toList.length≤10∧a≠b∧(replL c b.cps.toList l).length≤cap then some (V.str (replL c b.cps.toList l)) else none) (show zqh (.str l) a b = some r from e)
 ·obtain ⟨q,e⟩:=zaf e
  ·cases e
   obtain ⟨q1,q2,q3,q4⟩:=q
   have ea:a = ⟨#[c]⟩:=by
    apply PySem.Str.ext'
    apply Array.toList_inj.mp
    exact ha
   rw [zdj] at hl
   refine SC.replace hu hv huv (by rw [beq_eq_false_iff_ne]; exact q3) ?_ fun t' k=>?_
   ·rw [zen]
    have hb:b.length≤10:=q2
    have:(l.length + 1) * b.length≤(l.length + 1) * 10:=Nat.mul_le_mul_left _ hb
    lia
   ·rw [ea,zyj]
    exact zi8 I q4
theorem step_ok {v lo st r:V} {H':Hp} {x:Value} {sl:Addr} {vl vt:Value} (I:SI B ρ H s) (ha:VR ρ v x) (hl:VR ρ lo vl) (ht:VR ρ st vt) (hs:s.heap.IsSliceOf sl vl .none vt) (e:z55 H v lo st = some (r,H')):
  SubAt B A s x (.ref sl) (za8 VR B ρ s (r,H')) E:=by
 obtain ⟨n,c,hc,rfl,e⟩:=zex ha e
 obtain ⟨i,t1,rfl,e⟩:=zb9 hl e
 obtain ⟨k,t2,rfl,e⟩:=zb9 ht e
 obtain ⟨xs,hx,e⟩:=Option.bind_eq_some_iff.mp e
 obtain ⟨hk,e⟩:=zaf e
 ·· · cases e
      obtain ⟨vs,L,r,hl'⟩:=I.cellL hc hx
      have hn:=r.len
      refine ⟨"list",_,L.typeIs,slot_list_getitem.lookup,wpAny_getItem_list_slice L hs (.int _ _) .none (.int _ _) (by intro q; cases q; lia) ?_ (by rw [List.size_toArray,← hn]; exact fitsz hl')⟩
      have q:slicePick (List.toArray vs) (some i) none (some k) = (zgj vs i k).toArray:=by
       unfold slicePick zgj
       rw [List.size_toArray]
       congr 2
       funext j
       simp
      rw [q]
      have rr:∀ is:List Nat,VRs ρ (is.filterMap (xs[·]?)) (is.filterMap (vs[·]?)):=by
       intro is
       induction is with
       | nil=>trivial
       | cons j js ih=>
         rw [List.filterMap_cons,List.filterMap_cons]
         cases hj:xs[j]? with
         | none=>
           have:vs[j]? = none:=by rw [List.getElem?_eq_none_iff] at hj ⊢; lia
           rw [this]; exact ih
         | some a=>
           obtain ⟨w,hw,rw'⟩:=r.get hj
           rw [hw]; exact ⟨rw',ih⟩
      have hr:VRs ρ (zgj xs i k) (zgj vs i k):=by
       unfold zgj
       rw [hn]
       exact rr _
      refine zdy (k:=s.toks) I (fun b o e=>Heap.get?_push_of_some _ e) (Heap.get?_push_size _ rfl) hr ?_
      have z:=slicePick_size_le vs.toArray (some i) none (some k)
      rw [q,List.size_toArray,List.size_toArray] at z
      rw [hr.len]
      lia
end
section
variable {B:Base} {A:Around} {env ce:Env} {fl outer:List Env} {s s1 s2:Shared} {ρ ρ1 ρ2:List Cell} {H H1 H2 H0:Hp} {d:Nat} {sc:Scope} {m m0 m1 m2:Lo} {E:Value→Shared→Prop}
noncomputable def Loops (B:Base) (A:Around) (env:Env) (c:Code) (Q:Flow→Shared→Prop) (E:Value→Shared→Prop) (s:Shared):Prop:=
 codeAny (model B.prog B.w) A c (fun r s'=>match r with | .ok f=>Q f s' | .error e=>cameBackBy (model B.prog B.w) A env E e s') s
theorem Loops.mono {c:Code} {Q Q':Flow→Shared→Prop} {E E':Value→Shared→Prop} (h:Loops B A env c Q E s) (hq:∀ f s',Q f s'→Q' f s') (he:∀ e s',E e s'→E' e s'):Loops B A env c Q' E' s:=
 codeAny_mono h fun r s' z=>by
  cases r with
  | ok f=>exact hq _ _ z
  | error e=>exact wpAny_mono z (fun _ _ q=>he _ _ q) fun _ _ q=>he _ _ q
structure ItAt (B:Base) (ρ:List Cell) (h:Heap) (it l:Addr) (i:Nat):Prop where
 at_:h.IsListIter it l i
 off:Off ρ it
theorem ItAt.ne_dict {h:Heap} {it l:Addr} {i:Nat} {b:Addr} {o:Obj} (x:ItAt B ρ h it l i) (hb:h.get? b = some o) (hd:∀ vs,o.data≠.fields vs):b≠it:=fun e=>by
 obtain ⟨o',ho,_,q⟩:=x.at_
 rw [e,ho] at hb
 cases hb
 exact hd _ q
noncomputable def ItO (ρ:List Cell):Src→Nat→Obj→Prop
 | .list n,i,o=>∃ c,ρ[n]? = some c∧o.cls = .type "list_iterator" ∧ o.data = .fields #[.ref c.1,.int i 0]
 | .str l,i,o=>l.length≤cap∧∃ ty t,(ty = "str_ascii_iterator" ∨ ty = "str_iterator")∧o.cls = .type ty∧o.data = .fields #[.str ⟨l.toArray⟩ t,.int i 0]
 | .rng k,i,o=>o = { cls:=.type "range_iterator",dict:=none,data:=.fields #[rawInt (0 + (i:Nat) * 1),rawInt ((k:Int) - (i:Nat)),rawInt 1],slots:=#[] }
theorem ItO.fields {x:Src} {i:Nat} {o:Obj} (h:ItO ρ x i o):(∃ vs,o.data = .fields vs)∧∀ es ep,o.data≠.dict es ep:=by
 have key:∃ vs,o.data = .fields vs:=by
  cases x with
  | list n=>obtain ⟨c,_,a,b⟩:=h; exact ⟨_,b⟩
  | str l=>obtain ⟨_,ty,t,e,a,b⟩:=h; exact ⟨_,b⟩
  | rng k=>cases h; exact ⟨_,rfl⟩
 exact ⟨key,fun es ep q=>by obtain ⟨vs,k⟩:=key; rw [k] at q; cases q⟩
theorem ItO.mono (p:Pre ρ ρ1) {x:Src} {i:Nat} {o:Obj} (h:ItO ρ x i o):ItO ρ1 x i o:=by
 cases x with
 | list n=>obtain ⟨c,a,r⟩:=h; exact ⟨c,p.get a,r⟩
 | str l=>exact h
 | rng k=>exact h
end
structure Cp (X:Ct) (s1:Shared) (ρ1:List Cell) (H1:Hp) (it:Addr) (x:Src) (i:Nat):Prop where
 nx:Nx X s1 ρ1 H1
 bit:X.s.heap.get? it = none
 bC:X.s.heap.get? X.env.locals = none
 old:X.B.h₀.get? it = none
 ne:X.env.locals≠it
 off:Off ρ1 it
 at_:∃ o,s1.heap.get? it = some o∧ItO ρ1 x i o
 cells:∀ y ca,X.env.cells.lookup y = some ca→ca≠it
section
variable (P:Prg) (d:Nat) (sc:Scope) (m:Lo)
noncomputable def ev (e:Expr):M V:=fun H Q E=>Ok P→∀ {A env fl s ρ},evX ⟨P,d,sc,m,A,env,fl,s,ρ⟩ e H Q E
noncomputable def tr (e:Expr):M Bool:=fun H Q E=>Ok P→∀ {A env fl s ρ},trX ⟨P,d,sc,m,A,env,fl,s,ρ⟩ e H Q E
noncomputable def exs (ss:List Stmt):M (Fl×Lo):=fun H Q E=>Ok P→∀ {A env outer s ρ},exsX ⟨P,d,sc,A,env,outer,s,ρ⟩ m ss H Q E
noncomputable def whlX (Y:Cs) (m:Lo) (t:Expr) (b:List Stmt) (H:Hp) (Q:Fl×Lo→Hp→Prop) (E:EK→Hp→Prop):Prop:=∀ {s1 ρ1},Sn Y s1 ρ1 H m→Loops Y.B Y.A Y.env (.whileLoop t b [] Y.env) (SP Y Q) (SE Y E) s1
noncomputable def frlX (Y:Cs) (m:Lo) (t:Expr) (b:List Stmt) (n i:Nat) (H:Hp) (Q:Fl×Lo→Hp→Prop) (E:EK→Hp→Prop):Prop:=∀ {s1 ρ1 it c},Sn Y s1 ρ1 H m→ρ1[n]? = some c→Y.s.heap.get? it = none→ItAt Y.B ρ1 s1.heap it c.1 i→
 Loops Y.B Y.A Y.env (.forLoop t (.ref it) b [] Y.env) (SP Y Q) (SE Y E) s1
noncomputable def whl (t:Expr) (b:List Stmt):M (Fl×Lo):=fun H Q E=>Ok P→∀ {A env outer s ρ},whlX ⟨P,d,sc,A,env,outer,s,ρ⟩ m t b H Q E
noncomputable def frl (t:Expr) (b:List Stmt) (x:V) (i:Nat):M (Fl×Lo):=fun H Q E=>∃ n,x = .obj n∧(Ok P→∀ {A env outer s ρ},frlX ⟨P,d,sc,A,env,outer,s,ρ⟩ m t b n i H Q E)
noncomputable def comp (elt t:Expr) (x:Src) (acc:V) (i:Nat):M V:=fun H Q E=>(∀ k H,¬ E k H)→Ok P→∀ {A ce fl s ρ s1 ρ1 it na c},acc = .obj na→Cp ⟨P,d,sc,m,A,ce,fl,s,ρ⟩ s1 ρ1 H it x i→ρ1[na]? = some c→∀ iter scope pos,
 codeAny (model P.prog P.w) A (.compLoop (.ListComp elt [⟨t,iter,[],0⟩] scope pos) 0 (.ref it) (.ref c.1) ce) (fun r s'=>match r with
  | .ok _=>∃ ρ2 m2 H2,ρ2[na]? = some c∧Nx ⟨P,d,sc,m2,A,ce,fl,s,ρ⟩ s' ρ2 H2∧Q acc H2
  | .error _=>False) s1
end
noncomputable def WpI {α:Type} [Q:Inhabited (α→Hp→Prop)] [E:Inhabited (EK→Hp→Prop)] (x:M α) (H:Hp):Prop:=x H Q.default E.default
structure optI {α:Type} [K:Inhabited (α→Prop)] (o:Option α):Prop where
 out:@Option.rec α (fun _=>Prop) False K.default o
structure ifI [f:Inhabited (Unit→Prop)] [g:Inhabited (Unit→Prop)] (c:Bool):Prop where
 out:@Bool.rec (fun _=>Prop) (g.default ()) (f.default ()) c
theorem ifI_split {c:Bool} {f g:Unit→Prop} (h1:c = true→f ()) (h2:c = false→g ()):@ifI ⟨f⟩ ⟨g⟩ c:=by cases c; exact @ifI.mk ⟨f⟩ ⟨g⟩ _ (h2 rfl); exact @ifI.mk ⟨f⟩ ⟨g⟩ _ (h1 rfl)
theorem zc0 {p:Prop} [D:Decidable p] {f g:Unit→Prop} (h1:p→f ()) (h2:¬ p→g ()):@ifI ⟨f⟩ ⟨g⟩ (decide p):=by cases D with | isTrue h=>exact @ifI.mk ⟨f⟩ ⟨g⟩ _ (h1 h) | isFalse h=>exact @ifI.mk ⟨f⟩ ⟨g⟩ _ (h2 h)
theorem zaz {α:Type} (a:α) (K:α→Prop):@optI _ ⟨K⟩ (some a) = K a:=propext ⟨fun h=>@optI.out _ ⟨K⟩ _ h,fun h=>@optI.mk _ ⟨K⟩ _ h⟩
theorem zon (f g:Unit→Prop):@ifI ⟨f⟩ ⟨g⟩ true = f ():=propext ⟨fun h=>@ifI.out ⟨f⟩ ⟨g⟩ _ h,fun h=>@ifI.mk ⟨f⟩ ⟨g⟩ _ h⟩
theorem zr0 (f g:Unit→Prop):@ifI ⟨f⟩ ⟨g⟩ false = g ():=propext ⟨fun h=>@ifI.out ⟨f⟩ ⟨g⟩ _ h,fun h=>@ifI.mk ⟨f⟩ ⟨g⟩ _ h⟩
noncomputable def optN {α:Type} [K:Inhabited (α→Prop)] (o:Option α):Prop:=@Option.rec α (fun _=>Prop) False K.default o
noncomputable def ifS [f:Inhabited (Unit→Prop)] [g:Inhabited (Unit→Prop)] (c:Bool):Prop:=@Bool.rec (fun _=>Prop) (g.default ()) (f.default ()) c
theorem z11 {α:Type} (a:α) (K:α→Prop):@optN _ ⟨K⟩ (some a) = K a:=rfl
theorem z70 (f g:Unit→Prop):@ifS ⟨f⟩ ⟨g⟩ true = f ():=rfl
theorem z3h (f g:Unit→Prop):@ifS ⟨f⟩ ⟨g⟩ false = g ():=rfl
theorem zbu {α:Type} {K:Inhabited (α→Prop)} {o:Option α} (h:@optN _ K o):∃ a,o = some a∧K.default a:=by cases o with | none=>exact h.elim | some a=>exact ⟨a,rfl,h⟩
theorem zav {α:Type} {K:Inhabited (α→Prop)} {o:Option α} (h:@optI _ K o):∃ a,o = some a∧K.default a:=zbu (@optI.out _ K _ h)
theorem zb6 {f g:Inhabited (Unit→Prop)} {c:Bool} (h:@ifS f g c):(c = true∧f.default ())∨(c = false∧g.default ()):=by cases c with | false=>exact .inr ⟨rfl,h⟩ | true=>exact .inl ⟨rfl,h⟩
theorem zh2 {f g:Inhabited (Unit→Prop)} {c:Bool} (h:@ifI f g c):@Bool.rec (fun _=>Prop) (g.default ()) (f.default ()) c:=@ifI.out f g _ h
theorem zoo {f g:Inhabited (Unit→Prop)} {c:Bool} (h:@ifI f g c):(c = true∧f.default ())∨(c = false∧g.default ()):=zb6 (@ifI.out f g _ h)
noncomputable abbrev Kt (α:Type):Type:=Inhabited (α→Hp→Prop)
noncomputable abbrev FE (A α:Type):Type:=Lo→A→Hp→[Kt α]→[Kt EK]→Prop
noncomputable def RecF:Type:=(FE Expr V→FE (List Expr) (List V)→FE (Option Expr) V→FE Expr Bool→FE (List Expr) Bool→FE (List Expr) Bool→FE Stmt (Fl×Lo)→FE (List Stmt) (Fl×Lo)→Prop)→Prop
noncomputable def RecF.e (R:RecF) (m:Lo) [Kt V] [Kt EK] (H:Hp) (e:Expr):Prop:=R fun f _ _ _ _ _ _ _=>f m e H
noncomputable def RecF.es (R:RecF) (m:Lo) [Kt (List V)] [Kt EK] (H:Hp) (e:List Expr):Prop:=R fun _ f _ _ _ _ _ _=>f m e H
noncomputable def RecF.o (R:RecF) (m:Lo) [Kt V] [Kt EK] (H:Hp) (e:Option Expr):Prop:=R fun _ _ f _ _ _ _ _=>f m e H
noncomputable def RecF.t (R:RecF) (m:Lo) [Kt Bool] [Kt EK] (H:Hp) (e:Expr):Prop:=R fun _ _ _ f _ _ _ _=>f m e H
noncomputable def RecF.ta (R:RecF) (m:Lo) [Kt Bool] [Kt EK] (H:Hp) (e:List Expr):Prop:=R fun _ _ _ _ f _ _ _=>f m e H
noncomputable def RecF.to (R:RecF) (m:Lo) [Kt Bool] [Kt EK] (H:Hp) (e:List Expr):Prop:=R fun _ _ _ _ _ f _ _=>f m e H
noncomputable def RecF.x (R:RecF) (m:Lo) [Kt (Fl×Lo)] [Kt EK] (H:Hp) (e:Stmt):Prop:=R fun _ _ _ _ _ _ f _=>f m e H
noncomputable def RecF.xs (R:RecF) (m:Lo) [Kt (Fl×Lo)] [Kt EK] (H:Hp) (e:List Stmt):Prop:=R fun _ _ _ _ _ _ _ f=>f m e H
noncomputable def uF (_:Unit):Prop:=False
noncomputable def uQ (v:V) (H:Hp) [Q:Kt V] (_:Unit):Prop:=Q.default v H
noncomputable def uT (t:Bool) (H:Hp) [T:Kt Bool] (_:Unit):Prop:=T.default t H
noncomputable def uS (p:Fl×Lo) (H:Hp) [S:Kt (Fl×Lo)] (_:Unit):Prop:=S.default p H
noncomputable def uE (R:RecF) (m:Lo) (H:Hp) (e:Expr) [Q:Kt V] [E:Kt EK] (_:Unit):Prop:=@RecF.e R m Q E H e
noncomputable def uEs (R:RecF) (m:Lo) (H:Hp) (es:List Expr) [L:Kt (List V)] [E:Kt EK] (_:Unit):Prop:=@RecF.es R m L E H es
noncomputable def uTa (R:RecF) (m:Lo) (H:Hp) (es:List Expr) [T:Kt Bool] [E:Kt EK] (_:Unit):Prop:=@RecF.ta R m T E H es
noncomputable def uTo (R:RecF) (m:Lo) (H:Hp) (es:List Expr) [T:Kt Bool] [E:Kt EK] (_:Unit):Prop:=@RecF.to R m T E H es
noncomputable def uXs (R:RecF) (m:Lo) (H:Hp) (ss:List Stmt) [S:Kt (Fl×Lo)] [E:Kt EK] (_:Unit):Prop:=@RecF.xs R m S E H ss
noncomputable def kNo (_:EK) (_:Hp):Prop:=False
noncomputable def kAt (H:Hp) [Q:Kt V] (v:V):Prop:=Q.default v H
noncomputable def kBool (H:Hp) [Q:Kt V] (t:Bool):Prop:=Q.default (.bool t) H
noncomputable def kTb (H:Hp) [T:Kt Bool] (t:Bool):Prop:=T.default t H
noncomputable def zd5 [Q:Kt V] (pr:V×Hp):Prop:=Q.default pr.1 pr.2
noncomputable def kCall (P:Prg) (d:Nat) (f:Addr) (ov:V) [Q:Kt V] [E:Kt EK] (vs:List V) (H:Hp):Prop:=@WpI _ Q E (call P d (.top (.ref f)) (ov::vs) [] []) H
noncomputable def z24 (id:String) (ov:V) [Q:Kt V] (vs:List V) (H:Hp):Prop:=@optI _ ⟨@zd5 Q⟩ (zax H id (ov::vs))
noncomputable def kMeth (R:RecF) (m:Lo) (es:List Expr) (ov:V) (H:Hp) [Q:Kt V] [E:Kt EK] (id:String):Prop:=@RecF.es R m ⟨@z24 id ov Q⟩ E H es
noncomputable def zzf [Q:Kt V] (v:V) (H:Hp):Prop:=@ifI ⟨@uQ v H Q⟩ ⟨uF⟩ (zi1 v)
noncomputable def z2f (P:Prg) (d:Nat) (R:RecF) (m:Lo) [Q:Kt V] [E:Kt EK] (x:Str) (es:List Expr) (ov:V) (H1:Hp):Option Addr→Prop
 | some f=>@RecF.es R m ⟨@kCall P d f ov Q E⟩ E H1 es
 | none=>@optN _ ⟨@kMeth R m es ov H1 Q E⟩ (zcd H1 ov x)
noncomputable def z4x (P:Prg) (d:Nat) [Q:Kt V] (x:Str) (ov:V) (H1:Hp):Option Addr→Prop
 | some f=>@WpI _ ⟨@zzf Q⟩ ⟨kNo⟩ (call P d (.top (.ref f)) [ov] [] []) H1
 | none=>@optI _ ⟨@kAt H1 Q⟩ (attrM P H1 ov x)
noncomputable def kMF (P:Prg) (d:Nat) (R:RecF) (m:Lo) (x:Str) (es:List Expr) [Q:Kt V] [E:Kt EK] (ov:V) (H:Hp):Prop:=@z2f P d R m Q E x es ov H (methM P H ov x)
noncomputable def z7q (sa:Str) (sb:Str) [Q:Kt V] (ov:V) (H:Hp):Prop:=@optI _ ⟨@kAt H Q⟩ (zqh ov sa sb)
noncomputable def zh3 (P:Prg) (d:Nat) [Q:Kt V] [E:Kt EK] (vs:List V) (H:Hp):Value→Prop
 | .ref a=>@WpI _ Q E (call P d (.top (.ref a)) vs [] []) H
 | .type n=>if n = "list" then @WpI _ Q E (call P d (.top (.type "list")) vs [] []) H else @optI _ ⟨@zd5 Q⟩ (zd7 H (.type n) vs)
 | f=>@optI _ ⟨@zd5 Q⟩ (zd7 H f vs)
noncomputable def kC2 (P:Prg) (d:Nat) (fv:V) [Q:Kt V] [E:Kt EK] (vs:List V) (H:Hp):Prop:=match fv with
 | .top f=>@zh3 P d Q E vs H f
 | _=>False
noncomputable def kC1 (P:Prg) (d:Nat) (R:RecF) (m:Lo) (H:Hp) (es:List Expr) [Q:Kt V] [E:Kt EK] (fv:V):Prop:=@ifS ⟨@uEs R m H es ⟨@kC2 P d fv Q E⟩ E⟩ ⟨uF⟩ (zdi es && okF P fv)
noncomputable def kK3 (P:Prg) (d:Nat) (fv:V) (n:Str) (vs:List V) [Q:Kt V] [E:Kt EK] (w:V) (H:Hp):Prop:=@WpI _ Q E (call P d fv vs [n] [w]) H
noncomputable def kK2 (P:Prg) (d:Nat) (R:RecF) (m:Lo) (fv:V) (n:Str) (e:Expr) [Q:Kt V] [E:Kt EK] (vs:List V) (H:Hp):Prop:=@RecF.e R m ⟨@kK3 P d fv n vs Q E⟩ E H e
noncomputable def kK1 (P:Prg) (d:Nat) (R:RecF) (m:Lo) (H:Hp) (es:List Expr) (n:Str) (e:Expr) [Q:Kt V] [E:Kt EK] (fv:V):Prop:=@ifS ⟨@uEs R m H es ⟨@kK2 P d R m fv n e Q E⟩ E⟩ ⟨uF⟩ (zdi es && okF P fv)
noncomputable def kS3 (ov:V) (a:V) [Q:Kt V] (b:V) (H:Hp):Prop:=@optI _ ⟨@zd5 Q⟩ (cutM H ov a b)
noncomputable def kS2 (R:RecF) (m:Lo) (ov:V) (hi:Option Expr) [Q:Kt V] [E:Kt EK] (a:V) (H:Hp):Prop:=@RecF.o R m ⟨@kS3 ov a Q⟩ E H hi
noncomputable def kS1 (R:RecF) (m:Lo) (lo:Option Expr) (hi:Option Expr) [Q:Kt V] [E:Kt EK] (ov:V) (H:Hp):Prop:=@RecF.o R m ⟨@kS2 R m ov hi Q E⟩ E H lo
noncomputable def kT3 (ov:V) (a:V) [Q:Kt V] (b:V) (H:Hp):Prop:=@optI _ ⟨@zd5 Q⟩ (z55 H ov a b)
noncomputable def kT2 (R:RecF) (m:Lo) (ov:V) (st:Expr) [Q:Kt V] [E:Kt EK] (a:V) (H:Hp):Prop:=@RecF.e R m ⟨@kT3 ov a Q⟩ E H st
noncomputable def kT1 (R:RecF) (m:Lo) (l:Expr) (st:Expr) [Q:Kt V] [E:Kt EK] (ov:V) (H:Hp):Prop:=@RecF.e R m ⟨@kT2 R m ov st Q E⟩ E H l
noncomputable def kB2 (P:Prg) (ov:V) [Q:Kt V] (a:V) (H:Hp):Prop:=@optI _ ⟨@kAt H Q⟩ (subM P.K H ov a)
noncomputable def kB1 (P:Prg) (R:RecF) (m:Lo) (i:Expr) [Q:Kt V] [E:Kt EK] (ov:V) (H:Hp):Prop:=@RecF.e R m ⟨@kB2 P ov Q⟩ E H i
noncomputable def kA2 (R:RecF) (m:Lo) (e:Expr) (v:V) (H:Hp) [Q:Kt V] [E:Kt EK] (t:Bool):Prop:=@ifI ⟨@uE R m H e Q E⟩ ⟨@uQ v H Q⟩ t
noncomputable def kA1 (R:RecF) (m:Lo) (e:Expr) [Q:Kt V] [E:Kt EK] (v:V) (H:Hp):Prop:=@optN _ ⟨@kA2 R m e v H Q E⟩ (zeq H v)
noncomputable def kO2 (R:RecF) (m:Lo) (e:Expr) (v:V) (H:Hp) [Q:Kt V] [E:Kt EK] (t:Bool):Prop:=@ifI ⟨@uQ v H Q⟩ ⟨@uE R m H e Q E⟩ t
noncomputable def kO1 (R:RecF) (m:Lo) (e:Expr) [Q:Kt V] [E:Kt EK] (v:V) (H:Hp):Prop:=@optN _ ⟨@kO2 R m e v H Q E⟩ (zeq H v)
noncomputable def kM2 (cp:CmpOp) (a:V) [Q:Kt V] (b:V) (H:Hp):Prop:=@optN _ ⟨@kBool H Q⟩ (cmpM H cp a b)
noncomputable def kM1 (R:RecF) (m:Lo) (cp:CmpOp) (r:Expr) [Q:Kt V] [E:Kt EK] (a:V) (H:Hp):Prop:=@RecF.e R m ⟨@kM2 cp a Q⟩ E H r
noncomputable def kN2 (op:Operator) (a:V) [Q:Kt V] (b:V) (H:Hp):Prop:=@optI _ ⟨@kAt H Q⟩ (binM op a b)
noncomputable def kN1 (R:RecF) (m:Lo) (op:Operator) (r:Expr) [Q:Kt V] [E:Kt EK] (a:V) (H:Hp):Prop:=@RecF.e R m ⟨@kN2 op a Q⟩ E H r
noncomputable def kU (u:UnaryOp) [Q:Kt V] (a:V) (H:Hp):Prop:=@optN _ ⟨@kAt H Q⟩ (unM H u a)
noncomputable def kI1 (R:RecF) (m:Lo) (e:Expr) (o:Expr) [Q:Kt V] [E:Kt EK] (t:Bool) (H:Hp):Prop:=@ifI ⟨@uE R m H e Q E⟩ ⟨@uE R m H o Q E⟩ t
noncomputable def kLs [Q:Kt V] (vs:List V) (H:Hp):Prop:=@ifI ⟨@uQ (.obj H.length) (H++[.list vs]) Q⟩ ⟨uF⟩ (decide (vs.length < cap))
noncomputable def kTp [Q:Kt V] (vs:List V) (H:Hp):Prop:=@ifI ⟨@uQ (.obj H.length) (H++[.tup vs]) Q⟩ ⟨uF⟩ (decide (vs.length < cap))
structure kAF (P:Prg) (d:Nat) (x:Str) [Q:Kt V] (ov:V) (H:Hp):Prop where
 out:@z4x P d Q x ov H (propM P H ov x)
noncomputable def kE2 (v:V) [L:Kt (List V)] (vs:List V) (H:Hp):Prop:=L.default (v::vs) H
noncomputable def kE1 (R:RecF) (m:Lo) (rs:List Expr) [L:Kt (List V)] [E:Kt EK] (v:V) (H:Hp):Prop:=@RecF.es R m ⟨@kE2 v L⟩ E H rs
noncomputable def kV [T:Kt Bool] (v:V) (H:Hp):Prop:=@optN _ ⟨@kTb H T⟩ (zeq H v)
noncomputable def kNot [T:Kt Bool] (t:Bool) (H:Hp):Prop:=T.default (!t) H
noncomputable def kW2 (cp:CmpOp) (a:V) [T:Kt Bool] (b:V) (H:Hp):Prop:=@optN _ ⟨@kTb H T⟩ (cmpM H cp a b)
noncomputable def kW1 (R:RecF) (m:Lo) (cp:CmpOp) (r:Expr) [T:Kt Bool] [E:Kt EK] (a:V) (H:Hp):Prop:=@RecF.e R m ⟨@kW2 cp a T⟩ E H r
noncomputable def kTa (R:RecF) (m:Lo) (rs:List Expr) [T:Kt Bool] [E:Kt EK] (t:Bool) (H:Hp):Prop:=@ifI ⟨@uTa R m H rs T E⟩ ⟨@uT false H T⟩ t
noncomputable def kTo (R:RecF) (m:Lo) (rs:List Expr) [T:Kt Bool] [E:Kt EK] (t:Bool) (H:Hp):Prop:=@ifI ⟨@uT true H T⟩ ⟨@uTo R m H rs T E⟩ t
noncomputable def kA5 (m:Lo) [S:Kt (Fl×Lo)] (H:Hp):Prop:=S.default (.next,m) H
noncomputable def kA4 (P:Prg) (m:Lo) (x:Str) (v:V) [S:Kt (Fl×Lo)] (ov:V) (H:Hp):Prop:=@optI _ ⟨@kA5 m S⟩ (zbs P H ov x v)
noncomputable def kA3 (P:Prg) (R:RecF) (m:Lo) (o:Expr) (x:Str) [S:Kt (Fl×Lo)] [E:Kt EK] (v:V) (H:Hp):Prop:=@RecF.e R m ⟨@kA4 P m x v S⟩ E H o
noncomputable def kSN (sc:Scope) (m:Lo) (x:Str) [S:Kt (Fl×Lo)] (v:V) (H:Hp):Prop:=@ifS ⟨@uS (.next,upd m x v) H S⟩ ⟨uF⟩ (localB sc x)
noncomputable def kT5 (H:Hp) [S:Kt (Fl×Lo)] (m:Lo):Prop:=S.default (.next,m) H
noncomputable def kT4 (sc:Scope) (m:Lo) (es:List Expr) (k:Nat) (q:Pos) [S:Kt (Fl×Lo)] (v:V) (H:Hp):Prop:=@optI _ ⟨@kT5 H S⟩ (assignM sc m H (.Tuple es k q) v)
noncomputable def kG3 (m:Lo) (x:Str) (H:Hp) [S:Kt (Fl×Lo)] (v:V):Prop:=S.default (.next,upd m x v) H
noncomputable def kG2 (m:Lo) (x:Str) (a:V) [S:Kt (Fl×Lo)] (b:V) (H:Hp):Prop:=@optI _ ⟨@kG3 m x H S⟩ (binM .Add a b)
noncomputable def kG1 (R:RecF) (m:Lo) (x:Str) (e:Expr) (H:Hp) [S:Kt (Fl×Lo)] [E:Kt EK] (a:V):Prop:=@RecF.e R m ⟨@kG2 m x a S⟩ E H e
noncomputable def uG (R:RecF) (m:Lo) (x:Str) (e:Expr) (H:Hp) [S:Kt (Fl×Lo)] [E:Kt EK] (_:Unit):Prop:=@optN _ ⟨@kG1 R m x e H S E⟩ (m x)
noncomputable def kH2 (P:Prg) (m:Lo) (x:Str) (ov:V) (a:V) [S:Kt (Fl×Lo)] (b:V) (H:Hp):Prop:=@optI _ ⟨fun c=>@optI _ ⟨@kA5 m S⟩ (zbs P H ov x c)⟩ (binM .Add a b)
noncomputable def kH1 (P:Prg) (R:RecF) (m:Lo) (x:Str) (e:Expr) [S:Kt (Fl×Lo)] [E:Kt EK] (ov:V) (H:Hp):Prop:=@optI _ ⟨fun a=>@RecF.e R m ⟨@kH2 P m x ov a S⟩ E H e⟩ (if (propM P H ov x).isNone then attrM P H ov x else none)
noncomputable def kX (m:Lo) [S:Kt (Fl×Lo)] (_:V) (H:Hp):Prop:=S.default (.next,m) H
noncomputable def kR (m:Lo) [S:Kt (Fl×Lo)] (v:V) (H:Hp):Prop:=S.default (.ret v,m) H
noncomputable def kIf (R:RecF) (m:Lo) (ss:List Stmt) (tt:List Stmt) [S:Kt (Fl×Lo)] [E:Kt EK] (t:Bool) (H:Hp):Prop:=@ifI ⟨@uXs R m H ss S E⟩ ⟨@uXs R m H tt S E⟩ t
noncomputable def kF1 (P:Prg) (d:Nat) (sc:Scope) (m:Lo) (tg:Expr) (ss:List Stmt) [S:Kt (Fl×Lo)] [E:Kt EK] (v:V) (H:Hp):Prop:=@optI _ ⟨fun _=>@WpI _ S E (frl P d sc m tg ss v 0) H⟩ (zfl H v)
section
variable (P:Prg) (d:Nat) (sc:Scope) (R:RecF)
noncomputable def RF0:RecF:=fun k=>k (fun _ _ _ _ _=>False) (fun _ _ _ _ _=>False) (fun _ _ _ _ _=>False) (fun _ _ _ _ _=>False) (fun _ _ _ _ _=>False) (fun _ _ _ _ _=>False) (fun _ _ _ _ _=>False) (fun _ _ _ _ _=>False)
section
variable (m:Lo) (H:Hp) [Q:Kt V] [E:Kt EK]
noncomputable def z7c (o:Expr) (x:Str) (apos pos:Pos) (es:List Expr):Prop:=@ifS ⟨@uE R m H o ⟨@kMF P d R m x es Q E⟩ E⟩ ⟨uF⟩ (okM o apos pos es)
noncomputable def meth2 (o:Expr) (x:Str) (apos pos:Pos) (e f:Expr):Option Str→Option Str→Prop
 | some a,some b=>@ifS ⟨@uE R m H o ⟨@z7q a b Q⟩ E⟩ ⟨uF⟩ (decide (x = "replace") && okM o apos pos [])
 | _,_=>False
noncomputable def callA (o:Expr) (x:Str) (apos pos:Pos):List Expr→Prop
 | []=>z7c P d R m H o x apos pos []
 | [e]=>z7c P d R m H o x apos pos [e]
 | [e,f]=>meth2 R m H o x apos pos e f (strC e) (strC f)
 | [e,f,g]=>z7c P d R m H o x apos pos [e,f,g]
 | es=>False
noncomputable def callK (f:Str) (q pos:Pos) (es:List Expr):List Keyword→Prop
 | []=>@optN _ ⟨@kC1 P d R m H es Q E⟩ (zac P sc m f)
 | [⟨some n,e,_⟩]=>@optN _ ⟨@kK1 P d R m H es n e Q E⟩ (zac P sc m f)
 | ks=>False
noncomputable def callE (es:List Expr) (ks:List Keyword) (pos:Pos):Expr→Prop
 | .Name f q=>callK P d sc R m H f q pos es ks
 | .Attribute o x apos=>match ks with
   | []=>callA P d R m H o x apos pos es
   | ks=>False
 | f=>False
noncomputable def sliceE (o:Expr) (q:Pos) (lo hi:Option Expr) (p:Pos):Option Expr→Prop
 | none=>@RecF.e R m ⟨@kS1 R m lo hi Q E⟩ E H o
 | some st=>match lo,hi with
   | some lo,none=>@RecF.e R m ⟨@kT1 R m lo st Q E⟩ E H o
   | lo,hi=>False
noncomputable def subE (o:Expr) (q:Pos):Expr→Prop
 | .Slice lo hi st p=>sliceE R m H o q lo hi p st
 | i=>@RecF.e R m ⟨@kB1 P R m i Q E⟩ E H o
noncomputable def boolE (p:Pos) (op:BoolOp):List Expr→Prop
 | [a,b]=>match op with
   | .And=>@RecF.e R m ⟨@kA1 R m b Q E⟩ E H a
   | .Or=>@RecF.e R m ⟨@kO1 R m b Q E⟩ E H a
 | es=>False
noncomputable def cmpE (l:Expr) (p:Pos):List CmpOp→List Expr→Prop
 | [op],[r]=>@ifS ⟨uF⟩ ⟨@uE R m H l ⟨@kM1 R m op r Q E⟩ E⟩ (behindInMarks op r)
 | ops,rs=>False
noncomputable def stepE:Expr→Prop
 | .Constant c _ _=>@optN _ ⟨@kAt H Q⟩ (zky c)
 | .Name x _=>@optN _ ⟨@kAt H Q⟩ (zac P sc m x)
 | .BinOp l op r _=>@RecF.e R m ⟨@kN1 R m op r Q E⟩ E H l
 | .BoolOp op es p=>boolE R m H p op es
 | .UnaryOp op x _=>@RecF.e R m ⟨@kU op Q⟩ E H x
 | .IfExp t b o _=>@RecF.t R m ⟨@kI1 R m b o Q E⟩ E H t
 | .List es _=>@RecF.es R m ⟨@kLs Q⟩ E H es
 | .Tuple es _ _=>@RecF.es R m ⟨@kTp Q⟩ E H es
 | .Compare l ops rs p=>cmpE R m H l p ops rs
 | .Call f es ks pos=>callE P d sc R m H es ks pos f
 | .Attribute o x _=>@ifS ⟨@uE R m H o ⟨@kAF P d x Q⟩ E⟩ ⟨uF⟩ (zbm o)
 | .Subscript o i q=>subE P R m H o q i
 | .ListComp elt gs sc' p=>WpI (ev P d sc m (.ListComp elt gs sc' p)) H
 | _=>False
noncomputable def stepO:Option Expr→Prop
 | none=>Q.default .none H
 | some e=>@RecF.e R m Q E H e
end
noncomputable def z95 (m:Lo) (H:Hp) [Q:Kt (List V)] [E:Kt EK]:List Expr→Prop
 | []=>Q.default [] H
 | e::r=>match zke e with
   | true=>@RecF.e R m ⟨@kE1 R m r Q E⟩ E H e
   | false=>False
section
variable (m:Lo) (H:Hp) [T:Kt Bool] [E:Kt EK]
noncomputable def stepV (e:Expr):Prop:=@RecF.e R m ⟨@kV T⟩ E H e
noncomputable def stepT:Expr→Prop
 | .UnaryOp op x p=>match op with
   | .Not=>@RecF.t R m ⟨@kNot T⟩ E H x
   | op=>stepV R m H (.UnaryOp op x p)
 | .BoolOp op es _=>match op with
   | .And=>RecF.ta R m H es
   | .Or=>RecF.to R m H es
 | .IfExp t b o p=>False
 | .Compare l ops rs p=>match ops,rs with
   | [op],[r]=>@ifS ⟨uF⟩ ⟨@uE R m H l ⟨@kW1 R m op r T E⟩ E⟩ (behindInMarks op r)
   | ops,rs=>False
 | e=>stepV R m H e
noncomputable def z94:List Expr→Prop
 | []=>T.default true H
 | e::r=>@RecF.t R m ⟨@kTa R m r T E⟩ E H e
noncomputable def z93:List Expr→Prop
 | []=>T.default false H
 | e::r=>@RecF.t R m ⟨@kTo R m r T E⟩ E H e
end
section
variable (m:Lo) (H:Hp) [S:Kt (Fl×Lo)] [E:Kt EK]
noncomputable def flX (r:List Stmt):Fl×Lo→Hp→Prop
 | (.next,m'),H1=>@RecF.xs R m' S E H1 r
 | p,H1=>S.default p H1
noncomputable def assE (e:Expr) (p:Pos):List Expr→Prop
 | [t]=>match t with
   | .Attribute o x _=>@ifS ⟨uF⟩ ⟨@uE R m H e ⟨@kA3 P R m o x S E⟩ E⟩ (zb5 e)
   | .Name x _=>@ifS ⟨uF⟩ ⟨@uE R m H e ⟨@kSN sc m x S⟩ E⟩ (zb5 e)
   | .Tuple es k q=>@ifS ⟨uF⟩ ⟨@uE R m H e ⟨@kT4 sc m es k q S⟩ E⟩ (z3a e || zb5 e)
   | t=>False
 | ts=>False
noncomputable def augE (e:Expr) (p:Pos) (op:Operator) (t:Expr):Prop:=match op with
 | .Add=>match t with
   | .Name x _=>@ifS ⟨@uG R m x e H S E⟩ ⟨uF⟩ (localB sc x)
   | .Attribute o x _=>@RecF.e R m ⟨@kH1 P R m x e S E⟩ E H o
   | t=>False
 | op=>False
noncomputable def raiseC (c:Str):List Expr→List Keyword→Prop
 | [e],[]=>@optN _ ⟨fun _=>@optI _ ⟨fun _=>E.default .val H⟩ (z29 (zac P sc m c))⟩ (strC e)
 | _,_=>False
noncomputable def z96:Expr→Prop
 | .Name c _=>@optI _ ⟨fun _=>E.default .stop H⟩ (zrz (zac P sc m c))
 | .Call f es ks _=>match f with
   | .Name c _=>raiseC P sc m H c es ks
   | _=>False
 | _=>False
noncomputable def raiseE (c:Option Expr):Option Expr→Prop
 | some e=>match c with
   | none=>z96 P sc m H e
   | some _=>False
 | none=>False
noncomputable def stepX:Stmt→Prop
 | .Expr e _=>@ifS ⟨uF⟩ ⟨@uE R m H e ⟨@kX m S⟩ E⟩ (zb5 e)
 | .Pass _=>S.default (.next,m) H
 | .Break _=>S.default (.brk,m) H
 | .Continue _=>S.default (.cont,m) H
 | .Return e p=>match e with
   | some e=>@RecF.e R m ⟨@kR m S⟩ E H e
   | none=>False
 | .Assign ts e p=>assE P sc R m H e p ts
 | .AugAssign t op e p=>augE P sc R m H e p op t
 | .If t a b _=>@RecF.t R m ⟨@kIf R m a b S E⟩ E H t
 | .While t b r p=>match r with
   | []=>WpI (whl P d sc m t b) H
   | r=>False
 | .For t it b r p=>match r with
   | []=>@ifS ⟨uF⟩ ⟨@uE R m H it ⟨@kF1 P d sc m t b S E⟩ E⟩ (zzh it)
   | r=>False
 | .Raise e c _=>raiseE P sc m H c e
 | _=>False
noncomputable def z92:List Stmt→Prop
 | []=>S.default (.next,m) H
 | s::r=>@RecF.x R m ⟨@flX R S E r⟩ E H s
end
noncomputable def step:RecF:=fun k=>k (fun m e H [_] [_]=>stepE P d sc R m H e) (fun m e H [_] [_]=>z95 R m H e) (fun m e H [_] [_]=>stepO R m H e) (fun m e H [_] [_]=>stepT R m H e) (fun m e H [_] [_]=>z94 R m H e) (fun m e H [_] [_]=>z93 R m H e) (fun m e H [_] [_]=>stepX P d sc R m H e) (fun m e H [_] [_]=>z92 R m H e)
noncomputable def RF (n:Nat):RecF:=Nat.rec RF0 (fun _ ih=>step P d sc ih) n
end
section
variable {B:Base} {A:Around} {env:Env} {fl:List Env} {s s1:Shared} {ρ ρ1:List Cell} {H H1:Hp} {d:Nat} {sc:Scope} {m:Lo}
theorem Cx.units (C:Cx B A env fl s ρ H d sc m):A.units + 10 < cLine:=by
 exact Nat.lt_of_le_of_lt (Nat.add_le_add (Nat.le_add_right A.units (40 * d)) (by decide:10≤100)) C.room.units
theorem zkn {x:Str} {k:NameKind} (h:kd sc x = some k):(x == Str.ofString "__debug__") = false∧sc.names.lookup x = some k:=by
 unfold kd at h
 split at h
 ·cases h
 ·rename_i q
  exact ⟨by simpa using q,h⟩
theorem zoe (O:OkK B) {x:Str} {v:V} (h:zac B sc m x = some v) (hs:env.scope = sc) (ok:EnvOk env) (si:SI B ρ H s) (lr:LR B ρ env m s.heap) {Q:Value→Shared→Prop} {E:Value→Shared→Prop} (hq:∀ w,VR ρ v w→Q w s):wpAny (model B.prog B.w) A (loadName env x) Q E s:=by
 have hkind:=ok.kind
 obtain ⟨rm,ns,hv⟩:=lr.ns
 rcases zqz h with ⟨q,h⟩ | ⟨q,h⟩ | ⟨q,h⟩
 ·obtain ⟨_,q⟩:=zkn q
  rw [← hs] at q
  rcases hv x v h with ⟨_,v',hr,rel⟩ | ⟨b,_⟩
  ·exact wpAny_loadName_local hkind q ns hr (hq _ rel)
  ·rw [q] at b; cases b
 ·obtain ⟨_,q⟩:=zkn q
  rw [← hs] at q
  rcases hv x v h with ⟨b,_⟩ | ⟨_,ca,o,v',hl,ho,hd,rel,_⟩
  ·rw [q] at b; cases b
  ·exact wpAny_loadName_cell hkind q hl ⟨o,ho,hd⟩ (hq _ rel)
 ·obtain ⟨_,q⟩:=zkn q
  rw [← hs] at q
  have T:=O.top
  have TG:=T.keeps si.keep
  refine ks_loadName_global hkind q ?_
  have h:=O.glob _ _ h
  unfold zu4 at h
  rcases hn:nsIn B.K mainGlobals x with _ | (_ | w) <;> rw [hn] at h
  rotate_left 2
  ·exact loadGlobal_global (show s.heap.Ns env.globals B.mg from ok.globals ▸ TG.g) (mg_of O.kin T.g hn) (hq _ (zkd h))
  rotate_right
  ·rcases ite_some h with ⟨_,h⟩ | ⟨hnm,h⟩
   ·cases h
   ·obtain ⟨w,hw,h⟩:=Option.bind_eq_some_iff.mp h
    exact loadGlobal_builtin (show s.heap.Ns env.globals B.mg from ok.globals ▸ TG.g) (mg_none_of O.kin T.g hn) (show s.heap.Ns env.builtins B.mb from ok.builtins ▸ TG.b) ((T.builtins x hnm).trans hw) (hq _ (zkd h))
  ·cases h
theorem zhy (O:OkK B) {x:Str} {v:V} (h:zac B sc m x = some v) (C:Cx B A env fl s ρ H d sc m) {Q:Value→Shared→Prop} {E:Value→Shared→Prop} (hq:∀ w,VR ρ v w→Q w s):wpAny (model B.prog B.w) A (loadName env x) Q E s:=
 zoe O h C.sc C.ok C.si C.lr hq
theorem zed {P:Prg} {x:Str} {v:V} (h:zac P sc m x = some v):(x == Str.ofString "__debug__") = false:=by
 rcases zqz h with ⟨q,_⟩ | ⟨q,_⟩ | ⟨q,_⟩ <;> exact (zkn q).1
theorem zj0 (slice:Expr) (o i:Value):∃ ops,subscripted slice false o i = operate ops (getItem o i):=by
 cases slice with
 | Slice lo hi st p=>cases st <;> exact ⟨_,rfl⟩
 | _=>exact ⟨_,rfl⟩
theorem z8q (value slice:Expr) (pos:Pos):eval (.Subscript value slice pos) env = (do
  let o ← eval value env
  let i ← holding [o] (eval slice env)
  standAt pos
  subscriptTail value slice o i):=eval_Subscript ..
theorem zjk {value slice:Expr} {pos:Pos} {Q:Value→Shared→Prop} {E:Value→Shared→Prop} (h:wpAny (model B.prog B.w) A (eval value env) (fun o s1=>wpAny (model B.prog B.w) A (eval slice env) (fun i s2=>SubAt B A s2 o i Q E) E s1) E s):
  wpAny (model B.prog B.w) A (eval (.Subscript value slice pos) env) Q E s:=by
 rw [z8q]
 refine wpAny_bind (wpAny_mono h (fun o s1 h1=>wpAny_bind (wpAny_holding (wpAny_mono h1 (fun i s2 h2=>wpAny_bind (wpAny_standAt ?_)) fun _ _ e=>e))) fun _ _ e=>e)
 obtain ⟨ops,e⟩:=zj0 slice o i
 exact h2.tail e
theorem SubAt.mono {x y:Value} {Q Q':Value→Shared→Prop} {E E':Value→Shared→Prop} (h:SubAt B A s x y Q E) (hq:∀ v s',Q v s'→Q' v s') (he:∀ v s',E v s'→E' v s'):SubAt B A s x y Q' E':=
 let ⟨T,id,a,b,c⟩:=h
 ⟨T,id,a,b,wpAny_mono c hq he⟩
theorem zl1 (h:Heap) (l u st:Value):(h.push { cls:=.type "slice",data:=.fields #[l,u,st] }).IsSliceOf h.objs.size l u st:=⟨_,Heap.get?_push_size _ rfl,rfl,rfl⟩
theorem zb8 {o:Expr} {x:Str} {whole:Sem Value} (h:zbm o = true):attributeBase o x env whole = whole:=by
 cases o with
 | Call f es ks p=>
   cases f with
   | Name id q=>cases es with
     | nil=>cases ks with
       | nil=>cases h
       | cons=>rfl
     | cons=>rfl
   | _=>rfl
 | _=>rfl
theorem zxv {o:Expr} {x:Str} {pos:Pos} {Q:Value→Shared→Prop} {E:Value→Shared→Prop} (hp:zbm o = true) (h:wpAny (model B.prog B.w) A (eval o env) (fun v s1=>wpAny (model B.prog B.w) A (getAttr v x true) Q E s1) E s):
  wpAny (model B.prog B.w) A (eval (.Attribute o x pos) env) Q E s:=by
 rw [arm_eval_Attribute,zb8 hp]
 exact wpAny_bind (wpAny_mono h (fun v s1 h1=>wpAny_bind (wpAny_standAt (wpAny_bind (wpAny_holding (wpAny_mono h1 (fun r s2 h2=>wpAny_bind (wpAny_letTemporaryGo (wpAny_pure h2))) fun _ _ e=>e))))) fun _ _ e=>e)
theorem FRs.get {p:Params} {x:Str}:∀ {fs:List (Str×V)} {es:List DictEntry},FRs p ρ fs es→(lk fs x = none→getL x es = some none)∧∀ v,lk fs x = some v→∃ w,getL x es = some (some w)∧VR ρ v w:=by
 have norefs:∀ {fs:List (Str×V)} {es:List DictEntry},FRs p ρ fs es→(es.any (·.refKey)) = false:=by
  intro fs
  induction fs with
  | nil=>intro es h; cases es with | nil=>rfl | cons=>exact h.elim
  | cons f r ih=>intro es h; cases es with
    | nil=>exact h.elim
    | cons e t=>
      obtain ⟨⟨⟨t',hk⟩,_⟩,hr⟩:=h
      rw [List.any_cons,ih hr,Bool.or_false]
      unfold DictEntry.refKey
      rw [hk]
 intro fs
 induction fs with
 | nil=>intro es h; cases es with
   | nil=>exact ⟨fun _=>rfl,fun v h=>by cases h⟩
   | cons=>exact h.elim
 | cons f r ih=>intro es h; cases es with
   | nil=>exact h.elim
   | cons e t=>
     have hn:=norefs h
     obtain ⟨⟨⟨t',hk⟩,_,hv⟩,hr⟩:=h
     have ih:=ih hr
     have hs:e.key.isStr x = (f.1 == x):=by rw [hk]; rfl
     unfold getL
     rw [lk_c,List.find?_cons,hs]
     by_cases q:f.1 = x
     ·have:(f.1 == x) = true:=beq_iff_eq.mpr q
      rw [if_pos q,this]
      exact ⟨fun h=>(by cases h),fun v h=>(by cases h; exact ⟨_,rfl,hv⟩)⟩
     ·have:(f.1 == x) = false:=beq_eq_false_iff_ne.mpr q
      rw [if_neg q,this]
      have hn':=norefs hr
      unfold getL at ih
      rw [hn'] at ih
      rw [hn]
      exact ih
theorem SI.inst (I:SI B ρ H s) {n:Nat} {C:Addr} {fs:List (Str×V)} {c:Cell} (hc:ρ[n]? = some c) (hx:H[n]? = some (.inst C fs)):
  ∃ es k,W.InstAt s.heap c.1 (instObj C c.2) C (some (dictOf es k))∧FRs B.w.params ρ fs es∧s.heap.get? c.2 = some (dictOf es k):=by
 obtain ⟨d,hd,g,es,k,g2,r⟩:=I.cell hx
 rw [hc] at hd; cases hd
 exact ⟨es,k,⟨g,rfl,rfl,g2⟩,r,g2⟩
theorem z3p {v:V} {w:Value} (h:VR ρ v w) (e:zi1 v = true):handedIn w = true:=by
 cases v with
 | none=>cases h; rfl
 | bool=>cases h; rfl
 | int=>obtain ⟨t,rfl⟩:=h; rfl
 | str=>obtain ⟨_,t,rfl⟩:=h; rfl
 | obj=>obtain ⟨c,_,rfl⟩:=h; rfl
 | top x=>
   obtain ⟨rfl,⟨_,rfl⟩ | ⟨_,rfl⟩ | ⟨_,rfl⟩⟩:=h
   ·rfl
   ·rfl
   ·cases e
theorem KIn (O:OkK B) (I:SI B ρ H s):B.K.In s.heap:=fun a o h=>I.keep a o (O.kin a o h)
theorem zmj (O:OkK B) (Oa:OkA B) {v w:V} {x:Str} {u:Value} {expr:Bool} {E:Value→Shared→Prop} (I:SI B ρ H s) (h:VR ρ v u) (e:attrM B H v x = some w):wpAny (model B.prog B.w) A (getAttr u x expr) (za8 VR B ρ s (w,H)) E s:=by
 obtain ⟨n,c,hc,rfl,e⟩:=zex h e
 obtain ⟨C,fs,hx,e⟩:=zdh e
 obtain ⟨hd,e⟩:=zaf e
 obtain ⟨v,hv,e⟩:=Option.bind_eq_some_iff.mp e
 obtain ⟨hh,e⟩:=zaf e
 cases e
 obtain ⟨es,k,IA,r,_⟩:=I.inst hc hx
 obtain ⟨a1,a2,a3,_⟩:=Oa.datt _ _ hd
 obtain ⟨w',hw,rel⟩:=r.get.2 _ hv
 exact get_value (KIn O I) IA (plainGet_of a1).1 (findObj_own a2 a3 rfl hw) (z3p rel hh) (zag I rel)
theorem zzp (O:OkK B) (Oa:OkA B) {v:V} {x:Str} {f:Addr} {u:Value} {pl:Sem Bool} {Q:Value×List Value→Shared→Prop} {E:Value→Shared→Prop} (I:SI B ρ H s) (h:VR ρ v u) (e:methM B H v x = some f) (hq:Q (.ref f,[u]) s):
  wpAny (model B.prog B.w) A (getMethod u x pl) Q E s:=by
 obtain ⟨n,c,hc,rfl,e⟩:=zex h e
 obtain ⟨C,fs,hx,e⟩:=zdh e
 obtain ⟨hd,e⟩:=zaf e
 obtain ⟨es,k,IA,r,_⟩:=I.inst hc hx
 obtain ⟨a1,a2,a3,_⟩:=Oa.meth _ _ _ e
 have hl:=r.get.1 (Option.isNone_iff_eq_none.mp hd)
 exact method_fn (KIn O I) IA (plainGet_of a1).1 (plainGet_of a1).2 a2 (beq_iff_eq.mp a3) (by show (lookIn x (dictOf es k)).map _ = _; rw [lookIn_dict,hl]; rfl) hq
theorem zls {v:V} {w:Value} (h:VR ρ v w) (e:zi1 v = true):handedOut w = pure w:=handedOut_of (z3p h e)
theorem zcj {e:Expr} {es:List Expr} (h:zdi (e::es) = true):starEach (e::es) env = (false,eval e env)::starEach es env∧zdi es = true:=by
 unfold zdi at h
 rw [List.all_cons,Bool.and_eq_true] at h
 refine ⟨?_,h.2⟩
 cases e <;> first | rfl | (exact absurd h.1 Bool.false_ne_true)
theorem zbx {pos:Pos}:∀ {es:List Expr},zdi es = true→(backTo pos (starEach es env)).any (·.1) = false
 | [],_=>rfl
 | e::es,h=>by
   rw [(zcj (env:=env) h).1]
   show (false || (backTo pos (starEach es env)).any (·.1)) = false
   rw [zbx (zcj (env:=env) h).2]; rfl
theorem zht {pos:Pos}:∀ {es:List Expr},zdi es = true→(backTo pos (starEach es env)).all (fun x=>!x.1) = true
 | [],_=>rfl
 | e::es,h=>by
   rw [(zcj (env:=env) h).1]
   show (true && (backTo pos (starEach es env)).all (fun x=>!x.1)) = true
   rw [zht (zcj (env:=env) h).2]; rfl
theorem zha {M:Model} {fv:Value} {kws:List (Option Str×Sem Value)} {Q:Args→Shared→Prop} {E:Value→Shared→Prop} (hall:kws.all (·.1.isSome) = true)
  (h:wpAny M A (spliced []) (fun vs s₁=>wpAny M A (evalAll (kws.map (·.2))) (fun ks s₂=>Q ⟨vs,(kws.filterMap (·.1)).zip ks⟩ s₂) E s₁) E s):wpAny M A (evalArgs fv true [] kws) Q E s:=by
 unfold evalArgs
 show wpAny M A (spliced [] >>= _) Q E s
 refine wpAny_bind (wpAny_mono h (fun vs s₁ h₁=>?_) fun _ _ x=>x)
 refine wpAny_bind (wpAny_pure ?_)
 refine wpAny_holding ?_
 simp only [hall,if_true]
 refine wpAny_bind (wpAny_mono h₁ (fun ks s₂ h₂=>?_) fun _ _ x=>x)
 exact wpAny_bind (wpAny_pure (wpAny_pure h₂))
theorem zb7 {M:Model} {fv:Value} {pos:Pos} {es:List Expr} {Q:Args→Shared→Prop} {E:Value→Shared→Prop} (hn:zdi es = true) (h:wpAny M A (spliced (backTo pos (starEach es env))) (fun vs s1=>Q ⟨vs,[]⟩ s1) E s):
  wpAny M A (evalArgs fv true (backTo pos (starEach es env)) []) Q E s:=by
 cases es with
 | nil=>
   exact zha rfl (wpAny_mono h (fun vs s1 q=>wpAny_evalAll_nil q) fun _ _ q=>q)
 | cons e es=>
   rw [(zcj hn).1] at h ⊢
   exact evalArgs_kw rfl (wpAny_mono h (fun vs s1 q=>wpAny_evalAll_nil q) fun _ _ q=>q)
theorem zr7 {M:Model} {fv:Value} {pos:Pos} {es:List Expr} {n:Str} {e:Expr} {kp:Pos} {Q:Args→Shared→Prop} {E:Value→Shared→Prop} (hn:zdi es = true)
  (h:wpAny M A (spliced (backTo pos (starEach es env))) (fun vs s1=>wpAny M A (eval e env) (fun k s2=>Q ⟨vs,[(n,k)]⟩ s2) E s1) E s):
  wpAny M A (evalArgs fv true (backTo pos (starEach es env)) (backToKw pos (keywordEach [⟨some n,e,kp⟩] env))) Q E s:=by
 have key:∀ vs s1,wpAny M A (eval e env) (fun k s2=>Q ⟨vs,[(n,k)]⟩ s2) E s1→wpAny M A (evalAll ((backToKw pos (keywordEach [⟨some n,e,kp⟩] env)).map (·.2))) (fun ks s₂=>Q ⟨vs,((backToKw pos (keywordEach [⟨some n,e,kp⟩] env)).filterMap (·.1)).zip ks⟩ s₂) E s1:=
  fun vs s1 h=>wpAny_evalAll_cons (wpAny_bind (wpAny_mono h (fun k s2 q=>wpAny_bind (wpAny_standAt (wpAny_pure (wpAny_evalAll_nil q)))) fun _ _ q=>q))
 cases es with
 | nil=>
   exact zha rfl (wpAny_mono h (fun vs s1 q=>key _ _ q) fun _ _ q=>q)
 | cons e' es=>
   rw [(zcj hn).1] at h ⊢
   exact evalArgs_kw rfl (wpAny_mono h (fun vs s1 q=>key _ _ q) fun _ _ q=>q)
theorem z2w {M:Model} {K:Frag} {P:Prg} {v:V} {w:Value} (hk:∀ a,P.keeps a = true→keepIn K (.ref a) = true) (h:VR ρ v w) (e:okF P v = true) (h:Heap) (X:K.In h):∃ k,(k = Keeper.frame∨k = Keeper.machine∨k = Keeper.boundFrame)∧Looks M h (keeperOf w) k:=by
 cases v with
 | top f=>
   obtain ⟨rfl,_⟩:=h
   cases w with
   | ref a=>exact keeps_K (hk _ e) _ X
   | builtin n=>exact ⟨.machine,.inr (.inl rfl),.now⟩
   | type n=>exact ⟨.machine,.inr (.inl rfl),.now⟩
   | _=>cases e
 | _=>cases e
theorem zno {o:Expr} {apos pos:Pos} {es:List Expr} (h:okM o apos pos es = true):zbm o = true∧(apos.endLine == pos.line) = true∧es.length < 30∧zdi es = true:=by
 have b3:∀ a b c d:Bool,(bif a then (bif b then (bif c then d else false) else false) else false) = true→a = true∧b = true∧c = true∧d = true:=by decide
 obtain ⟨h1,h2,h3,h4⟩:=b3 _ _ _ _ h
 exact ⟨h3,h1,Nat.lt_succ_of_le (Nat.le_of_sub_eq_zero (beq_iff_eq.mp h2)),h4⟩
theorem zhi {o:Expr} {x:Str} {apos pos:Pos} {es:List Expr} {Q:Value→Shared→Prop} {E:Value→Shared→Prop} (hm:okM o apos pos es = true)
  (h:wpAny (model B.prog B.w) A (eval o env) (fun ov s1=>∃ p,(∀ (pl:Sem Bool) Q',Q' p s1→wpAny (model B.prog B.w) A (getMethod ov x pl) Q' E s1)∧wpAny (model B.prog B.w) A (callWith pos p.1 p.2 (backTo pos (starEach es env)) []) Q E s1) E s):
  wpAny (model B.prog B.w) A (eval (.Call (.Attribute o x apos) es [] pos) env) Q E s:=by
 obtain ⟨h1,h2,h3,h4⟩:=zno hm
 rw [arm_eval_Call,zb8 h1]
 refine wpAny_bind (wpAny_mono h (fun ov s1 h=>wpAny_bind (wpAny_standAt ?_)) fun _ _ e=>e)
 obtain ⟨p,hg,hc⟩:=h
 unfold methodCall
 have few:methodCallForm (es.length + ([]:List Keyword).length) (backTo pos (starEach es env)) (backToKw pos (keywordEach [] env)) = true:=by
  unfold methodCallForm
  rw [zht h4]
  show (true && true && decide (es.length + 0 + _ < 30)) = true
  exact decide_eq_true h3
 rw [few]
 refine wpAny_bind (wpAny_holding (hg _ _ ?_))
 refine wpAny_bind ?_
 unfold methodCallPos
 rw [h2]
 exact wpAny_pure hc
end
structure SX (R:RecF) (X:Ct):Prop where
 e:∀ {Q:Kt V} {E:Kt EK} {H:Hp} {e:Expr},@RecF.e R X.m Q E H e→evX X e H Q.default E.default
 es:∀ {Q:Kt (List V)} {E:Kt EK} {H:Hp} {es:List Expr},@RecF.es R X.m Q E H es→evsX X es H Q.default E.default
 o:∀ {Q:Kt V} {E:Kt EK} {H:Hp} {e:Option Expr},@RecF.o R X.m Q E H e→evoX X e H Q.default E.default
 t:∀ {Q:Kt Bool} {E:Kt EK} {H:Hp} {e:Expr},@RecF.t R X.m Q E H e→trX X e H Q.default E.default
 ta:∀ {Q:Kt Bool} {E:Kt EK} {H:Hp} {es:List Expr},@RecF.ta R X.m Q E H es→trsX X .And es H Q.default E.default
 to:∀ {Q:Kt Bool} {E:Kt EK} {H:Hp} {es:List Expr},@RecF.to R X.m Q E H es→trsX X .Or es H Q.default E.default
section
variable {R:RecF} {X:Ct} {H:Hp} {Q:Kt V} {E:Kt EK} {T:Kt Bool} {L:Kt (List V)} {pos:Pos}
theorem z80 {c:Const} {k:Nat} (h:@optN _ ⟨@kAt H Q⟩ (zky c)):evX X (.Constant c k pos) H Q.default E.default:=fun N=>by
 obtain ⟨v,e,q⟩:=zbu h
 cases c with
 | none=>cases e; exact N.leaf (Pre.refl _) q (wpAny_Constant_none (zag (k:=_) N.cx.si rfl))
 | bool b=>cases e; exact N.leaf (Pre.refl _) q (wpAny_Constant_bool (zag (k:=_) N.cx.si rfl))
 | int i=>cases e; exact N.leaf (Pre.refl _) q (wpAny_Constant_int (zag N.cx.si ⟨_,rfl⟩))
 | str s=>
   obtain ⟨hl,e⟩:=zaf (show strV s = some v from e)
   cases e; exact N.leaf (Pre.refl _) q (wpAny_Constant_str (zag N.cx.si ⟨hl,_,rfl⟩))
 | _=>cases e
theorem name_ok (O:OkK X.B) {x:Str} (h:@optN _ ⟨@kAt H Q⟩ (zac X.B X.sc X.m x)):evX X (.Name x pos) H Q.default E.default:=fun N=>
 let ⟨_,e,q⟩:=zbu h
 N.leaf (Pre.refl _) q (wpAny_Name (zhy O e N.cx fun _ r=>zag (k:=_) N.cx.si r) (zed e))
theorem evo_ok (S:SX R X) {e:Option Expr} (h:@stepO R X.m H Q E e):evoX X e H Q.default E.default:=fun N=>by
 cases e with
 | none=>exact wpAny_pure ⟨V.none,_,_,rfl,Pre.refl _,N,h⟩
 | some e=>exact S.e h N
variable (S:SX R X)
include S
theorem z9e {l r:Expr} {op:Operator} (h:@RecF.e R X.m ⟨@kN1 R X.m op r Q E⟩ E H l):evX X (.BinOp l op r pos) H Q.default E.default:=fun N=>
 wpAny_BinOp (GP.bind (S.e h N) fun ra p1 N h=>GP.bind (S.e (Q:=⟨_⟩) h N) fun rb p N h=>let ⟨_,e,q⟩:=zav h; N.leaf (p1.trans p) q (binM_ok N.cx.si (ra.mono p) rb e))
theorem unop_ok {x:Expr} {op:UnaryOp} (h:@RecF.e R X.m ⟨@kU op Q⟩ E H x):evX X (.UnaryOp op x pos) H Q.default E.default:=fun N=>
 wpAny_UnaryOp (GP.bind (S.e h N) fun ra p N h=>let ⟨_,e,q⟩:=zbu h; N.leaf p q (unM_ok N.cx.si ra e))
theorem and_ok {a b:Expr} (h:@RecF.e R X.m ⟨@kA1 R X.m b Q E⟩ E H a):evX X (.BoolOp .And [a,b] pos) H Q.default E.default:=fun N=>
 wpAny_And2 (GP.bind (S.e h N) fun ra p N h=>by
  obtain ⟨t,e,h⟩:=zbu h
  refine N.calm (zi6 N.cx.si ra e) fun q p2 N=>?_
  cases q
  have h:=zh2 h
  cases t
  ·exact ⟨_,_,_,ra.mono p2,p.trans p2,N,h⟩
  ·exact wpre (p.trans p2) (S.e (Q:=Q) (E:=E) (e:=b) h N))
theorem or_ok {a b:Expr} (h:@RecF.e R X.m ⟨@kO1 R X.m b Q E⟩ E H a):evX X (.BoolOp .Or [a,b] pos) H Q.default E.default:=fun N=>
 wpAny_Or2 (GP.bind (S.e h N) fun ra p N h=>by
  obtain ⟨t,e,h⟩:=zbu h
  refine N.calm (zi6 N.cx.si ra e) fun q p2 N=>?_
  cases q
  have h:=zh2 h
  cases t
  ·exact wpre (p.trans p2) (S.e (Q:=Q) (E:=E) (e:=b) h N)
  ·exact ⟨_,_,_,ra.mono p2,p.trans p2,N,h⟩)
theorem z7z {t a b:Expr} (h:@RecF.t R X.m ⟨@kI1 R X.m a b Q E⟩ E H t):evX X (.IfExp t a b pos) H Q.default E.default:=fun N=>
 wpAny_IfExp (GP.bind (S.t h N) fun {x _ _ _ _} rx p N h=>by
  cases rx
  have h:=zh2 h
  cases x
  ·exact wpre p (S.e (Q:=Q) (E:=E) (e:=b) h N)
  ·exact wpre p (S.e (Q:=Q) (E:=E) (e:=a) h N))
theorem list_ok {es:List Expr} (h:@RecF.es R X.m ⟨@kLs Q⟩ E H es):evX X (.List es pos) H Q.default E.default:=fun N=>
 wpAny_List (GP.bind (S.es h pos N) fun {xs _ _ s2 _} ra p N h=>by
  rcases zoo h with ⟨e,q⟩ | ⟨_,q⟩
  ·have hl:=of_decide_eq_true e
   have hz:=ra.len
   refine ⟨by have:=fitsz (Nat.le_of_lt hl); lia,?_⟩
   obtain ⟨ρ',r,i,x⟩:=zdy (k:=s2.toks) N.cx.si (fun b o e=>Heap.get?_push_of_some _ e) (Heap.get?_push_size _ rfl) ra (Nat.le_of_lt hl)
   exact ⟨_,_,ρ',r,p.trans x.p,N.next i x N.cx.toks,q⟩
  ·exact q.elim)
theorem z5y {es:List Expr} {k:Nat} (h:@RecF.es R X.m ⟨@kTp Q⟩ E H es):evX X (.Tuple es k pos) H Q.default E.default:=fun N=>
 wpAny_Tuple (GP.bind (S.es h pos N) fun {xs _ _ s2 _} ra p N h=>by
  rcases zoo h with ⟨e,q⟩ | ⟨_,q⟩
  ·have hl:=of_decide_eq_true e
   have hz:=ra.len
   refine ⟨by have:=fitsz (Nat.le_of_lt hl); lia,?_⟩
   obtain ⟨ρ',r,i,x⟩:=z60 (k:=s2.toks) N.cx.si (fun b o e=>Heap.get?_push_of_some _ e) (Heap.get?_push_size _ rfl) ra (Nat.le_of_lt hl)
   exact ⟨_,_,ρ',r,p.trans x.p,N.next i x N.cx.toks,q⟩
  ·exact q.elim)
theorem zzw {l r:Expr} {op:CmpOp} (h:@ifS ⟨uF⟩ ⟨@uE R X.m H l ⟨@kM1 R X.m op r Q E⟩ E⟩ (behindInMarks op r)):evX X (.Compare l [op] [r] pos) H Q.default E.default:=fun N=>by
 rcases zb6 h with ⟨_,h⟩ | ⟨hm,h⟩
 ·exact h.elim
 exact wpAny_Compare1 (GP.bind (S.e (Q:=⟨_⟩) h N) fun ra p1 N h=>GP.bind (S.e (Q:=⟨_⟩) h N) fun rb p N h=>let ⟨_,e,q⟩:=zbu h; N.calm (cmp_ok N.cx.si N.cx.units (ra.mono p) rb e) fun r p2 N=>⟨_,_,_,by cases r; rfl,(p1.trans p).trans p2,N,q⟩) hm
theorem evs_ok {es:List Expr} (h:@z95 R X.m H L E es):evsX X es H L.default E.default:=fun pos N=>by
 cases es with
 | nil=>exact wpAny_items_nil ⟨[],_,_,trivial,Pre.refl _,N,h⟩
 | cons e es=>
   have h:(match zke e with | true=>@RecF.e R X.m ⟨@kE1 R X.m es L E⟩ E H e | false=>False):=h
   have he:starEach (e::es) X.env = (false,eval e X.env)::starEach es X.env:=by cases e <;> first | rfl | exact h.elim
   have h:@RecF.e R X.m ⟨@kE1 R X.m es L E⟩ E H e:=by cases q:zke e <;> rw [q] at h; exact h.elim; exact h
   exact wpAny_items_cons (GP.bind (S.e h N) fun {x _ _ _ _} ra p1 N h=>GP.bind (S.es (Q:=⟨_⟩) h pos N) fun {xs _ _ _ _} rb p N h=>⟨x::xs,_,_,⟨ra.mono p,rb⟩,p1.trans p,N,h⟩) he
theorem z0x {x:Expr} {whole:Sem Value} (h:@RecF.t R X.m ⟨@kNot T⟩ E H x) {s1 ρ1} (N:Nx X s1 ρ1 H):wpAny X.M X.A (isTrue (.UnaryOp .Not x pos) X.env whole) (GP RB X ρ1 T.default) (GE X E.default) s1:=
 wpAny_isTrue_Not (GP.bind (S.t h N) fun ra p N h=>⟨_,_,_,by cases ra; rfl,p,N,h⟩)
theorem z0y {l r:Expr} {op:CmpOp} {whole:Sem Value} (h:@ifS ⟨uF⟩ ⟨@uE R X.m H l ⟨@kW1 R X.m op r T E⟩ E⟩ (behindInMarks op r)) {s1 ρ1} (N:Nx X s1 ρ1 H):
  wpAny X.M X.A (isTrue (.Compare l [op] [r] pos) X.env whole) (GP RB X ρ1 T.default) (GE X E.default) s1:=by
 rcases zb6 h with ⟨_,h⟩ | ⟨hm,h⟩
 ·exact h.elim
 exact wpAny_isTrue_Compare1 (GP.bind (S.e (Q:=⟨_⟩) h N) fun ra p1 N h=>GP.bind (S.e (Q:=⟨_⟩) h N) fun rb p N h=>let ⟨_,e,q⟩:=zbu h; N.calm (cmp_ok N.cx.si N.cx.units (ra.mono p) rb e) fun r p2 N=>by cases r; exact wpAny_truthy_bool ⟨_,_,_,rfl,(p1.trans p).trans p2,N,q⟩) hm
theorem zp7 {e:Expr} (he:isTrue e X.env (eval e X.env) = (do let v ← eval e X.env; standAt e.pos; holding [v] (truthy v))) (h:@RecF.e R X.m ⟨@kV T⟩ E H e):trX X e H T.default E.default:=fun N=>
 wpAny_isTrue_value (GP.bind (S.e h N) fun ra p N h=>let ⟨_,e,q⟩:=zbu h; N.leaf p q (zi6 N.cx.si ra e)) he
omit S in
theorem zdk (op:BoolOp) (x:Expr) (rest:List Expr) (env:Env):allTrue op (x::rest) env = (do
  match op,← isTrue x env (eval x env) with
  | .And,false=>pure false
  | .Or,true=>pure true
  | _,_=>allTrue op rest env):=rfl
theorem zx9 {es:List Expr} (h:@z94 R X.m H T E es):trsX X .And es H T.default E.default:=fun N=>by
 cases es with
 | nil=>exact wpAny_pure ⟨_,_,_,rfl,Pre.refl _,N,h⟩
 | cons e es=>
   rw [zdk]
   refine wpAny_bind (GP.bind (S.t h N) fun {x _ _ _ _} ra p N h=>?_)
   cases ra
   have h:=zh2 h
   cases x
   ·exact wpAny_pure ⟨_,_,_,rfl,p,N,h⟩
   ·exact wpre p (S.ta (Q:=T) (E:=E) (es:=es) h N)
theorem z0w {es:List Expr} (h:@z93 R X.m H T E es):trsX X .Or es H T.default E.default:=fun N=>by
 cases es with
 | nil=>exact wpAny_pure ⟨_,_,_,rfl,Pre.refl _,N,h⟩
 | cons e es=>
   rw [zdk]
   refine wpAny_bind (GP.bind (S.t h N) fun {x _ _ _ _} ra p N h=>?_)
   cases ra
   have h:=zh2 h
   cases x
   ·exact wpre p (S.to (Q:=T) (E:=E) (es:=es) h N)
   ·exact wpAny_pure ⟨_,_,_,rfl,p,N,h⟩
theorem sub_ok' (O:OkK X.B) {o i:Expr} (h:@RecF.e R X.m ⟨@kB1 X.B R X.m i Q E⟩ E H o):evX X (.Subscript o i pos) H Q.default E.default:=fun N=>
 zjk (GP.bind (S.e h N) fun ra p1 N h=>GP.bind (S.e (Q:=⟨_⟩) h N) fun rb p N h=>by
  obtain ⟨_,e,q⟩:=zav h
  obtain ⟨T,id,a,b,c⟩:=sub_ok (E:=fun _ _=>False) O.kin N.cx.si (ra.mono p) rb e
  exact ⟨T,id,a,b,N.leaf (p1.trans p) q c⟩)
theorem cut_ok' {o:Expr} {lo hi:Option Expr} {p:Pos} (h:@RecF.e R X.m ⟨@kS1 R X.m lo hi Q E⟩ E H o):evX X (.Subscript o (.Slice lo hi none p) pos) H Q.default E.default:=fun N=>
 zjk (GP.bind (S.e h N) fun rv p0 N h=>wpAny_Slice (GP.bind (S.o (Q:=⟨_⟩) h N) fun {_ _ vl _ _} ra p1 N h=>GP.bind (S.o (Q:=⟨_⟩) h N) fun {_ _ vu _ _} rb p2 N h=>wpAny_evalPart_none (by
  obtain ⟨_,e,q⟩:=zav h
  have N':=N.push { cls:=.type "slice",data:=.fields #[vl,vu,.none] }
  obtain ⟨T,id,a,b,c⟩:=cut_ok (E:=fun _ _=>False) N'.cx.si ((rv.mono p1).mono p2) (ra.mono p2) rb (zl1 ..) e
  exact ⟨T,id,a,b,N'.leaf ((p0.trans p1).trans p2) q c⟩)))
theorem z54 {o lo st:Expr} {p:Pos} (h:@RecF.e R X.m ⟨@kT1 R X.m lo st Q E⟩ E H o):evX X (.Subscript o (.Slice (some lo) none (some st) p) pos) H Q.default E.default:=fun N=>
 zjk (GP.bind (S.e h N) fun rv p0 N h=>wpAny_Slice (wpAny_evalPart_some (GP.bind (S.e (Q:=⟨_⟩) h N) fun {_ _ vl _ _} ra p1 N h=>wpAny_evalPart_none (wpAny_evalPart_some (GP.bind (S.e (Q:=⟨_⟩) h N) fun {_ _ vt _ _} rb p2 N h=>by
  obtain ⟨_,e,q⟩:=zav h
  have N':=N.push { cls:=.type "slice",data:=.fields #[vl,.none,vt] }
  obtain ⟨T,id,a,b,c⟩:=step_ok (E:=fun _ _=>False) N'.cx.si ((rv.mono p1).mono p2) (ra.mono p2) rb (zl1 ..) e
  exact ⟨T,id,a,b,N'.leaf ((p0.trans p1).trans p2) q c⟩)))))
end
section
variable {R:RecF} {X:Ct} {H:Hp} {Q:Kt V} {E:Kt EK} {pos:Pos}
theorem prop_ok (O:Ok X.B) {x:Str} {v:V} {fa:Addr} {u:Value} {expr:Bool} {s1:Shared} {ρ1:List Cell} {E':EK→Hp→Prop} (N:Nx X s1 ρ1 H) (hv:VR ρ1 v u) (e:propM X.B H v x = some fa)
  (h:@WpI _ ⟨@zzf Q⟩ ⟨kNo⟩ (call X.B X.d (.top (.ref fa)) [v] [] []) H):wpAny X.M X.A (getAttr u x expr) (CP VR X.B ρ1 s1 Q.default) (CE X.B ρ1 X.fl s1 E') s1:=by
 obtain ⟨n,rfl,e⟩:=zue e
 obtain ⟨C,fs,hx,e⟩:=zdh e
 obtain ⟨c,hc',rfl⟩:=hv
 ·· obtain ⟨es,k,IA,_,_⟩:=N.cx.si.inst hc' hx
    obtain ⟨a1,a2,pp,rest,a3,a4,a5,a6⟩:=O.a.prop _ _ _ e
    have K:=KIn O.k N.cx.si
    obtain ⟨i1,x1⟩:=N.cx.si.same (s':={ s1 with toks:=s1.toks + 1 }) (fun _ _ e=>e) rfl rfl
    have R:=(h O (A:=X.A.in1) (us:=[]) (vs:=[.ref c.1]) (gv:=.ref fa) N.cx.fr N.cx.room.call1 i1 (N.cx.ff.ext x1) ⟨rfl,.inl ⟨_,rfl⟩⟩ ⟨⟨c,hc',rfl⟩,trivial⟩ trivial rfl (Nat.le_add_left ..)).2 _ rfl
    refine get_bind K IA (plainGet_of a1).1 (findObj_data (by obtain ⟨cd,hc,_⟩:=any_some a2; rw [hc]; rfl) a3 a4 a5) (plainGet_of a1).2 (wpAny_call (prop_get (s:={ s1 with toks:=s1.toks + 1 }) K a6 (codeAny_mono R fun q s' z=>?_)))
    match q,z with
    | .ok (.ret y),z=>
      obtain ⟨_,_,_,rel,i,x,q⟩:=z
      rcases zoo q with ⟨hh,q⟩ | ⟨_,q⟩
      ·show wpAny _ _ (handedOut y) _ _ _
       rw [zls rel hh]
       exact wpAny_pure ⟨_,_,_,rel,i,x1.then i1 x,q⟩
      ·exact q.elim
    | .error e,z=>cases z with | mk _ _ _ q=>exact q.elim
    | .ok .next,z=>exact z.elim
    | .ok .brk,z=>exact z.elim
    | .ok .cont,z=>exact z.elim
variable (S:SX R X)
include S
theorem attr_ok (O:Ok X.B) {o:Expr} {x:Str} (h:@ifS ⟨@uE R X.m H o ⟨@kAF X.B X.d x Q⟩ E⟩ ⟨uF⟩ (zbm o)):evX X (.Attribute o x pos) H Q.default E.default:=fun N=>by
 rcases zb6 h with ⟨hp,h⟩ | ⟨_,h⟩
 ·refine zxv hp (GP.bind (S.e (Q:=⟨_⟩) h N) fun {a H1 _ _ _} ra p N h=>?_)
  have h:@z4x X.B X.d Q x a H1 (propM X.B H1 a x):=@kAF.out _ _ _ Q _ _ h
  cases hq:propM X.B H1 a x with
  | some fa=>rw [hq] at h; exact N.call p (prop_ok O N ra hq h)
  | none=>
    rw [hq] at h
    obtain ⟨_,e,q⟩:=zav h
    exact N.leaf p q (zmj O.k O.a N.cx.si ra e)
 ·exact h.elim
omit S in
theorem zmn {P:Prg} {d:Nat} {f:Value} {as:List V} (hf:∀ a,f≠.ref a) (h:@optI _ ⟨@zd5 Q⟩ (zd7 H f as)):call P d (.top f) as [] [] H Q.default E.default:=fun O A fl s ρ gv vs us _ R I _ hg rv _ _ _=>by
 obtain ⟨rfl,_⟩:=hg
 obtain ⟨w,e,q⟩:=zav h
 exact ⟨wpAny_mono (zsk (E:=fun _ _=>False) R.handled I rv e) (fun _ _ ⟨_,r,i,x⟩=>⟨_,_,_,r,i,x,q⟩) fun _ _ z=>z.elim,fun a e=>absurd e (hf a)⟩
omit S in
theorem kC2_ok {P:Prg} {d:Nat} {fv:V} {vs:List V} (h:@kC2 P d fv Q E vs H):call P d fv vs [] [] H Q.default E.default:=by
 cases fv with
 | top f=>
   cases f with
   | ref a=>exact h
   | type n=>
     have h:(if n = "list" then @WpI _ Q E (call P d (.top (.type "list")) vs [] []) H else @optI _ ⟨@zd5 Q⟩ (zd7 H (.type n) vs)):=h
     by_cases e:n = "list"
     ·rw [if_pos e] at h; rw [e]; exact h
     ·rw [if_neg e] at h; exact zmn (fun a e=>by cases e) h
   | _=>exact zmn (fun a e=>by cases e) h
 | _=>exact h.elim
theorem z88 (O:Ok X.B) {x:Str} {np:Pos} {es:List Expr} (h:@optN _ ⟨@kC1 X.B X.d R X.m H es Q E⟩ (zac X.B X.sc X.m x)):evX X (.Call (.Name x np) es [] pos) H Q.default E.default:=fun N=>by
 obtain ⟨fv,e,h⟩:=zbu h
 rcases zb6 h with ⟨hn,h⟩ | ⟨_,h⟩
 ·rw [Bool.and_eq_true] at hn
  refine wpAny_Call_Name_kw (wpAny_Name (zhy O.k e N.cx fun w q=>?_) (zed e))
  refine callWith_of (P:=fun h=>X.B.K.In h) (by show ((backTo pos (starEach es X.env)).any (·.1) || false) = false; rw [zbx hn.1]; rfl) (z2w O.a.keeps q hn.2) (zb7 hn.1 (GP.bind (S.es (Q:=⟨_⟩) h pos N) fun rv p N h=>?_))
  have h:=kC2_ok h O (us:=[]) N.cx.fr N.cx.room.call N.cx.si N.cx.ff (q.mono p) rv trivial rfl N.cx.toks
  exact ⟨KIn O.k N.cx.si,N.call p h.1⟩
 ·exact h.elim
theorem z89 (O:Ok X.B) {x n:Str} {e':Expr} {np kp:Pos} {es:List Expr} (h:@optN _ ⟨@kK1 X.B X.d R X.m H es n e' Q E⟩ (zac X.B X.sc X.m x)):evX X (.Call (.Name x np) es [⟨some n,e',kp⟩] pos) H Q.default E.default:=fun N=>by
 obtain ⟨fv,e,h⟩:=zbu h
 rcases zb6 h with ⟨hn,h⟩ | ⟨_,h⟩
 ·rw [Bool.and_eq_true] at hn
  refine wpAny_Call_Name_kw (wpAny_Name (zhy O.k e N.cx fun w q=>?_) (zed e))
  refine callWith_of (P:=fun h=>X.B.K.In h) (by show ((backTo pos (starEach es X.env)).any (·.1) || false) = false; rw [zbx hn.1]; rfl) (z2w O.a.keeps q hn.2) (zr7 hn.1 (GP.bind (S.es (Q:=⟨_⟩) h pos N) fun rv p N h=>GP.bind (S.e (Q:=⟨_⟩) h N) fun {_ _ kw _ _} rk p2 N h=>?_))
  have h:=h O (us:=[kw]) N.cx.fr N.cx.room.call N.cx.si N.cx.ff ((q.mono p).mono p2) (rv.mono p2) ⟨rk,trivial⟩ rfl N.cx.toks
  exact ⟨KIn O.k N.cx.si,N.call (p.trans p2) h.1⟩
 ·exact h.elim
omit S in
theorem zy3 {P:Prg} {v:V} {x:Str} {f:Addr} (h:methM P H v x = some f):∃ C,P.meth C x = some f:=by
 obtain ⟨n,rfl,h⟩:=zue h
 obtain ⟨C,fs,_,h⟩:=zdh h
 exact ⟨C,(zaf h).2⟩
theorem zo0 (O:Ok X.B) {o:Expr} {x:Str} {apos:Pos} {es:List Expr} (h:@z7c X.B X.d R X.m H Q E o x apos pos es):evX X (.Call (.Attribute o x apos) es [] pos) H Q.default E.default:=fun N=>by
 rcases zb6 h with ⟨hn,h⟩ | ⟨_,h⟩
 ·have hst:=(zno hn).2.2.2
  refine zhi hn (GP.bind (S.e (Q:=⟨_⟩) h N) fun {ov H1 u _ _} rv p N h=>?_)
  have h:@z2f X.B X.d R X.m Q E x es ov H1 (methM X.B H1 ov x):=h
  cases hq:methM X.B H1 ov x with
  | some fa=>
    rw [hq] at h
    refine ⟨(.ref fa,[u]),fun pl Q' q=>zzp O.k O.a N.cx.si rv hq q,?_⟩
    obtain ⟨_,hx⟩:=zy3 hq
    refine callWith_of (P:=fun h=>X.B.K.In h) (by show ((backTo pos (starEach es X.env)).any (·.1) || false) = false; rw [zbx hst]; rfl) (keeps_K (O.a.meth _ _ _ hx).2.2.2) (zb7 hst (GP.bind (S.es (Q:=⟨_⟩) h pos N) fun {_ _ ws _ _} rvs p2 N h=>?_))
    have h:=h O (vs:=u::ws) (us:=[]) N.cx.fr N.cx.room.call N.cx.si N.cx.ff ⟨rfl,.inl ⟨_,rfl⟩⟩ ⟨rv.mono p2,rvs⟩ trivial rfl N.cx.toks
    exact ⟨KIn O.k N.cx.si,N.call (p.trans p2) h.1⟩
  | none=>
    rw [hq] at h
    obtain ⟨id,hid,h⟩:=zbu h
    refine ⟨(.builtin id,[u]),fun pl Q' q=>zro N.cx.si rv hid q,?_⟩
    refine Calls.callWith_builtin (zbx hst) (zb7 hst (GP.bind (S.es (Q:=⟨_⟩) h pos N) fun {vs _ ws _ _} rvs p2 N h=>?_))
    obtain ⟨w,e,q⟩:=zav h
    exact N.leaf (a:=w.1) (H2:=w.2) (p.trans p2) q (zfc N.cx.si (as:=ov::vs) (ws:=u::ws) ⟨rv.mono p2,rvs⟩ e)
 ·exact h.elim
theorem z6g {o:Expr} {x a b:Str} {k1 k2:Nat} {p1 p2 apos:Pos} (h:@ifS ⟨@uE R X.m H o ⟨@z7q a b Q⟩ E⟩ ⟨uF⟩ (decide (x = "replace") && okM o apos pos [])):
  evX X (.Call (.Attribute o x apos) [.Constant (.str a) k1 p1,.Constant (.str b) k2 p2] [] pos) H Q.default E.default:=fun N=>by
 rcases zb6 h with ⟨hx,k⟩ | ⟨_,h⟩
 ·rw [Bool.and_eq_true,decide_eq_true_eq] at hx
  obtain ⟨rfl,hm⟩:=hx
  obtain ⟨m1,m2,_,_⟩:=zno hm
  refine zhi (by unfold okM; rw [m1,m2]; rfl) (GP.bind (S.e (Q:=⟨_⟩) k N) fun {ov _ _ s2 _} rv p N h=>?_)
  obtain ⟨w,e,q⟩:=zav h
  cases ov with
  | str l=>
    obtain ⟨hl,t,rfl⟩:=rv
    refine ⟨(.builtin "str.replace",[.str ⟨l.toArray⟩ t]),fun pl Q' q=>GM.replace q,?_⟩
    refine Calls.callWith_builtin rfl (zb7 rfl (wpAny_items_cons (wpAny_Constant_str (wpAny_items_cons (wpAny_Constant_str (wpAny_items_nil ?_))))))
    have ht:=N.cx.toks
    have N':=N.same (s2:={ s2 with toks:=s2.toks + 1 + 1 }) (fun _ _ e=>e) rfl rfl (Nat.le_add_left ..)
    exact N'.leaf p q (repl_ok (x:=.none) (c:=0) N'.cx.si (show (s2.toks:Nat)≠0 by lia) (show (s2.toks + 1:Nat)≠0 by lia) (show (s2.toks:Nat)≠s2.toks + 1 by lia) hl e)
  | _=>cases e
 ·exact h.elim
end
section
variable {B:Base} {A:Around} {env:Env} {fl outer:List Env} {s s1 s2:Shared} {ρ ρ1 ρ2:List Cell} {H H1 H2 H0:Hp} {d:Nat} {sc:Scope} {m m0 m1 m2:Lo} {E:Value→Shared→Prop}
theorem LR.store {x:Str} {v:V} {w:Value} {h h':Heap} {rm:Str→Option Value} (L:LR B ρ env m h) (hv:VR ρ v w) (hk:env.scope.names.lookup x = some .local) (hr:h.Ns env.locals rm)
  (hn:h'.Ns env.locals fun y=>if y = x then some w else rm y) (hs:Heap.SameBut env.locals h h')
  (hold:∀ x v,m x = some v→(env.scope.names.lookup x = some .local∧∃ v',rm x = some v'∧VR ρ v v')∨
   (env.scope.names.lookup x = some .cell∧∃ ca o v',env.cells.lookup x = some ca∧h.get? ca = some o∧o.data = .cell (some v')∧VR ρ v v'∧Off ρ ca)):
  LR B ρ env (upd m x v) h':=by
 refine ⟨⟨_,hn,fun y u hy=>?_⟩,L.old,L.off⟩
 unfold upd at hy
 by_cases e:y = x
 ·rw [if_pos e] at hy
  cases hy
  subst e
  exact .inl ⟨hk,w,if_pos rfl,hv⟩
 ·rw [if_neg e] at hy
  rcases hold y u hy with ⟨a,v',b,c⟩ | ⟨a,ca,o,v',b,c,d,f,g⟩
  ·exact .inl ⟨a,v',(if_neg e).trans b,c⟩
  ·refine .inr ⟨a,ca,o,v',b,?_,d,f,g⟩
   rw [hs.2 ca (fun q=>?_)]
   ·exact c
   ·obtain ⟨o2,es,ep,ho2,hd2,_⟩:=hr
    rw [q,ho2] at c
    cases c
    rw [hd2] at d; cases d
theorem SI.locals {L:Addr} {h':Heap} {k:Nat} (I:SI B ρ H s) (hold:B.h₀.get? L = none) (off:Off ρ L) (hs:Heap.SameBut L s.heap h'):SI B ρ H { s with heap:=h',toks:=k }:=by
 have k1:∀ c∈ρ,(∀ o,s.heap.get? c.1 = some o→h'.get? c.1 = some o)∧∀ o,s.heap.get? c.2 = some o→h'.get? c.2 = some o:=
  fun c hc=>⟨fun o h=>(hs.2 _ (fun q=>(off c hc).1 q.symm)).trans h,fun o h=>(hs.2 _ (fun q=>(off c hc).2 q.symm)).trans h⟩
 exact ⟨fun b o h=>(hs.2 b (fun q=>by rw [q,hold] at h; cases h)).trans (I.keep b o h),
  ⟨I.hr.len,fun i c o h1 h2=>(I.hr.obj i c o h1 h2).mono (Pre.refl _) (k1 c (List.mem_of_getElem? h1)).1 (k1 c (List.mem_of_getElem? h1)).2,I.hr.apart⟩,I.fresh⟩
theorem zwg {x:Str} {v:V} {w:Value} {K:Unit→Shared→Prop} (hsc:env.scope = sc) (ok:EnvOk env) (hx:localB sc x = true) (I:SI B ρ H s) (L:LR B ρ env m s.heap) (hv:VR ρ v w)
  (hk:∀ h',SI B ρ H { s with heap:=h',toks:=s.toks + 1 }→LR B ρ env (upd m x v) h'→Heap.SameBut env.locals s.heap h'→(∃ o,h'.get? env.locals = some o∧∃ es ep,o.data = .dict es ep)→K () { s with heap:=h',toks:=s.toks + 1 }):
  wpAny (model B.prog B.w) A (storeName env x w) K E s:=by
 obtain ⟨rm,hn,hold⟩:=L.ns
 have hl:env.scope.names.lookup x = some .local:=by
  rw [hsc]; exact (zkn (zmb hx)).2
 refine wpAny_storeName_local hl hn (fun h' hn' hs=>?_) (by rw [ok.kind]; rfl)
 refine hk h' (I.locals L.old L.off hs) (L.store hv hl hn hn' hs hold) hs ?_
 obtain ⟨o,es,ep,ho,hd,_⟩:=hn'
 exact ⟨o,ho,es,ep,hd⟩
theorem z4p {x:Str} {v:V} {w:Value} {K:Unit→Shared→Prop} (hsc:env.scope = sc) (ok:EnvOk env) (hx:localB sc x = true) (I:SI B ρ H s) (L:LR B ρ env m s.heap) (hv:VR ρ v w)
  (hk:∀ h',SI B ρ H { s with heap:=h',toks:=s.toks + 1 }→LR B ρ env (upd m x v) h'→Heap.SameBut env.locals s.heap h'→(∃ o,h'.get? env.locals = some o∧∃ es ep,o.data = .dict es ep)→K () { s with heap:=h',toks:=s.toks + 1 }):
  wpAny (model B.prog B.w) A (bindName env x w) K E s:=by
 unfold bindName
 refine wpAny_bind (wpAny_holding (wpAny_point (wpAny_bind (zwg hsc ok hx I L hv fun h' a b c e=>wpAny_point (hk h' a b c e)))))
theorem SI.offNone {b:Addr} (I:SI B ρ H s) (h:s.heap.get? b = none):Off ρ b:=fun d hd=>by
 obtain ⟨⟨o1,h1⟩,⟨o2,h2⟩⟩:=I.hr.live hd
 exact ⟨fun e=>(by rw [← e,h] at h1; cases h1),fun e=>(by rw [← e,h] at h2; cases h2)⟩
theorem SI.oldNone {b:Addr} (I:SI B ρ H s) (h:s.heap.get? b = none):B.h₀.get? b = none:=by
 cases q:B.h₀.get? b with
 | none=>rfl
 | some o=>have:=I.keep _ _ q; rw [h] at this; cases this
structure Stored (B:Base) (env:Env) (ρ:List Cell) (H:Hp) (m':Lo) (s s':Shared):Prop where
 si:SI B ρ H s'
 lr:LR B ρ env m' s'.heap
 keep:∀ b o,b≠env.locals→s.heap.get? b = some o→s'.heap.get? b = some o
 dict:∃ o,s'.heap.get? env.locals = some o∧∃ es ep,o.data = .dict es ep
 gens:s'.gens = s.gens
 os:s'.os = s.os
 toks:s.toks≤s'.toks
theorem Stored.trans {m':Lo} (x:Stored B env ρ H m s s1) (y:Stored B env ρ H m' s1 s2):Stored B env ρ H m' s s2:=
 ⟨y.si,y.lr,fun b o n h=>y.keep b o n (x.keep b o n h),y.dict,y.gens.trans x.gens,y.os.trans x.os,Nat.le_trans x.toks y.toks⟩
theorem Stored.refl (I:SI B ρ H s) (L:LR B ρ env m s.heap):Stored B env ρ H m s s:=by
 refine ⟨I,L,fun _ _ _ h=>h,?_,rfl,rfl,Nat.le_refl _⟩
 obtain ⟨rm,⟨o,es,ep,ho,hd,_⟩,_⟩:=L.ns
 exact ⟨o,ho,es,ep,hd⟩
theorem z67 (hsc:env.scope = sc) (ok:EnvOk env) {m':Lo} {K:Unit→Shared→Prop} {es:List Expr}:∀ {xs:List Str} {vs:List V} {ws:List Value} {m:Lo} {s:Shared},names? es = some xs→(∀ x∈xs,localB sc x = true)→zfd m xs vs = some m'→VRs ρ vs ws→
  SI B ρ H s→LR B ρ env m s.heap→(∀ s',Stored B env ρ H m' s s'→K () s')→wpAny (model B.prog B.w) A (assignInOrder ((assignEach es env).map (·.2)) ws) K E s:=by
 induction es with
 | nil=>
   intro xs vs ws m s hx hl hb hv I L hk
   cases hx
   cases vs with
   | nil=>cases hb; exact wpAny_pure (hk s (Stored.refl I L))
   | cons=>cases hb
 | cons e es ih=>
   intro xs vs ws m s hx hl hb hv I L hk
   cases e with
   | Name x p=>
     obtain ⟨ys,hy,rfl⟩:=Option.map_eq_some_iff.mp (show (names? es).map (x::·) = some xs from hx)
     cases vs with
     | nil=>cases hb
     | cons v vs=>
       cases ws with
       | nil=>exact hv.elim
       | cons w ws=>
         refine wpAny_bind (wpAny_holding ?_)
         show wpAny _ _ (assign (.Name x p) env w) _ _ _
         rw [PySem.assign_Name]
         exact wpAny_bind (wpAny_standAt (z4p hsc ok (hl x (.head _)) I L hv.1 fun h' I' L' hs hd=>
          ih hy (fun y h=>hl y (.tail _ h)) hb hv.2 I' L' fun s' S'=>hk s' (Stored.trans ⟨I',L',fun b o n h=>(hs.2 b n).trans h,hd,rfl,rfl,Nat.le_succ _⟩ S')))
   | _=>cases hx
theorem zlz {es:List Expr}:∀ {xs:List Str},names? es = some xs→(assignEach es env).length = xs.length∧(assignEach es env).findIdx? (·.1) = none:=by
 induction es with
 | nil=>intro xs h; cases h; exact ⟨rfl,rfl⟩
 | cons e es ih=>
   intro xs h
   cases e with
   | Name x p=>
     obtain ⟨ys,hy,rfl⟩:=Option.map_eq_some_iff.mp (show (names? es).map (x::·) = some xs from h)
     obtain ⟨a,b⟩:=ih hy
     have e1:assignEach (.Name x p::es) env = (false,assign (.Name x p) env)::assignEach es env:=rfl
     rw [e1]
     refine ⟨congrArg (· + 1) a,?_⟩
     rw [List.findIdx?_cons,b]; rfl
   | _=>cases h
theorem zhg {t:Expr} {v:V} {w:Value} {m':Lo} {K:Unit→Shared→Prop} (hh:A.handled = none) (hsc:env.scope = sc) (ok:EnvOk env) (I:SI B ρ H s) (L:LR B ρ env m s.heap) (hv:VR ρ v w) (e:assignM sc m H t v = some m')
  (hk:∀ s',Stored B env ρ H m' s s'→K () s'):wpAny (model B.prog B.w) A (assign t env w) K E s:=by
 cases t with
 | Name x p=>
   obtain ⟨hx,e⟩:=zaf (show (if _ then _ else _) = some m' from e)
   cases e
   rw [PySem.assign_Name]
   exact wpAny_bind (wpAny_standAt (z4p hsc ok hx I L hv fun h' I' L' hs hd=>hk _ ⟨I',L',fun b o n h=>(hs.2 b n).trans h,hd,rfl,rfl,Nat.le_succ _⟩))
 | Tuple es k p=>
   obtain ⟨xs,hx,e⟩:=Option.bind_eq_some_iff.mp (show (names? es).bind _ = some m' from e)
   obtain ⟨hl,e⟩:=zaf e
   obtain ⟨n,c,hc,rfl,e⟩:=zex hv e
   obtain ⟨vs,hn,R,e⟩:=za3 I hc e
   obtain ⟨hlen,e⟩:=zaf e
   obtain ⟨ws,Li,rv,_⟩:=R.isList
   obtain ⟨a1,a2⟩:=zlz (env:=env) hx
   show wpAny _ _ (do standAt p; unpack (.ref c.1) (assignEach es env)) _ _ _
   refine wpAny_bind (wpAny_standAt ?_)
   unfold unpack
   have hz:(assignEach es env).length = (List.toArray ws).size:=by rw [a1,List.size_toArray,← rv.len,hlen]
   rw [hz,a2]
   refine wpAny_bind (wpAny_holding (kun_itemsOf hh Li fun h' hx'=>?_))
   have hk':∀ b o,s.heap.get? b = some o→h'.get? b = some o:=fun b o q=>hx' b o (Nat.ne_of_lt (Heap.lt_size q)) q
   obtain ⟨I',X'⟩:=I.same (s':={ s with heap:=h' }) hk' rfl rfl
   refine z67 hsc ok hx (fun x h=>List.all_eq_true.mp hl x h) e rv I' (L.ext X') fun s' S'=>hk s' (Stored.trans ⟨I',L.ext X',fun b o _ h=>hk' b o h,?_,rfl,rfl,Nat.le_refl _⟩ S')
   obtain ⟨rm,⟨o,es,ep,ho,hd,_⟩,_⟩:=(L.ext X').ns
   exact ⟨o,ho,es,ep,hd⟩
 | _=>cases e
end
theorem Sn.stored {Y:Cs} {s1 s2:Shared} {ρ1:List Cell} {H1:Hp} {m1 m2:Lo} (N:Sn Y s1 ρ1 H1 m1) (S:Stored Y.B Y.env ρ1 H1 m2 s1 s2):Sn Y s2 ρ1 H1 m2:=by
 have x:ExtL Y.env.locals ρ1 ρ1 s1 s2:=⟨⟨[],by simp,(fun _ h=>nomatch h)⟩,fun b o h _ n=>⟨o.slots,S.keep b o n h,fun _=>rfl⟩,S.gens,S.os⟩
 have f:FF Y.B ρ1 (Y.env::Y.outer) s2.heap:=fun e he=>by
  obtain ⟨a,L,o,b,c,⟨es,ep,d'⟩,f,g⟩:=N.cx.c.ff e he
  by_cases q:L = Y.env.locals
  ·obtain ⟨o',h1,h2⟩:=S.dict
   exact ⟨a,L,o',b,q ▸ h1,h2,f,g⟩
  ·exact ⟨a,L,o,b,S.keep L o q c,⟨es,ep,d'⟩,f,g⟩
 exact ⟨N.cx.next S.si S.lr f (Nat.le_trans N.cx.c.toks S.toks),N.ext.then N.cx.c.si N.cx.alive x,N.ff,N.keep⟩
section
variable {B:Base} {A:Around} {env:Env} {fl outer:List Env} {s s1 s2:Shared} {ρ ρ1 ρ2:List Cell} {H H1 H2 H0:Hp} {d:Nat} {sc:Scope} {m m0 m1 m2:Lo} {E:Value→Shared→Prop}
theorem zrt {M:Model} {base:Heap} {L e:Addr} {oe:Obj} {vs:Array Value} {a0:Value} {Q:Unit→Shared→Prop} (hfr:A.frames = some (env::outer)) (hl:s.heap.FunFrames base (env::outer)) (hf:env.frame = some L)
  (he:s.heap.get? e = some oe) (hkb:base.StaysIn s.heap) (hen:base.get? e = none) (hd:oe.data = .fields vs) (h1:vs[1]? = some .none) (h0:vs[0]? = some a0)
  (h:∀ h',Heap.NotedW base (env::outer) e oe.cls a0 (rawInt L) s.heap h'→Q () { s with heap:=h' }):wpAny M A (noteFrame (.ref e) env) Q E s:=by
 unfold noteFrame
 simp only [hf]
 refine wpAny_bind (wpAny_field he hd h1 ?_)
 rw [if_neg (by simp)]
 exact wpAny_entryW hfr hl hf he hkb hen hd (by have:=(Array.getElem?_eq_some_iff.mp h1).1; exact this) h0 h
theorem FF.fun {base h:Heap}:∀ {l:List Env},(∀ e∈l,e.scope.kind≠.module∧∃ L o,e.frame = some L∧base.get? L = none∧h.get? L = some o∧∃ es ep,o.data = .dict es ep)→h.FunFrames base l
 | [],_=>trivial
 | e::l,F=>by
   obtain ⟨a,L,o,b,c,d,es,ep,q⟩:=F e (.head _)
   exact ⟨a,⟨L,o,b,c,d,fun vs z=>by rw [q] at z; cases z⟩,FF.fun fun e' h'=>F e' (.tail _ h')⟩
theorem zxc (S:Sx B A env outer s ρ H d sc m) {k:EK} {T:String} {h':Heap} {e:Addr} {args:List Value} (hk:k.cls = .type T) (hx:Heap.MadeExc s.heap h' e T args):Here B A ρ env outer s k H (.ref e) { s with heap:=h' }:=by
 obtain ⟨t,he,htn,ht⟩:=hx.there
 have as:∀ L∈(env::outer).filterMap (·.frame),B.h₀.get? L = none∧Off ρ L∧∃ o,s.heap.get? L = some o∧∃ es ep,o.data = .dict es ep:=fun L hL=>by
  obtain ⟨x,hx,e⟩:=List.mem_filterMap.mp hL
  obtain ⟨_,L',o,a1,a2,a3,a4,a5⟩:=S.c.ff x hx
  rw [e] at a1; cases a1
  exact ⟨a4,a5,o,a2,a3⟩
 have hstay:(hideAll s.heap ((env::outer).filterMap (·.frame))).StaysIn h':=fun b o q=>hx.keeps b o (of_hideAll _ q)
 have hnone:(hideAll s.heap ((env::outer).filterMap (·.frame))).get? e = none:=by
  cases q:(hideAll s.heap ((env::outer).filterMap (·.frame))).get? e with
  | none=>rfl
  | some o=>have:=of_hideAll _ q; rw [hx.new] at this; cases this
 have hff:h'.FunFrames (hideAll s.heap ((env::outer).filterMap (·.frame))) (env::outer):=FF.fun (l:=env::outer) fun x hx'=>by
  obtain ⟨a,L,o,b,c,⟨es,ep,q⟩,_,_⟩:=S.c.ff x hx'
  exact ⟨a,L,o,b,hideAll_none _ (List.mem_filterMap.mpr ⟨x,hx',b⟩),hx.keeps _ _ c,es,ep,q⟩
 have own:∀ c∈ρ,c.1 ∉ (env::outer).filterMap (·.frame)∧c.2 ∉ (env::outer).filterMap (·.frame):=fun c hc=>⟨fun q=>((as _ q).2.1 c hc).1 rfl,fun q=>((as _ q).2.1 c hc).2 rfl⟩
 refine ⟨trivial,zrt (s:={ s with heap:=h' }) S.c.fr hff S.own he hstay hnone rfl (a0:=.ref t) rfl rfl fun h2 N=>?_⟩
 obtain ⟨n1,n2,n3,n4⟩:=N
 refine ⟨ρ,hideAll s.heap ((env::outer).filterMap (·.frame)),e,.ref t,env.locals,rfl,S.own,⟨fun b o q=>?_,⟨S.c.si.hr.len,fun i c o h1 h2=>?_,S.c.si.hr.apart⟩,S.c.si.fresh,⟨[],by simp,(fun _ h=>nomatch h)⟩,fun b o q _ n=>?_,fun L o q n=>?_,rfl,rfl⟩,⟨n1,hnone,n2,hk ▸ n3⟩⟩
 ·exact hideAll_get _ (S.c.si.keep b o q) fun n=>by rw [(as b n).1] at q; cases q
 ·have hm:=own c (List.mem_of_getElem? h1)
  exact (S.c.si.hr.obj i c o h1 h2).mono (Pre.refl _) (fun o q=>hideAll_get _ q hm.1) fun o q=>hideAll_get _ q hm.2
 ·exact ⟨o.slots,hideAll_get _ q n,fun _=>rfl⟩
 ·obtain ⟨x,hx',e'⟩:=List.mem_filterMap.mp n
  obtain ⟨_,_,o',q',es,ep,q2⟩:=as L (List.mem_filterMap.mpr ⟨x,.tail _ hx',e'⟩)
  rw [q] at q'; cases q'
  exact n4 L o (hx.keeps _ _ q) fun vs z=>by rw [q2] at z; cases z
theorem osa_own {prog:Program} {w:World} {K:Frag} {C x dx:Addr} {R:Result→Shared→Prop} {od od':Obj} {name:Str} {tk:Tok} {v:Value} {es:List DictEntry} {n:Nat} (X:K.In s.heap)
  (I:W.InstAt s.heap x (instObj C dx) C (some od)) (D:s.heap.get? dx = some od) (hp:plainOver K C = true) (ht:takerIn K C name = some none) (hh:(clsIn K C).any (·.hasDict) = true)
  (hl:(lookIn name od).isSome = true)
  (e:Obj.putName name (PyData.keyHash w.params name) (.str name s.toks) v od = od') (e':od'.data = .dict es.toArray n) (hz:es.length≤1000)
  (h:R (.ok (.ret .none)) { s with heap:=s.heap.update dx (Obj.putName name (PyData.keyHash w.params name) (.str name s.toks) v),toks:=s.toks + 1 }):
  codeAny (model prog w) A (.call (.builtin "object.__setattr__") ⟨[.ref x,.str name tk,v],[]⟩) R s:=by
 refine osa_open X I hp ht fun b=>?_
 obtain ⟨cd,hc,hd'⟩:=any_some hh
 have hf:od'.isFreed = false:=by obtain ⟨_,_,dd,_⟩:=od'; cases e'; rfl
 have D':(s.heap.update dx (Obj.putName name (PyData.keyHash w.params name) (.str name s.toks) v)).get? dx = some od':=by
  rw [Heap.get?_update_self _ D (by rw [e]; exact hf),e]
 obtain ⟨hx,hcl,hn,-⟩:=I
 refine wpAny_bind (wpAny_pure (wpAny_bind (wpAny_bind (wpAny_loadPart hx (wpAny_bind ((looks_clsIn X hc).here ?_))))))
 rw [hd']
 refine wpAny_pure (a:=some dx) (wpAny_bind (wpAny_pure (wpAny_bind ?_)))
 unfold nsSet
 refine wpAny_bind (wpAny_bind (wpAny_askSetting (wpAny_pure (wpAny_bind (wpAny_mkText (wpAny_bind (wpAny_loadPart D ?_)))))))
 unfold lookIn at hl
 split at hl
 ·rename_i es₀ n₀ q
  rw [q]
  dsimp only
  have c:(!es₀.any (·.key.isStr name) && es₀.any (·.refKey)) = false:=by
   rw [← Array.any_toList,← Array.any_toList]
   split at hl
   ·rename_i en he
    rw [List.any_eq_true.mpr ⟨en,List.mem_of_find?_eq_some he,List.find?_some he⟩]; rfl
   ·split at hl
    ·cases hl
    ·rename_i z; rw [Bool.not_eq_true] at z; rw [z,Bool.and_false]
  rw [aRefKeyMayBeTheName_at,c]
  refine wpAny_updatePart D ?_
  refine wpAny_bind (wpAny_lookBehind D' (by rw [e']; exact pastItsLine_dict (by rw [List.size_toArray,sizeLine_eq]; lia)) ?_)
  exact wpAny_pure h
 ·cases hl
theorem FRs.put {p:Params} {x:Str} {v:V} {w:Value} {tk:Tok} (hv:VR ρ v w) {fs:List (Str×V)}:∀ {es:List DictEntry},FRs p ρ fs es→FRs p ρ (put fs x v) (putL x (PyData.keyHash p x) (.str x tk) w es):=by
 induction fs with
 | nil=>intro es h; cases es with | nil=>exact ⟨⟨⟨tk,rfl⟩,rfl,hv⟩,trivial⟩ | cons _ _=>exact False.elim h
 | cons f fs ih=>
   intro es h
   cases es with
   | nil=>exact False.elim h
   | cons e es=>
   have hs:e.key.isStr x = (f.1 == x):=by obtain ⟨⟨⟨t',hk⟩,_⟩,_⟩:=h; rw [hk]; rfl
   unfold putL
   rw [put_c,hs]
   by_cases q:f.1 = x
   ·have:(f.1 == x) = true:=beq_iff_eq.mpr q
    rw [if_pos q,this]
    exact ⟨⟨h.1.1,h.1.2.1,hv⟩,h.2⟩
   ·have:(f.1 == x) = false:=beq_eq_false_iff_ne.mpr q
    rw [if_neg q,this]
    exact ⟨h.1,ih h.2⟩
theorem FRs.length {p:Params} {fs:List (Str×V)}:∀ {es:List DictEntry},FRs p ρ fs es→es.length = fs.length:=by
 induction fs with
 | nil=>intro es h; cases es with | nil=>rfl | cons _ _=>exact False.elim h
 | cons f fs ih=>intro es h; cases es with | nil=>exact False.elim h | cons e es=>exact congrArg (· + 1) (ih h.2)
theorem zwu (x:Str) (k:Int) (a b:Value):∀ es:List DictEntry,(putL x k a b es).length≤es.length + 1
 | []=>by simp [putL]
 | e::es=>by
   unfold putL
   split
   ·simp
   ·have:=zwu x k a b es; simp; lia
theorem zl2 (O:OkK B) (Oa:OkA B) {o v:V} {x:Str} {u w:Value} {H':Hp} (I:SI B ρ H s) (ho:VR ρ o u) (hv:VR ρ v w) (e:zbs B H o x v = some H'):
  wpAny (model B.prog B.w) A (setAttr u x w) (fun _ s'=>SI B ρ H' s'∧Ext ρ ρ s s') E s:=by
 obtain ⟨n,c,hc,rfl,e⟩:=zex ho e
 obtain ⟨C,fs,hx,e⟩:=zdh e
 obtain ⟨hd,e⟩:=zaf e
 ·· · cases e
      rw [Bool.and_eq_true,decide_eq_true_eq] at hd
      obtain ⟨es,k,IA,r,D⟩:=I.inst hc hx
      obtain ⟨a1,a2,a3,a4,a5,a6⟩:=Oa.datt _ _ hd.1
      have K:=KIn O I
      have hl:(getL x es).isSome = true:=by
       cases q:lk fs x with
       | none=>rw [r.get.1 q]; rfl
       | some v=>obtain ⟨w,hw,_⟩:=r.get.2 _ q; rw [hw]; rfl
      have hz:=zwu x (PyData.keyHash B.w.params x) (.str x (s.toks + 1)) w es
      have hlen:=r.length
      refine set_plain K IA a4 (osa_own (s:={ s with toks:=s.toks + 1 }) K IA D a5 a6 a2 hl (putName_dict x _ _ _ es k) rfl (Nat.le_trans hz (by have:=hd.2; lia)) ?_)
      have ne:c.1≠c.2:=fun q=>by
       have h1:=IA.at_
       rw [q,D] at h1
       cases h1
      have D2:(s.heap.update c.2 (Obj.putName x (PyData.keyHash B.w.params x) (.str x (s.toks + 1)) w)).get? c.2 = some (dictOf (putL x (PyData.keyHash B.w.params x) (.str x (s.toks + 1)) w es) (putN x es k)):=by
       rw [Heap.get?_update_self _ D (by rw [putName_dict]; rfl),putName_dict]
      exact I.set (s':={ s with heap:=s.heap.update c.2 (Obj.putName x (PyData.keyHash B.w.params x) (.str x (s.toks + 1)) w),toks:=s.toks + 1 + 1 }) (o:=.inst C (put fs x v)) hc
       (fun b o _ n2 q=>(Heap.get?_update_other _ _ (Ne.symm n2)).trans q) rfl rfl ⟨(Heap.get?_update_other _ _ (Ne.symm ne)).trans IA.at_,_,_,D2,r.put hv⟩
theorem zi7 {e:Expr} {t:Option Expr} {l:Nat} (h:zb5 e = false):swapsWith e t l env = pure false:=by
 cases e <;> first | rfl | cases h
theorem zcy {t e:Expr} {pos:Pos} {Q:Flow→Shared→Prop} (hc:zb5 e = false) (hw:swappedStores [t] e env = pure none) (ha:(assignEach [t] env).map (·.2) = [assign t env])
  (h:wpAny (model B.prog B.w) A (eval e env) (fun v s1=>wpAny (model B.prog B.w) A (assign t env v) (fun _=>Q .next) E s1) E s):wpAny (model B.prog B.w) A (exec (.Assign [t] e pos) env) Q E s:=by
 refine wpAny_Assign_stores (wpAny_mono h (fun v s1 h1=>?_) fun _ _ x=>x) (zi7 hc) hw
 rw [ha]
 exact h1
theorem zmi {a b c:V} {x y:Value} (I:SI B ρ H s) (ha:VR ρ a x) (hb:VR ρ b y) (e:binM .Add a b = some c):wpAny (model B.prog B.w) A (inplaceOp .Add x y) (za8 VR B ρ s (c,H)) E s:=by
 have e:addM a b = some c:=e
 cases a with
 | int i=>
   obtain ⟨t,rfl⟩:=ha
   obtain ⟨j,u,rfl,e⟩:=zb9 hb e
   cases e
   exact AutoIntOps.iadd_0 (zag I ⟨_,rfl⟩)
 | str a=>
   obtain ⟨la,t,rfl⟩:=ha
   obtain ⟨b,u,lb,rfl,e⟩:=zd0 hb e
   obtain ⟨hl,e⟩:=zaf e
   cases e
   refine PyProof.Rows.iadd_str (x:=⟨a.toArray⟩) (y:=⟨b.toArray⟩) (fun t' tk=>?_) (by show a.toArray.size + b.toArray.size≤_; rw [List.size_toArray,List.size_toArray]; exact fitsz hl)
   rw [z03]
   exact zag I ⟨by rw [List.length_append]; exact hl,_,rfl⟩
 | _=>cases e
theorem zw7 {it:Expr} {x:Value} (h:zzh it = false):foldedSetIterable it env x = pure x:=by
 cases it <;> first | rfl | cases h
theorem zya {es:List Expr} {k:Nat} {p:Pos} {e:Expr} (h:z3a e = false):swappedStores [.Tuple es k p] e env = pure none:=by
 cases e <;> first | rfl | cases h
theorem zmg {n:String} {v:V} (h:z3b n v = true):v = .top (.type n):=by
 cases v with
 | top w=>rw [show w = .type n from beq_iff_eq.mp h]
 | _=>cases h
theorem z28 {q:Option V} {u:Unit} (h:z29 q = some u):q = some (.top (.type "ValueError")):=by
 obtain ⟨v,rfl,h⟩:=Option.bind_eq_some_iff.mp h
 obtain ⟨hq,h⟩:=zaf h
 rw [zmg hq]
theorem zzg {q:Option V} {u:Unit} (h:zrz q = some u):q = some (.top (.type "StopIteration")):=by
 obtain ⟨v,rfl,h⟩:=Option.bind_eq_some_iff.mp h
 obtain ⟨hq,h⟩:=zaf h
 rw [zmg hq]
end
structure SY (R:RecF) (Y:Cs):Prop where
 e:∀ m s1 ρ1,SX R (Y.x s1 ρ1 m)
 x:∀ {Q:Kt (Fl×Lo)} {E:Kt EK} {m:Lo} {H:Hp} {st:Stmt},@RecF.x R m Q E H st→exX Y m st H Q.default E.default
 xs:∀ {Q:Kt (Fl×Lo)} {E:Kt EK} {m:Lo} {H:Hp} {ss:List Stmt},@RecF.xs R m Q E H ss→exsX Y m ss H Q.default E.default
section
variable {R:RecF} {Y:Cs} {H:Hp} {m:Lo} {Q:Kt (Fl×Lo)} {E:Kt EK} {pos:Pos} {s1:Shared} {ρ1:List Cell}
theorem zqk (O:Ok Y.B) {x t:Str} {k:Nat} {np p1 cpos:Pos} (h:@optI _ ⟨fun _=>E.default .val H⟩ (z29 (zac Y.B Y.sc m x))):exX Y m (.Raise (some (.Call (.Name x np) [.Constant (.str t) k p1] [] cpos)) none pos) H Q.default E.default:=fun {s1 _} N=>by
 obtain ⟨_,e,q⟩:=zav h
 have hn:=z28 e
 refine wpAny_Raise_call F.excCall_ValueError F.excRaise_ValueError N.cx.c.room.handled rfl (wpAny_Name (zhy O.k hn N.cx.c fun w r=>?_) (zed hn))
 obtain ⟨rfl,_⟩:=r
 refine ⟨rfl,zb7 rfl (wpAny_items_cons (wpAny_Constant_str (wpAny_items_nil ⟨rfl,by show 1≤sizeLine; decide,fun h' e hx=>?_⟩)))⟩
 have i:=N.cx.c.si.same (s':={ s1 with toks:=s1.toks + 1 }) (fun _ _ e=>e) rfl rfl
 have N2:=N.next i.1 i.2 (Nat.le_add_left ..)
 exact N2.raised q (zxc N2.cx rfl hx)
theorem znh (O:Ok Y.B) {x:Str} {np:Pos} (h:@optI _ ⟨fun _=>E.default .stop H⟩ (zrz (zac Y.B Y.sc m x))):exX Y m (.Raise (some (.Name x np)) none pos) H Q.default E.default:=fun N=>by
 obtain ⟨_,e,q⟩:=zav h
 have hn:=zzg e
 refine owsi_raiseC N.cx.c.room.handled (wpAny_Name (zhy O.k hn N.cx.c fun w r=>?_) (zed hn)) fun h' e hx=>N.raised q (zxc N.cx rfl hx)
 obtain ⟨rfl,_⟩:=r
 exact ⟨rfl,rfl⟩
variable (S:SY R Y)
include S
theorem SY.ev (N:Sn Y s1 ρ1 H m) {Q:Kt V} {e:Expr} {K:Value→Shared→Prop} (h:@RecF.e R m Q E H e) (k:∀ {a H2 b s2 ρ2},VR ρ2 a b→Pre ρ1 ρ2→Sn Y s2 ρ2 H2 m→Q.default a H2→K b s2):wpAny Y.M Y.A (eval e Y.env) K (SE Y E.default) s1:=
 N.bind ((S.e m s1 ρ1).e h N.nx) k
theorem expr_ok {e:Expr} (h:@ifS ⟨uF⟩ ⟨@uE R m H e ⟨@kX m Q⟩ E⟩ (zb5 e)):exX Y m (.Expr e pos) H Q.default E.default:=fun N=>by
 rcases zb6 h with ⟨_,h⟩ | ⟨hc,h⟩
 ·exact h.elim
 exact wpAny_Expr_any (S.ev N (Q:=⟨_⟩) h fun _ _ N q=>⟨.next,_,_,_,rfl,N,q⟩) (by unfold interactive; rw [N.cx.c.ok.kind]; rfl) (zi7 hc)
theorem z1c {e:Expr} (h:@RecF.e R m ⟨@kR m Q⟩ E H e):exX Y m (.Return (some e) pos) H Q.default E.default:=fun N=>
 wpAny_Return_some (S.ev N h fun {a _ _ _ _} ra _ N q=>⟨.ret a,_,_,_,⟨_,rfl,ra⟩,N,q⟩)
theorem z0b (O:Ok Y.B) {o e:Expr} {x:Str} {tp:Pos} (h:@ifS ⟨uF⟩ ⟨@uE R m H e ⟨@kA3 Y.B R m o x Q E⟩ E⟩ (zb5 e)):exX Y m (.Assign [.Attribute o x tp] e pos) H Q.default E.default:=fun N=>by
 rcases zb6 h with ⟨_,h⟩ | ⟨hc,h⟩
 ·exact h.elim
 refine zcy hc rfl rfl (S.ev N (Q:=⟨_⟩) h fun {_ _ w _ _} rv _ N h=>?_)
 show wpAny _ _ (do let ov ← holding [w] (eval o Y.env); standAt tp.atName; holding [w,ov] (setAttr ov x w); release [w,ov] []) _ _ _
 refine wpAny_bind (wpAny_holding (S.ev N (Q:=⟨_⟩) h fun ro p N h=>wpAny_bind (wpAny_standAt (wpAny_bind (wpAny_holding ?_)))))
 obtain ⟨_,e',q⟩:=zav h
 exact wpAny_mono (wpAny_toks_of N.cx.c.toks (zl2 (E:=fun _ _=>False) O.k O.a N.cx.c.si ro (rv.mono p) e')) (fun _ s3 z=>wpAny_release ⟨.next,_,_,_,rfl,N.next z.2.1 z.2.2 z.1,q⟩) fun _ _ z=>z.2.elim
theorem zsz {t e:Expr} {Q1:Kt V} (ht:swappedStores [t] e Y.env = pure none) (ha:(assignEach [t] Y.env).map (·.2) = [assign t Y.env]) (hc:zb5 e = false) (h:@RecF.e R m Q1 E H e)
  (hq:∀ v H1,Q1.default v H1→∃ m',assignM Y.sc m H1 t v = some m'∧Q.default (.next,m') H1):exX Y m (.Assign [t] e pos) H Q.default E.default:=fun N=>
 zcy hc ht ha (S.ev N h fun rv _ N h=>let ⟨_,e',q⟩:=hq _ _ h; zhg N.cx.c.room.handled N.cx.c.sc N.cx.c.ok N.cx.c.si N.cx.c.lr rv e' fun _ S'=>⟨.next,_,_,_,rfl,N.stored S',q⟩)
theorem z0a {e:Expr} {x:Str} {p:Pos} (h:@ifS ⟨uF⟩ ⟨@uE R m H e ⟨@kSN Y.sc m x Q⟩ E⟩ (zb5 e)):exX Y m (.Assign [.Name x p] e pos) H Q.default E.default:=by
 rcases zb6 h with ⟨_,h⟩ | ⟨hc,h⟩
 ·exact h.elim
 refine zsz S rfl rfl hc (Q1:=⟨_⟩) h fun v H1 k=>?_
 rcases zb6 k with ⟨hl,k⟩ | ⟨_,k⟩
 ·exact ⟨_,if_pos hl,k⟩
 ·exact k.elim
theorem zz9 {e:Expr} {es:List Expr} {k:Nat} {p:Pos} (h:@ifS ⟨uF⟩ ⟨@uE R m H e ⟨@kT4 Y.sc m es k p Q⟩ E⟩ (z3a e || zb5 e)):exX Y m (.Assign [.Tuple es k p] e pos) H Q.default E.default:=by
 rcases zb6 h with ⟨_,h⟩ | ⟨hc,h⟩
 ·exact h.elim
 rw [Bool.or_eq_false_iff] at hc
 exact zsz S (zya hc.1) rfl hc.2 (Q1:=⟨_⟩) h fun v H1 k=>zav k
theorem augN_ok (O:Ok Y.B) {x:Str} {e:Expr} {p:Pos} (h:@ifS ⟨@uG R m x e H Q E⟩ ⟨uF⟩ (localB Y.sc x)):exX Y m (.AugAssign (.Name x p) .Add e pos) H Q.default E.default:=fun N=>by
 rcases zb6 h with ⟨hx,h⟩ | ⟨_,h⟩
 ·obtain ⟨a,ha,h⟩:=zbu h
  have hn:zac Y.B Y.sc m x = some a:=by
   show zyt _ _ (kd Y.sc x) = _
   rw [zmb hx]; exact ha
  refine wpAny_AugAssign_Name (zhy O.k hn N.cx.c fun w ra=>S.ev N (Q:=⟨_⟩) h fun rb p N h=>?_)
  obtain ⟨c,hc,q⟩:=zav h
  refine N.calm (zmi N.cx.c.si (ra.mono p) rb hc) fun rc _ N=>?_
  exact zwg N.cx.c.sc N.cx.c.ok hx N.cx.c.si N.cx.c.lr rc fun h' I' L' hs hd=>⟨.next,_,_,_,rfl,N.stored ⟨I',L',fun b o n q=>(hs.2 b n).trans q,hd,rfl,rfl,Nat.le_succ _⟩,q⟩
 ·exact h.elim
theorem augA_ok (O:Ok Y.B) {o e:Expr} {x:Str} {p:Pos} (h:@RecF.e R m ⟨@kH1 Y.B R m x e Q E⟩ E H o):exX Y m (.AugAssign (.Attribute o x p) .Add e pos) H Q.default E.default:=fun N=>by
 refine wpAny_AugAssign_AttributeAny (S.ev N h fun {_ _ _ _ _} ro _ N h=>?_)
 obtain ⟨a,ha,h⟩:=zav h
 obtain ⟨_,ha⟩:=zaf ha
 ·refine N.calm (zmj O.k O.a N.cx.c.si ro ha) fun ra p2 N=>?_
  refine S.ev N (Q:=⟨_⟩) h fun rb p3 N h=>?_
  obtain ⟨c,hc,h⟩:=zav h
  obtain ⟨H',e',q⟩:=zav h
  refine N.calm (zmi N.cx.c.si (ra.mono p3) rb hc) fun rc p4 N=>?_
  exact wpAny_mono (wpAny_toks_of N.cx.c.toks (zl2 (E:=fun _ _=>False) O.k O.a N.cx.c.si (((ro.mono p2).mono p3).mono p4) rc e')) (fun _ s3 z=>⟨.next,_,_,_,rfl,N.next z.2.1 z.2.2 z.1,q⟩) fun _ _ z=>z.2.elim
theorem if_ok {t:Expr} {a b:List Stmt} (h:@RecF.t R m ⟨@kIf R m a b Q E⟩ E H t):exX Y m (.If t a b pos) H Q.default E.default:=fun {s1 ρ1} N=>
 wpAny_If (N.bind ((S.e m s1 ρ1).t h N.nx) fun {c _ _ _ _} rc _ N h=>by
  cases rc
  have h:=zh2 h
  cases c
  ·exact S.xs (Q:=Q) (E:=E) (ss:=b) h N
  ·exact S.xs (Q:=Q) (E:=E) (ss:=a) h N)
theorem exs_ok {ss:List Stmt} (h:@z92 R m H Q E ss):exsX Y m ss H Q.default E.default:=fun N=>by
 cases ss with
 | nil=>exact wpAny_execs_nil ⟨.next,_,_,_,rfl,N,h⟩
 | cons st ss=>
   refine wpAny_execs_cons (wpAny_mono (S.x h N) (fun f s2 z=>?_) fun _ _ z=>z)
   obtain ⟨x,m2,H2,ρ2,r,N,q⟩:=z
   cases x with
   | next=>cases r; exact S.xs (Q:=Q) (E:=E) q N
   | brk=>cases r; exact ⟨.brk,_,_,_,rfl,N,q⟩
   | cont=>cases r; exact ⟨.cont,_,_,_,rfl,N,q⟩
   | ret v=>obtain ⟨w,rfl,rv⟩:=r; exact ⟨.ret v,_,_,_,⟨w,rfl,rv⟩,N,q⟩
theorem for_ok (O:Ok Y.B) {t it:Expr} {b:List Stmt} (h:@ifS ⟨uF⟩ ⟨@uE R m H it ⟨@kF1 Y.B Y.d Y.sc m t b Q E⟩ E⟩ (zzh it)):exX Y m (.For t it b [] pos) H Q.default E.default:=fun N=>by
 rcases zb6 h with ⟨_,h⟩ | ⟨hs,h⟩
 ·exact h.elim
 refine wpAny_For (S.ev N (Q:=⟨_⟩) h fun {x H1 u s2 ρ2} rx p N h=>?_) (fun x=>zw7 hs)
 obtain ⟨_,hq,h⟩:=zav h
 obtain ⟨n,rfl,hk⟩:=h
 obtain ⟨c,hc,rfl⟩:=rx
 obtain ⟨xs,hxs,L,_⟩:=za3 N.cx.c.si hc (show onLs _ _ = some _ from hq)
 ·obtain ⟨vs,L,rv,_⟩:=L.isList
  refine wpAny_pyIter_list L ?_
  have q:=N.cx.c.si.same (s':={ s2 with heap:=s2.heap.push { cls:=.type "list_iterator",data:=.fields #[.ref c.1,.int 0 0] } }) (fun b o e=>Heap.get?_push_of_some _ e) rfl rfl
  have x0:ItAt Y.B ρ2 (s2.heap.push { cls:=.type "list_iterator",data:=.fields #[.ref c.1,.int 0 0] }) s2.heap.objs.size c.1 0:=⟨⟨_,Heap.get?_push_size _ rfl,rfl,rfl⟩,N.cx.c.si.offNone (za1 _)⟩
  exact (hk O (N.here.next q.1 q.2 N.cx.c.toks) hc (za1 _) x0).mono (fun _ _ z=>by cases z with | mk _ _ _ _ r N3 q=>exact ⟨_,_,_,_,r,N.re N3,q⟩) fun _ _ z=>N.back z
end
noncomputable def zep (S:Fl×Lo→Hp→Prop) (again:Lo→Hp→Prop):Fl×Lo→Hp→Prop
 | (.ret v,m'),H1=>S (.ret v,m') H1
 | (.brk,m'),H1=>S (.next,m') H1
 | (_,m'),H1=>again m' H1
noncomputable def itW {α:Type} (a:Prop) (f:α→Prop):Option α→Prop
 | none=>a
 | some v=>f v
theorem zg5 {α:Type} (a:Prop) (f:α→Prop) (v:α):itW a f (some v) = f v:=rfl
section
variable {P:Prg} {d:Nat} {sc:Scope} {m:Lo} {H:Hp} {S:Fl×Lo→Hp→Prop} {E:EK→Hp→Prop}
theorem wl_while {t:Expr} {b:List Stmt} (h:@WpI _ ⟨fun c H1=>@ifI ⟨fun _=>@WpI _ ⟨zep S fun m' H2=>@WpI _ ⟨S⟩ ⟨E⟩ (whl P d sc m' t b) H2⟩ ⟨E⟩ (exs P d sc m b) H1⟩ ⟨fun _=>S (.next,m) H1⟩ c⟩ ⟨E⟩ (tr P d sc m t) H):
  @WpI _ ⟨S⟩ ⟨E⟩ (whl P d sc m t b) H:=fun O A env outer s ρ s1 ρ1 N=>by
 refine whl_turn (k:=0) SE.passes (N.bind (h O N.nx) fun {c _ _ _ _} rc _ N q=>?_)
 cases rc
 rcases zoo q with ⟨hc,k⟩ | ⟨hc,k⟩ <;> subst hc
 ·refine WhlIf.yes rfl (wpAny_mono (k O N) (fun f s' z=>?_) fun _ _ z=>z)
  obtain ⟨x,m2,_,_,r,N,q⟩:=z
  cases x with
  | next=>cases r; exact q O N
  | cont=>cases r; exact q O N
  | brk=>cases r; exact ⟨.next,_,_,_,rfl,N,q⟩
  | ret v=>obtain ⟨w,rfl,rv⟩:=r; exact ⟨.ret v,_,_,_,⟨w,rfl,rv⟩,N,q⟩
 ·exact WhlIf.no rfl (wpAny_execs_nil ⟨.next,_,_,_,rfl,N,k⟩)
end
section
variable {B:Base} {A:Around} {env ce:Env} {fl outer:List Env} {s s1 s2:Shared} {ρ ρ1 ρ2:List Cell} {H H1 H2 H0:Hp} {d:Nat} {sc:Scope} {m m0 m1 m2:Lo} {E:Value→Shared→Prop}
theorem z76 {prog:Program} {w:World} {Q:Flow→Shared→Prop} {target:Expr} {it:Value} {body:List Stmt} (hE:PassesOwn (model prog w) A env E)
  (h:wpAny (model prog w) A (pyNext it) (fun r s1=>match r with
   | none=>wpAny (model prog w) A (execs [] env) Q E s1
   | some v=>wpAny (model prog w) A (letOwnedTupleGo target it v) (fun _ s0=>wpAny (model prog w) A (assign target env v) (fun _ s2=>wpAny (model prog w) A (execs body env) (fun f s3=>match f with
     | .next | .cont=>codeAny (model prog w) A (.forLoop target it body [] env) (fun r s'=>match r with | .ok f=>Q f s' | .error e=>cameBackBy (model prog w) A env E e s') s3
     | .brk=>Q .next s3
     | .ret v=>Q (.ret v) s3) E s2) E s0) E s1) E s):
  codeAny (model prog w) A (.forLoop target it body [] env) (fun r s'=>match r with | .ok f=>Q f s' | .error e=>cameBackBy (model prog w) A env E e s') s:=by
 refine codeAny_of_tree ?_
 show wpAny _ A ((forTurn target it body [] env).onRaise (fun x=>do noteFrame x env; theTreesLotGoes x)) _ _ s
 refine wpAny_noted ?_
 simp only [forTurn]
 refine wpAny_bind (wpAny_standAt (wpAny_bind (wpAny_onRaise (wpAny_mono h (fun r s₁ h₁=>?_) fun e s' z=>wpAny_standAt (hE _ _ z)))))
 cases r with
 | none=>exact wpAny_pure ⟨rfl,codeAny_block (wpAny_mono h₁ (fun _ _ z=>z) hE)⟩
 | some v=>
   refine wpAny_bind (wpAny_mono h₁ (fun _ s₂ h₂=>wpAny_bind (wpAny_mono h₂ (fun _ s₃ h₃=>wpAny_bind (wpAny_mono h₃ (fun f s₄ h₄=>?_) hE)) hE)) hE)
   cases f with
   | next=>exact wpAny_pure ⟨rfl,h₄⟩
   | cont=>exact wpAny_pure ⟨rfl,h₄⟩
   | brk=>exact wpAny_pure h₄
   | ret v=>exact wpAny_pure h₄
theorem zkm {M:Model} {target:Expr} {a l:Addr} {i:Nat} {w:Value} {Q:Unit→Shared→Prop} (h:s.heap.IsListIter a l i) (hq:Q () s):wpAny M A (letOwnedTupleGo target (.ref a) w) Q E s:=by
 obtain ⟨o,ho,hc,hd⟩:=h
 have key:∀ c:Addr,wpAny M A (do
   let o ← load a
   match o.cls,o.data with
   | .type n,.fields vs=>
     if ["enumerate", "zip", "dict_itemiterator", "dict_reverseitemiterator", "odict_iterator", "itertools.zip_longest", "itertools.pairwise"].contains n && vs[0]? == some (rawInt c) then
      rule "for.unpacks-the-owned-tuple"
      updateField a 0 .none
   | _,_=>pure ():Sem Unit) Q E s:=fun c=>by
  refine wpAny_bind (wpAny_loadPart ho ?_)
  rw [hc,hd]
  exact wpAny_pure hq
 cases target with
 | Tuple es k p=>cases w with
   | ref c=>exact key c
   | _=>exact wpAny_pure hq
 | List es p=>cases w with
   | ref c=>exact key c
   | _=>exact wpAny_pure hq
 | _=>exact wpAny_pure hq
theorem Sn.iter {Y:Cs} {it l:Addr} {i:Nat} {h':Heap} (N:Sn Y s1 ρ1 H1 m1) (hb:Y.s.heap.get? it = none) (x:ItAt Y.B ρ1 s1.heap it l i) (k:∀ b o,b≠it→s1.heap.get? b = some o→h'.get? b = some o):
  Sn Y { s1 with heap:=h' } ρ1 H1 m1:=by
 have hold:Y.B.h₀.get? it = none:=by
  cases q:Y.B.h₀.get? it with
  | none=>rfl
  | some o=>have:=N.keep _ _ q; rw [hb] at this; cases this
 have si:SI Y.B ρ1 H1 { s1 with heap:=h' }:=⟨fun b o q=>k b o (fun e=>by rw [e,hold] at q; cases q) (N.cx.c.si.keep b o q),
  ⟨N.cx.c.si.hr.len,fun j c o h1 h2=>(N.cx.c.si.hr.obj j c o h1 h2).mono (Pre.refl _) (fun o q=>k _ _ (fun e=>(x.off c (List.mem_of_getElem? h1)).1 e.symm) q) (fun o q=>k _ _ (fun e=>(x.off c (List.mem_of_getElem? h1)).2 e.symm) q),N.cx.c.si.hr.apart⟩,N.cx.c.si.fresh⟩
 have lr:LR Y.B ρ1 Y.env m1 h':=by
  obtain ⟨⟨rm,⟨o,es,ep,ho,hd,r⟩,hv⟩,old,off⟩:=N.cx.c.lr
  refine ⟨⟨rm,⟨o,es,ep,k _ _ (x.ne_dict ho fun vs q=>by rw [hd] at q; cases q) ho,hd,r⟩,fun y v hy=>?_⟩,old,off⟩
  rcases hv y v hy with z | ⟨a,ca,o',v',b,c,d,f,g⟩
  ·exact .inl z
  ·exact .inr ⟨a,ca,o',v',b,k _ _ (x.ne_dict c fun vs q=>by rw [d] at q; cases q) c,d,f,g⟩
 have ff:FF Y.B ρ1 (Y.env::Y.outer) h':=fun e he=>by
  obtain ⟨a,L,o,b,c,⟨es,ep,d⟩,f,g⟩:=N.cx.c.ff e he
  exact ⟨a,L,o,b,k _ _ (x.ne_dict c fun vs q=>by rw [d] at q; cases q) c,⟨es,ep,d⟩,f,g⟩
 exact ⟨N.cx.next si lr ff N.cx.c.toks,⟨N.ext.pre,fun b o q off n=>by
  obtain ⟨sl,h1,h2⟩:=N.ext.keep b o q off n
  exact ⟨sl,k _ _ (fun e=>by rw [e,hb] at q; cases q) h1,h2⟩,N.ext.gens,N.ext.os⟩,N.ff,N.keep⟩
theorem ExtL.it {L it l:Addr} {i:Nat} (x:ExtL L ρ1 ρ2 s1 s2) (h:ItAt B ρ1 s1.heap it l i) (hL:L≠it):ItAt B ρ2 s2.heap it l i:=by
 obtain ⟨⟨o,ho,hc,hd⟩,off⟩:=h
 obtain ⟨sl,h1,h2⟩:=x.keep _ o ho off (Ne.symm hL)
 exact ⟨⟨_,h1,hc,hd⟩,x.off ho off⟩
end
theorem wl_for {P:Prg} {d:Nat} {sc:Scope} {m:Lo} {H:Hp} {S:Fl×Lo→Hp→Prop} {E:EK→Hp→Prop} {t:Expr} {b:List Stmt} {n i:Nat}
  (h:@optI _ ⟨itW (S (.next,m) H) fun v=>@optI _ ⟨fun m'=>@WpI _ ⟨zep S fun m'' H2=>@WpI _ ⟨S⟩ ⟨E⟩ (frl P d sc m'' t b (.obj n) (i + 1)) H2⟩ ⟨E⟩ (exs P d sc m' b) H⟩ (assignM sc m H t v)⟩ (z26 H (.obj n) i)):
  @WpI _ ⟨S⟩ ⟨E⟩ (frl P d sc m t b (.obj n) i) H:=⟨n,rfl,fun O A env outer s ρ s1 ρ1 it c N hc hb x=>by
 obtain ⟨q,hq,h⟩:=zav h
 have hl:∃ xs,H[n]? = some (.list xs)∧q = xs[i]?:=by
  obtain ⟨xs,hxs,e⟩:=znn (show onLs _ _ = some q from hq)
  exact ⟨xs,hxs,(Option.some.inj e).symm⟩
 obtain ⟨xs,hxs,rfl⟩:=hl
 obtain ⟨c',hc',R⟩:=N.cx.c.si.cell hxs
 rw [hc] at hc'; cases hc'
 obtain ⟨vs,L,rv,_⟩:=R.isList
 refine z76 SE.passes ?_
 cases hv:xs[i]? with
 | none=>
   rw [hv] at h
   have hn:(List.toArray vs)[i]? = none:=by
    rw [List.getElem?_toArray,List.getElem?_eq_none_iff]
    rw [List.getElem?_eq_none_iff,rv.len] at hv
    exact hv
   exact wpAny_pyNext_list_end N.cx.c.room.handled x.at_ L hn fun h' he=>wpAny_execs_nil ⟨.next,_,_,_,rfl,N.iter hb x he,h⟩
 | some v=>
   rw [hv] at h
   obtain ⟨m',hm,h⟩:=zav h
   obtain ⟨w,hw,rw'⟩:=rv.get hv
   refine wpAny_pyNext_list_item x.at_ L (by rw [List.getElem?_toArray]; exact hw) fun h' hit hs=>?_
   have N':=N.iter (h':=h') hb x (fun b o n q=>(hs.2 b n).trans q)
   have x':ItAt P ρ1 h' it c.1 (i + 1):=⟨hit,x.off⟩
   refine zkm hit ?_
   refine zhg N'.cx.c.room.handled N'.cx.c.sc N'.cx.c.ok N'.cx.c.si N'.cx.c.lr rw' hm fun s3 S'=>?_
   have hL:env.locals≠it:=by
    obtain ⟨rm,⟨o,es,ep,ho,hd,_⟩,_⟩:=N'.cx.c.lr.ns
    exact x'.ne_dict ho fun vs q=>by rw [hd] at q; cases q
   have N3:=N'.stored S'
   have x3:ItAt P ρ1 s3.heap it c.1 (i + 1):=by
    obtain ⟨o,ho,a,b⟩:=hit
    exact ⟨⟨o,S'.keep _ _ (Ne.symm hL) ho,a,b⟩,x.off⟩
   refine wpAny_mono (h O (s:=s3) (ρ:=ρ1) N3.here) (fun f s4 z=>?_) fun _ _ z=>N3.back z
   obtain ⟨fl,m2,H4,ρ4,r,N4,q⟩:=z
   have xi:=N4.ext.it x3 hL
   have hc4:=N4.ext.p.get hc
   have N4:=N3.re N4
   cases fl with
   | next=>cases r; obtain ⟨_,e,q⟩:=q; cases e; exact q O N4 hc4 hb xi
   | cont=>cases r; obtain ⟨_,e,q⟩:=q; cases e; exact q O N4 hc4 hb xi
   | brk=>cases r; exact ⟨.next,_,_,_,rfl,N4,q⟩
   | ret v=>obtain ⟨w,rfl,rv⟩:=r; exact ⟨.ret v,_,_,_,⟨w,rfl,rv⟩,N4,q⟩⟩
section
variable {B:Base} {A:Around} {env ce:Env} {fl outer:List Env} {s s1 s2:Shared} {ρ ρ1 ρ2:List Cell} {H H1 H2 H0:Hp} {d:Nat} {sc:Scope} {m m0 m1 m2:Lo} {E:Value→Shared→Prop}
noncomputable def NextR (ρ:List Cell) (it:Addr) (x:Src) (i:Nat) (s1:Shared):Option V→Option Value→Shared→Prop
 | none,none,s2=>(∀ b o,b≠it→s1.heap.get? b = some o→s2.heap.get? b = some o)∧s2.gens = s1.gens∧s2.os = s1.os
 | some v,some w,s2=>((∀ b o,b≠it→s1.heap.get? b = some o→s2.heap.get? b = some o)∧s2.gens = s1.gens∧s2.os = s1.os)∧VR ρ v w∧(∃ o,s2.heap.get? it = some o∧ItO ρ x (i + 1) o)∧
   ∀ (t:Expr) (Q:Unit→Shared→Prop) (E:Value→Shared→Prop) (M:Model) (A:Around),Q () s2→wpAny M A (letOwnedTupleGo t (.ref it) w) Q E s2
 | _,_,_=>False
theorem zfw {M:Model} {t:Expr} {it:Addr} {w:Value} {Q:Unit→Shared→Prop} (h:∀ a,w≠.ref a) (hq:Q () s):wpAny M A (letOwnedTupleGo t (.ref it) w) Q E s:=by
 cases t with
 | Tuple es k p=>cases w with
   | ref a=>exact absurd rfl (h a)
   | _=>exact wpAny_pure hq
 | List es p=>cases w with
   | ref a=>exact absurd rfl (h a)
   | _=>exact wpAny_pure hq
 | _=>exact wpAny_pure hq
theorem next_ok {it:Addr} {x:Src} {i:Nat} {o:Obj} {q:Option V} (hh:A.handled = none) (I:SI B ρ H s) (ho:s.heap.get? it = some o) (x0:ItO ρ x i o) (e:itemAt H x i = some q):
  wpAny (model B.prog B.w) A (pyNext (.ref it)) (NextR ρ it x i s q) E s:=by
 cases x with
 | list n=>
   obtain ⟨c,hc,a,b⟩:=x0
   have hit:s.heap.IsListIter it c.1 i:=⟨o,ho,a,b⟩
   obtain ⟨xs,hxs,R,e⟩:=za3 I hc (show onLs _ _ = some q from e)
   ·cases e
    obtain ⟨vs,L,rv,_⟩:=R.isList
    cases hv:xs[i]? with
    | none=>
      have hn:(List.toArray vs)[i]? = none:=by
       rw [List.getElem?_toArray,List.getElem?_eq_none_iff]
       rw [List.getElem?_eq_none_iff,rv.len] at hv
       exact hv
      exact wpAny_pyNext_list_end hh hit L hn fun h' he=>⟨he,rfl,rfl⟩
    | some v=>
      obtain ⟨w,hw,rw'⟩:=rv.get hv
      refine wpAny_pyNext_list_item hit L (by rw [List.getElem?_toArray]; exact hw) fun h' hit' hs=>?_
      obtain ⟨o',ho',a',b'⟩:=id hit'
      exact ⟨⟨fun b o n q=>(hs.2 b n).trans q,rfl,rfl⟩,rw',⟨o',ho',c,hc,a',b'⟩,fun t Q E M A hq=>zkm hit' hq⟩
 | str l=>
   obtain ⟨hl,ty,t,hty,a,b⟩:=x0
   have hit:s.heap.IsStrIter it ty ⟨l.toArray⟩ t i:=⟨o,ho,a,b⟩
   cases e
   cases hv:l[i]? with
   | none=>
     have hn:(⟨l.toArray⟩:Str).cps[i]? = none:=by simpa using hv
     rcases hty with rfl | rfl
     ·exact wpAny_pyNext_ascii_end hh hit hn fun h' he=>⟨he,rfl,rfl⟩
     ·exact wpAny_pyNext_wide_end hh hit hn fun h' he=>⟨he,rfl,rfl⟩
   | some c=>
     have hn:(⟨l.toArray⟩:Str).cps[i]? = some c:=by simpa using hv
     have fin:∀ h',h'.IsStrIter it ty ⟨l.toArray⟩ t (i + 1)→Heap.SameBut it s.heap h'→NextR ρ it (.str l) i s (some (.str [c])) (some (.str ⟨#[c]⟩ s.toks)) { s with heap:=h',toks:=s.toks + 1 }:=fun h' hit' hs=>by
      obtain ⟨o',ho',a',b'⟩:=hit'
      exact ⟨⟨fun b o n q=>(hs.2 b n).trans q,rfl,rfl⟩,⟨by simp [zdj],_,rfl⟩,⟨o',ho',hl,ty,t,hty,a',b'⟩,fun t Q E M A hq=>zfw (fun a q=>by cases q) hq⟩
     rcases hty with rfl | rfl
     ·exact wpAny_pyNext_ascii_item hit hn fin
     ·exact wpAny_pyNext_wide_item hit hn fin
 | rng k=>
   have hit:IsRangeIter s.heap it (0 + (i:Nat) * 1) ((k:Int) - (i:Nat)) 1:=by
    show s.heap.get? it = _
    rw [ho]; exact congrArg some x0
   cases e
   by_cases hi:i < k
   ·rw [if_pos hi]
    refine wpAny_pyNext_range_item hit (by lia) fun h' hit' hs=>?_
    have e1:(0:Int) + (i:Nat) * 1 = (i:Nat):=by lia
    have e2:(0:Int) + (i:Nat) * 1 + 1 = 0 + ((i + 1:Nat):Int) * 1:=by lia
    have e3:(k:Int) - (i:Nat) - 1 = k - ((i + 1:Nat):Int):=by lia
    refine ⟨⟨fun b o n q=>(hs.2 b n).trans q,rfl,rfl⟩,⟨s.toks,by rw [e1]⟩,⟨_,hit',?_⟩,fun t Q E M A hq=>zfw (fun a q=>by cases q) hq⟩
    show _ = _
    rw [e2,e3]
   ·rw [if_neg hi]
    exact wpAny_pyNext_range_end hh hit (by lia) fun h' he=>⟨he,rfl,rfl⟩
theorem self_ok {it:Addr} {x:Src} {i:Nat} {o:Obj} {Q:Value→Shared→Prop} (hh:A.handled = none) (ho:s.heap.get? it = some o) (x0:ItO ρ x i o) (hq:Q (.ref it) s):wpAny (model B.prog B.w) A (pyIter (.ref it)) Q E s:=by
 cases x with
 | list n=>
   obtain ⟨c,hc,a,b⟩:=x0
   exact wpAny_pyIter_listiter ⟨o,ho,a,b⟩ hq
 | str l=>
   obtain ⟨_,ty,t,hty,a,b⟩:=x0
   rcases hty with rfl | rfl
   ·exact wpAny_pyIter_striter_ascii ⟨o,ho,a,b⟩ hq
   ·exact wpAny_pyIter_striter_wide ⟨o,ho,a,b⟩ hq
 | rng k=>
   have hit:IsRangeIter s.heap it (0 + (i:Nat) * 1) ((k:Int) - (i:Nat)) 1:=by
    show s.heap.get? it = _
    rw [ho]; exact congrArg some x0
   exact (Walks.range (prog:=B.prog) (w:=B.w) hh it 0 1 k).self i s Q E hit hq
theorem iter_ok {v:V} {w:Value} {x:Src} (I:SI B ρ H s) (h:VR ρ v w) (e:srcM H v = some x) {Q:Value→Shared→Prop} (hq:∀ o,ItO ρ x 0 o→Q (.ref s.heap.objs.size) { s with heap:=s.heap.push o }) (hf:True):wpAny (model B.prog B.w) A (pyIter w) Q E s:=by
 cases v with
 | obj n=>
   obtain ⟨c,hc,rfl⟩:=h
   have e:srcO n H[n]? = some x:=e
   cases hxs:H[n]? with
   | none=>rw [hxs] at e; cases e
   | some o=>
     rw [hxs] at e
     obtain ⟨c',hc',R⟩:=I.cell hxs
     rw [hc] at hc'; cases hc'
     cases o with
     | list xs=>
       cases e
       obtain ⟨vs,L,rv,_⟩:=R.isList
       exact wpAny_pyIter_list L (hq _ ⟨c,hc,rfl,rfl⟩)
     | rng k=>
       cases e
       obtain ⟨⟨_,hk⟩,t,u,v,R⟩:=R
       refine wpAny_pyIter_range R ?_ (hq _ ?_)
       ·exact small_one (by decide) (by decide) ((Int.natCast_nonneg _)) (by lia)
       ·show _ = _
        rw [rangeSize_one]
        by_cases hk:(0:Int) < k
        ·rw [if_pos hk]; simp
        ·have:k = 0:=by lia
         subst this; simp
     | _=>cases e
 | str l=>
   cases e
   obtain ⟨hl,t,rfl⟩:=h
   refine wpAny_pyIter_strU (hq _ ⟨hl,strIterType ⟨l.toArray⟩,t,?_,rfl,rfl⟩)
   unfold strIterType
   split
   ·exact .inl rfl
   ·exact .inr rfl
 | _=>cases e
theorem Cp.iterN {X:Ct} {it:Addr} {x:Src} {i:Nat} (N:Cp X s1 ρ1 H1 it x i) (k:∀ b o,b≠it→s1.heap.get? b = some o→s2.heap.get? b = some o) (hg:s2.gens = s1.gens) (ho:s2.os = s1.os) (ht:1≤s2.toks):
  Nx X s2 ρ1 H1:=by
 have C:=N.nx.cx
 have frames:∀ e∈X.fl,∀ L,e.frame = some L→L≠it:=fun e he L hL q=>by
  obtain ⟨_,L',o,b,c,_⟩:=N.nx.ff e he
  rw [hL] at b; cases b
  rw [q,N.bit] at c; cases c
 have si:SI X.B ρ1 H1 s2:=⟨fun b o q=>k b o (fun e=>by rw [e,N.old] at q; cases q) (C.si.keep b o q),
  ⟨C.si.hr.len,fun j c o h1 h2=>(C.si.hr.obj j c o h1 h2).mono (Pre.refl _) (fun o q=>k _ _ (fun e=>(N.off c (List.mem_of_getElem? h1)).1 e.symm) q) (fun o q=>k _ _ (fun e=>(N.off c (List.mem_of_getElem? h1)).2 e.symm) q),C.si.hr.apart⟩,C.si.fresh⟩
 have lr:LR X.B ρ1 X.env X.m s2.heap:=by
  obtain ⟨⟨rm,⟨o,es,ep,ho,hd,r⟩,hv⟩,old,off⟩:=C.lr
  refine ⟨⟨rm,⟨o,es,ep,k _ _ N.ne ho,hd,r⟩,fun y v hy=>?_⟩,old,off⟩
  rcases hv y v hy with z | ⟨a,ca,o',v',b,c,d,f,g⟩
  ·exact .inl z
  ·exact .inr ⟨a,ca,o',v',b,k _ _ (N.cells _ _ b) c,d,f,g⟩
 have ff:FF X.B ρ1 X.fl s2.heap:=fun e he=>by
  obtain ⟨a,L,o,b,c,⟨es,ep,d⟩,f,g⟩:=C.ff e he
  exact ⟨a,L,o,b,k _ _ (frames e he L b) c,⟨es,ep,d⟩,f,g⟩
 exact ⟨⟨C.sc,C.ok,C.fr,C.room,si,lr,ff,ht⟩,⟨N.nx.ext.pre,fun b o q off=>by
  obtain ⟨sl,h1,h2⟩:=N.nx.ext.keep b o q off
  exact ⟨sl,k _ _ (fun e=>by rw [e,N.bit] at q; cases q) h1,h2⟩,hg.trans N.nx.ext.gens,ho.trans N.nx.ext.os⟩,N.nx.ff⟩
theorem Cp.iter {X:Ct} {it:Addr} {x:Src} {i j:Nat} (N:Cp X s1 ρ1 H1 it x i) (k:∀ b o,b≠it→s1.heap.get? b = some o→s2.heap.get? b = some o) (hg:s2.gens = s1.gens) (ho:s2.os = s1.os) (ht:1≤s2.toks)
  (at':∃ o,s2.heap.get? it = some o∧ItO ρ1 x j o):Cp X s2 ρ1 H1 it x j:=⟨N.iterN k hg ho ht,N.bit,N.bC,N.old,N.ne,N.off,at',N.cells⟩
theorem Cp.stored {X:Ct} {it:Addr} {x:Src} {i:Nat} (N:Cp X s1 ρ1 H1 it x i) (S:Stored X.B X.env ρ1 H1 m2 s1 s2):Cp { X with m:=m2 } s2 ρ1 H1 it x i:=by
 have C:=N.nx.cx
 have frames:∀ e∈X.fl,∀ L,e.frame = some L→L≠X.env.locals:=fun e he L hL q=>by
  obtain ⟨_,L',o,b,c,_⟩:=N.nx.ff e he
  rw [hL] at b; cases b
  rw [q,N.bC] at c; cases c
 have ff:FF X.B ρ1 X.fl s2.heap:=fun e he=>by
  obtain ⟨a,L,o,b,c,⟨es,ep,d⟩,f,g⟩:=C.ff e he
  exact ⟨a,L,o,b,S.keep _ _ (frames e he L b) c,⟨es,ep,d⟩,f,g⟩
 obtain ⟨o,h1,h2⟩:=N.at_
 exact ⟨⟨⟨C.sc,C.ok,C.fr,C.room,S.si,S.lr,ff,Nat.le_trans C.toks S.toks⟩,⟨N.nx.ext.pre,fun b o q off=>by
  obtain ⟨sl,h1,h2⟩:=N.nx.ext.keep b o q off
  exact ⟨sl,S.keep _ _ (fun e=>by rw [e,N.bC] at q; cases q) h1,h2⟩,S.gens.trans N.nx.ext.gens,S.os.trans N.nx.ext.os⟩,N.nx.ff⟩,N.bit,N.bC,N.old,N.ne,N.off,⟨o,S.keep _ _ (Ne.symm N.ne) h1,h2⟩,N.cells⟩
theorem Cp.ext1 {X:Ct} {it:Addr} {x:Src} {i:Nat} (N:Cp X s1 ρ1 H1 it x i) (si:SI X.B ρ2 H2 s2) (e:Ext ρ1 ρ2 s1 s2) (t:1≤s2.toks):Cp X s2 ρ2 H2 it x i:=by
 obtain ⟨o,h1,h2⟩:=N.at_
 obtain ⟨sl,h3,h4⟩:=e.keep _ _ h1 N.off
 have:sl = o.slots:=h4 h2.fields.2
 subst this
 exact ⟨⟨N.nx.cx.next si e t,N.nx.ext.then N.nx.cx.si e,N.nx.ff⟩,N.bit,N.bC,N.old,N.ne,e.off h1 N.off,⟨o,h3,h2.mono e.p⟩,N.cells⟩
theorem z4f {prog:Program} {w:World} {elt target iter:Expr} {scope:Scope} {pos:Pos} {it acc:Value} {R:Result→Shared→Prop}
  (h:wpAny (model prog w) A (pyNext it) (fun r s1=>match r with
   | none=>R (.ok .next) s1
   | some v=>wpAny (model prog w) A (letOwnedTupleGo target it v) (fun _ s0=>wpAny (model prog w) A (assign target env v) (fun _ s2=>wpAny (model prog w) A (eval elt env) (fun x s4=>
     wpAny (model prog w) A (PySem.call (.builtin "list.append") [acc,x]) (fun _ s5=>codeAny (model prog w) A (.compLoop (.ListComp elt [⟨target,iter,[],0⟩] scope pos) 0 it acc env) R s5) (fun _ _=>False) s4) (fun _ _=>False) s2) (fun _ _=>False) s0) (fun _ _=>False) s1) (fun _ _=>False) s):
  codeAny (model prog w) A (.compLoop (.ListComp elt [⟨target,iter,[],0⟩] scope pos) 0 it acc env) R s:=by
 refine codeAny_of_tree ?_
 show wpAny _ A ((compTurn (.ListComp elt [⟨target,iter,[],0⟩] scope pos) 0 it acc env).onRaise (fun x=>do noteFrame x env; theTreesLotGoes x)) _ _ s
 refine wpAny_noted ?_
 rw [compTurn_list]
 refine wpAny_bind (wpAny_standAt (wpAny_bind (wpAny_mono h (fun r s₁ h₁=>?_) fun _ _ h'=>h'.elim)))
 cases r with
 | none=>exact wpAny_pure h₁
 | some v=>
   refine wpAny_bind (wpAny_mono h₁ (fun _ s₀ h₀'=>?_) fun _ _ h'=>h'.elim)
   refine wpAny_bind (wpAny_mono h₀' (fun _ s₂ h₂=>?_) fun _ _ h'=>h'.elim)
   refine wpAny_bind (wpAny_tests_nil ?_)
   exact wpAny_bind (wpAny_bind (wpAny_mono h₂ (fun x s₄ h₄=>wpAny_bind (wpAny_mono h₄ (fun _ s₅ h₅=>wpAny_pure (wpAny_pure ⟨rfl,h₅⟩)) fun _ _ h'=>h'.elim)) fun _ _ h'=>h'.elim))
noncomputable def addC (cells:List (Str×Addr)) (x:Str×NameKind) (cs:List (Str×Addr)):List (Str×Addr):=if x.2 = .free then (cells.lookup x.1).elim cs fun a=>(x.1,a)::cs else cs
noncomputable def closeL (cells:List (Str×Addr)) (l:List (Str×NameKind)) (cs:List (Str×Addr)):List (Str×Addr):=match l with
 | []=>cs
 | x::r=>closeL cells r (addC cells x cs)
theorem zzx (l:List (Str×NameKind)):∀ (cs:List (Str×Addr)),(∀ x∈l,x.2 = .free→∃ a,env.cells.lookup x.1 = some a)→
  (forIn l cs (fun (x:Str×NameKind) (cs:List (Str×Addr))=>(do
   if x.2 == .free then
    let c ← cellOf env x.1
    pure (ForInStep.yield ((x.1,c)::cs))
   else pure (ForInStep.yield cs):Sem (ForInStep (List (Str×Addr)))))) = (pure (closeL env.cells l cs):Sem (List (Str×Addr))):=by
 induction l with
 | nil=>exact fun _ _=>rfl
 | cons x r ih=>
   intro cs h
   rw [List.forIn_cons]
   have one:(do
    if x.2 == .free then
     let c ← cellOf env x.1
     pure (ForInStep.yield ((x.1,c)::cs))
    else pure (ForInStep.yield cs):Sem (ForInStep (List (Str×Addr)))) = pure (ForInStep.yield (addC env.cells x cs)):=by
    by_cases q:x.2 = .free
    ·obtain ⟨a,ha⟩:=h x (.head _) q
     rw [if_pos (by rw [q]; rfl),addC,if_pos q,ha,show cellOf env x.1 = pure a by unfold cellOf; rw [ha]]
     rfl
    ·rw [if_neg (fun e=>q (eq_of_beq e)),addC,if_neg q]
   rw [one]
   exact ih _ fun y hy=>h y (.tail _ hy)
theorem zoy {scope:Scope} (h:∀ x∈scope.names,x.2 = .free→∃ a,env.cells.lookup x.1 = some a):closureFor scope env = pure (closeL env.cells scope.names []):=by
 rw [← zzx scope.names [] h]
 unfold closureFor
 rw [bind_pure]
theorem zsg {cells:List (Str×Addr)} {p:Str×Addr} (l:List (Str×NameKind)):∀ (cs:List (Str×Addr)),p∈closeL cells l cs→p∈cs∨(cells.lookup p.1 = some p.2∧∃ x∈l,x.1 = p.1∧x.2 = .free):=by
 induction l with
 | nil=>exact fun _ h=>.inl h
 | cons x r ih=>
   intro cs h
   rcases ih _ h with h | ⟨a,y,hy,b⟩
   ·unfold addC at h
    by_cases q:x.2 = .free
    ·rw [if_pos q] at h
     cases ha:cells.lookup x.1 with
     | none=>rw [ha] at h; exact .inl h
     | some a=>
       rw [ha] at h
       rcases List.mem_cons.mp h with rfl | h
       ·exact .inr ⟨ha,x,.head _,rfl,q⟩
       ·exact .inl h
    ·rw [if_neg q] at h; exact .inl h
   ·exact .inr ⟨a,y,.tail _ hy,b⟩
theorem zzy {cells:List (Str×Addr)} {y:Str} {a:Addr} (ha:cells.lookup y = some a) (l:List (Str×NameKind)):∀ (cs:List (Str×Addr)),((∃ x∈l,x.1 = y∧x.2 = .free)∨(y,a)∈cs)→(y,a)∈closeL cells l cs:=by
 induction l with
 | nil=>exact fun _ h=>h.elim (fun ⟨_,hx,_⟩=>nomatch hx) id
 | cons x r ih=>
   intro cs h
   refine ih _ ?_
   rcases h with ⟨z,hz,e,k⟩ | h
   ·rcases List.mem_cons.mp hz with rfl | hz
    ·refine .inr ?_
     rw [addC,if_pos k,e,ha]
     exact .head _
    ·exact .inl ⟨z,hz,e,k⟩
   ·refine .inr ?_
    unfold addC
    by_cases q:x.2 = .free
    ·rw [if_pos q]
     cases cells.lookup x.1 with
     | none=>exact h
     | some b=>exact .tail _ h
    ·rw [if_neg q]; exact h
theorem zy5 {l:List (Str×Addr)} {y:Str} {a:Addr}:(y,a)∈l→∃ b,l.lookup y = some b:=by
 induction l with
 | nil=>exact fun h=>nomatch h
 | cons p r ih=>
   intro h
   rw [List.lookup_cons]
   cases q:y == p.1 with
   | true=>exact ⟨_,rfl⟩
   | false=>
     rcases List.mem_cons.mp h with rfl | h
     ·rw [beq_self_eq_true] at q; cases q
     ·exact ih h
theorem zoz {cells:List (Str×Addr)} {l:List (Str×NameKind)} {y:Str} {a:Addr} (ha:cells.lookup y = some a) (hx:∃ x∈l,x.1 = y∧x.2 = .free):(closeL cells l []).lookup y = some a:=by
 obtain ⟨b,hb⟩:=zy5 (zzy ha l [] (.inl hx))
 rcases zsg l [] (zje hb) with h | ⟨h,_⟩
 ·cases h
 ·rw [hb,← h]; exact ha
theorem zqj {sc' sc:Scope} {y:Str} (hc:∀ x∈sc'.names,x.2≠.cell) (h:(zhs sc' sc).names.lookup y = some .cell):sc.names.lookup y = some .cell∧∃ x∈sc'.names,x.1 = y∧x.2 = .free:=by
 have:∀ l:List (Str×NameKind),(∀ x∈l,x.2≠.cell)→(l.map fun (n,k)=>if (k == NameKind.free && sc.kind == .function && sc.names.lookup n == some .cell) = true then (n,NameKind.cell) else (n,k)).lookup y = some .cell→sc.names.lookup y = some .cell∧∃ x∈l,x.1 = y∧x.2 = .free:=by
  intro l
  induction l with
  | nil=>intro _ h; cases h
  | cons p r ih=>
    obtain ⟨n,k⟩:=p
    intro hc h
    rw [List.map_cons] at h
    by_cases q:(k == NameKind.free && sc.kind == .function && sc.names.lookup n == some .cell) = true
    ·simp only [q,if_true] at h
     rw [List.lookup_cons] at h
     split at h
     ·rename_i e
      have e:=eq_of_beq e
      subst e
      rw [Bool.and_eq_true,Bool.and_eq_true] at q
      exact ⟨eq_of_beq q.2,_,.head _,rfl,eq_of_beq q.1.1⟩
     ·obtain ⟨a,x,hx,b⟩:=ih (fun x hx=>hc x (.tail _ hx)) h
      exact ⟨a,x,.tail _ hx,b⟩
    ·simp only [q] at h
     rw [if_neg Bool.false_ne_true,List.lookup_cons] at h
     split at h
     ·rename_i e
      cases h
      exact absurd rfl (hc _ (.head _))
     ·obtain ⟨a,x,hx,b⟩:=ih (fun x hx=>hc x (.tail _ hx)) h
      exact ⟨a,x,.tail _ hx,b⟩
 exact this _ hc h
theorem zt2 {sc':Scope} (h:zdq sc' sc m = true):sc'.kind = .function∧∀ x∈sc'.names,x.2≠.cell∧(x.2 = .free→sc.names.lookup x.1 = some .cell∧∃ v,m x.1 = some v)∧(x.2 = .local→sc'.names.lookup x.1 = some .local):=by
 unfold zdq at h
 rw [Bool.and_eq_true] at h
 refine ⟨eq_of_beq h.1,fun x hx=>?_⟩
 have:=List.all_eq_true.mp h.2 x hx
 rw [Bool.and_eq_true,Bool.and_eq_true] at this
 obtain ⟨⟨a,b⟩,c⟩:=this
 refine ⟨fun e=>by rw [e] at a; exact absurd a (by decide),fun e=>?_,fun e=>?_⟩
 ·rw [e] at b
  simp only [bne_self_eq_false,Bool.false_or,Bool.and_eq_true] at b
  exact ⟨eq_of_beq b.1,Option.isSome_iff_exists.mp b.2⟩
 ·rw [e] at c
  simp only [bne_self_eq_false,Bool.false_or] at c
  exact eq_of_beq c
theorem Nx.fresh {X:Ct} {b:Addr} (N:Nx X s1 ρ1 H1) (h:s1.heap.get? b = none):X.s.heap.get? b = none:=by
 cases hz:X.s.heap.get? b with
 | none=>rfl
 | some o=>
   by_cases off:Off X.ρ b
   ·obtain ⟨sl,h',_⟩:=N.ext.keep _ _ hz off
    rw [h] at h'; cases h'
   ·exact absurd (fun d hd=>by
     obtain ⟨ν,e,_⟩:=N.ext.pre
     obtain ⟨⟨o1,h1⟩,⟨o2,h2⟩⟩:=N.cx.si.hr.live (c:=d) (by rw [e]; exact List.mem_append.mpr (.inl hd))
     exact ⟨fun e=>(by rw [← e,h] at h1; cases h1),fun e=>(by rw [← e,h] at h2; cases h2)⟩) off
end
section
variable {P:Prg} {d:Nat} {sc:Scope} {m:Lo} {H:Hp} {Q:V→Hp→Prop} {E:EK→Hp→Prop} {elt t:Expr} {x:Src}
theorem zs3 {na i:Nat} (h:@optI _ ⟨itW (Q (.obj na) H) fun v=>@optI _ ⟨fun m'=>@WpI _ ⟨fun y H1=>@optI _ ⟨fun p=>@WpI _ ⟨Q⟩ ⟨E⟩ (comp P d sc m' elt t x (.obj na) (i + 1)) p.2⟩ (zax H1 "list.append" [.obj na,y])⟩ ⟨E⟩ (ev P d sc m' elt) H⟩ (assignM sc m H t v)⟩ (itemAt H x i)):
  @WpI _ ⟨Q⟩ ⟨E⟩ (comp P d sc m elt t x (.obj na) i) H:=fun nE O A ce fl s ρ s1 ρ1 it na' c ea N hna iter scope pos=>by
 cases ea
 obtain ⟨q,hq,h⟩:=zav h
 obtain ⟨o,ho,x0⟩:=N.at_
 refine z4f (wpAny_mono (wpAny_toks_of N.nx.cx.toks (next_ok (E:=fun _ _=>False) N.nx.cx.room.handled N.nx.cx.si ho x0 hq)) (fun r s2 p=>?_) fun _ _ p=>p.2)
 obtain ⟨t2,p⟩:=p
 cases q with
 | none=>
   cases r with
   | some w=>exact p.elim
   | none=>
     obtain ⟨k,hg,hos⟩:=p
     exact ⟨ρ1,m,_,hna,N.iterN k hg hos t2,h⟩
 | some v'=>
   cases r with
   | none=>exact p.elim
   | some w=>
     obtain ⟨⟨k,hg,hos⟩,rv,at',lo⟩:=p
     have N2:=N.iter k hg hos t2 at'
     refine lo _ _ _ _ _ ?_
     obtain ⟨m',hm,h⟩:=zav h
     refine zhg N2.nx.cx.room.handled N2.nx.cx.sc N2.nx.cx.ok N2.nx.cx.si N2.nx.cx.lr rv hm fun s3 S'=>?_
     have N3:=N2.stored S'
     have N3':Nx ⟨P,d,sc,m',A,ce,fl,s3,ρ1⟩ s3 ρ1 H:=⟨N3.nx.cx,Ext.refl _ _,N3.nx.cx.ff⟩
     refine wpAny_mono (h O N3') (fun u s4 p=>?_) fun _ _ z=>by cases z with | mk _ _ _ q=>exact nE _ _ q
     obtain ⟨y,H4,ρ4,ru,p4,X4,h⟩:=p
     have N4:=N3.ext1 X4.cx.si X4.ext X4.cx.toks
     have hna4:=p4.get hna
     obtain ⟨u2,ha,h⟩:=zav h
     refine wpAny_mono (wpAny_toks_of N4.nx.cx.toks (zfc (E:=fun _ _=>False) N4.nx.cx.si (as:=[.obj na,y]) (ws:=[.ref c.1,u]) ⟨⟨c,hna4,rfl⟩,ru,trivial⟩ ha)) (fun _ s5 p=>?_) fun _ _ p=>p.2
     obtain ⟨t5,ρ5,_,si5,x5⟩:=p
     exact h nE O rfl (N4.ext1 si5 x5 t5) (x5.p.get hna4) iter scope pos
theorem zc3 {it:Expr} {sc':Scope} {p:Pos} (hs:zzh it = false) (ho:zdq sc' sc m = true)
  (h:@WpI _ ⟨fun v H1=>∃ x,srcM H1 v = some x∧@WpI _ ⟨Q⟩ ⟨fun _ _=>False⟩ (comp P d (zhs sc' sc) (fun y=>if (zhs sc' sc).names.lookup y == some .cell then m y else none) elt t x (.obj H1.length) 0) (H1++[.list []])⟩ ⟨E⟩ (ev P d sc m it) H):
  @WpI _ ⟨Q⟩ ⟨E⟩ (ev P d sc m (.ListComp elt [⟨t,it,[],0⟩] sc' p)) H:=fun O A env fl s' ρ' s ρ C0=>by
 have C:=C0.cx
 refine C0.call (Pre.refl _) ?_
 obtain ⟨k1,k2⟩:=zt2 ho
 have hsc:env.scope = sc:=C.sc
 have free:∀ x∈sc'.names,x.2 = .free→∃ a o,env.cells.lookup x.1 = some a∧s.heap.get? a = some o:=fun x hx e=>by
  obtain ⟨a,v,hv⟩:=(k2 x hx).2.1 e
  obtain ⟨rm,hn,hold⟩:=C.lr.ns
  rcases hold _ _ hv with ⟨b,_⟩ | ⟨_,ca,o,v',b,c,_⟩
  ·rw [hsc,a] at b; cases b
  ·exact ⟨ca,o,b,c⟩
 rw [eval_ListComp]
 refine wpAny_comprehension_free (use:=none) (g:=⟨t,it,[],0⟩) (gs:=[]) rfl (fun x=>zw7 hs) (zoy fun x hx e=>by obtain ⟨a,_,b,_⟩:=free x hx e; exact ⟨a,b⟩) k1 (fun x hx e=>(k2 x hx).2.2 e) ?_
 refine GP.bind (X:=⟨P,d,sc,m,A,env,fl,s,ρ⟩) (h O ⟨C,Ext.refl _ _,C.ff⟩) fun {v H1 w s1 ρ1} rv _ N h=>?_
 obtain ⟨x,hx,h⟩:=h
 refine iter_ok N.cx.si rv hx (fun o ho=>?_) trivial
 have N2:=N.push o
 have ito:(s1.heap.push o).get? s1.heap.objs.size = some o:=Heap.get?_push_size _ (by obtain ⟨⟨vs,e⟩,_⟩:=ho.fields; obtain ⟨oc,od,oda,osl⟩:=o; cases e; rfl)
 refine wpAny_newList ?_ (by show 0≤sizeLine; exact Nat.zero_le _)
 obtain ⟨ρ3,⟨c,hc3,ec⟩,i3,e3⟩:=zdy (vs:=[]) (xs:=[]) (n:=0) (k:=s1.toks) (h':=(s1.heap.push o).push { cls:=.type "list",data:=.seq ([]:List Value).toArray }) N2.cx.si (fun b o e=>Heap.get?_push_of_some _ e) (Heap.get?_push_size _ rfl) trivial (Nat.zero_le _)
 have N3:Nx ⟨P,d,sc,m,A,env,fl,s,ρ⟩ { s1 with heap:=(s1.heap.push o).push { cls:=.type "list",data:=.seq ([]:List Value).toArray } } ρ3 (H1++[.list []]):=N2.next i3 e3 N.cx.toks
 have off1:Off ρ1 s1.heap.objs.size:=N.cx.si.offNone (za1 _)
 have off3:Off ρ3 s1.heap.objs.size:=e3.off ito off1
 have it3:((s1.heap.push o).push { cls:=.type "list",data:=.seq ([]:List Value).toArray }).get? s1.heap.objs.size = some o:=Heap.get?_push_of_some _ ito
 generalize hH3:(s1.heap.push o).push { cls:=.type "list",data:=.seq ([]:List Value).toArray } = h3' at N3 it3 ⊢
 refine wpAny_newFunctionEnv (fun x hx=>(k2 x hx).1) (by intro y hy; simp at hy) (fun h' hns hsb=>?_) k1
 have keep:∀ b o,h3'.get? b = some o→h'.get? b = some o:=fun b o e=>(hsb.2 b (Nat.ne_of_lt (Heap.lt_size e))).trans (Heap.get?_push_of_some _ e)
 have N4:=N3.same (s2:={ s1 with heap:=h',toks:=s1.toks + 0 }) keep rfl rfl N.cx.toks
 have hC3:h3'.get? h3'.objs.size = none:=za1 _
 have sub:∀ y ca,(closeL env.cells sc'.names []).lookup y = some ca→env.cells.lookup y = some ca∧∃ o,s.heap.get? ca = some o:=fun y ca e=>by
  rcases zsg _ _ (zje e) with h | ⟨a,z,hz,e1,e2⟩
  ·cases h
  ·obtain ⟨a',o',b1,b2⟩:=free z hz e2
   rw [e1] at b1
   dsimp only at a
   rw [a] at b1; cases b1
   exact ⟨a,o',b2⟩
 have Pc:Cp ⟨P,d,zhs sc' sc,fun y=>if (zhs sc' sc).names.lookup y == some .cell then m y else none,A,compEnvC sc' (closeL env.cells sc'.names []) h3'.objs.size env,fl,s,ρ⟩ { s1 with heap:=h',toks:=s1.toks + 0 } ρ3 (H1++[.list []]) s1.heap.objs.size x 0:=by
  refine ⟨⟨⟨by subst hsc; rfl,⟨k1,C.ok.globals,C.ok.builtins⟩,C.fr,C.room,N4.cx.si,⟨⟨_,hns,fun y v hy=>?_⟩,N3.cx.si.oldNone hC3,N3.cx.si.offNone hC3⟩,N4.cx.ff,N4.cx.toks⟩,N4.ext,N4.ff⟩,N.fresh (za1 _),N3.fresh hC3,N.cx.si.oldNone (za1 _),fun e=>?_,off3,⟨o,keep _ _ it3,ho.mono e3.p⟩,fun y ca e q=>?_⟩
  ·have hy:(if (zhs sc' sc).names.lookup y == some .cell then m y else none) = some v:=hy
   split at hy
   ·rename_i hl
    have hl:=eq_of_beq hl
    obtain ⟨a,hx⟩:=zqj (fun x hx=>(k2 x hx).1) hl
    obtain ⟨rm,hn,hold⟩:=N4.cx.lr.ns
    rcases hold _ _ hy with ⟨b,_⟩ | ⟨_,ca,o',v',b,c',d',f',g'⟩
    ·rw [hsc,a] at b; cases b
    ·exact .inr ⟨by subst hsc; exact hl,ca,o',v',zoz b hx,c',d',f',g'⟩
   ·cases hy
  ·rw [show (compEnvC sc' (closeL env.cells sc'.names []) h3'.objs.size env).locals = h3'.objs.size from rfl] at e
   rw [← e,hC3] at it3; cases it3
  ·obtain ⟨_,o',ho'⟩:=sub y ca e
   rw [q,N.fresh (za1 _)] at ho'; cases ho'
 have ec':c.1 = (s1.heap.push o).objs.size:=by injection ec with ec; exact ec.symm
 have loop:=h (fun _ _ e=>e) O rfl Pc hc3 it sc' p
 rw [ec'] at loop
 have fin:∀ (q:Result) (s':Shared),(match q with
   | .ok _=>∃ ρ2 m2 H2,ρ2[H1.length]? = some c∧Nx ⟨P,d,zhs sc' sc,m2,A,compEnvC sc' (closeL env.cells sc'.names []) h3'.objs.size env,fl,s,ρ⟩ s' ρ2 H2∧Q (.obj H1.length) H2
   | .error _=>False)→compPost (model P.prog P.w) A (CE P ρ fl s E) none (CP VR P ρ s Q) (.ref (s1.heap.push o).objs.size) h3'.objs.size q s':=fun q s' z=>by
  cases q with
  | error e=>exact z.elim
  | ok fw=>
    obtain ⟨ρ2,m2,H2,a,N5,q0⟩:=z
    obtain ⟨rm,hn,_⟩:=N5.cx.lr.ns
    refine ⟨rm,hn,fun h'' hs=>?_⟩
    have hbC:s.heap.get? h3'.objs.size = none:=N3.fresh hC3
    refine ⟨.obj H1.length,H2,ρ2,⟨c,a,by rw [ec']⟩,N5.cx.si.locals N5.cx.lr.old N5.cx.lr.off hs,⟨N5.ext.pre,fun b o q off=>?_,N5.ext.gens,N5.ext.os⟩,q0⟩
    obtain ⟨sl,h1,h2⟩:=N5.ext.keep b o q off
    exact ⟨sl,(hs.2 b (fun e=>by rw [e,hbC] at q; cases q)).trans h1,h2⟩
 exact codeAny_compStart_list (codeAny_mono loop fin) (self_ok (ρ:=ρ3) C.room.handled (keep _ _ it3) (ho.mono e3.p) (codeAny_mono loop fin))
end
noncomputable def retW (Q:V→Hp→Prop):Fl×Lo→Hp→Prop
 | (.ret v,_),H=>Q v H
 | (.next,_),H=>Q .none H
 | _,_=>False
noncomputable def objW (Q:V→Hp→Prop) (n:Nat):V→Hp→Prop
 | .none,H1=>Q (.obj n) H1
 | _,_=>False
section
variable {B:Base} {A:Around} {env ce:Env} {fl outer:List Env} {s s1 s2:Shared} {ρ ρ1 ρ2:List Cell} {H H1 H2 H0:Hp} {d:Nat} {sc:Scope} {m m0 m1 m2:Lo} {Q:V→Hp→Prop} {E:EK→Hp→Prop}
theorem zdn {a:Addr} {as ws:List V} {ns:List Str} {fn:Fn} {m:Lo} (hfn:B.fn a as.length ns = some fn) (hb:fn.bind as ws = some m) (h:@WpI _ ⟨retW Q⟩ ⟨E⟩ (exs B d fn.scope m fn.body) H):
  @WpI _ ⟨Q⟩ ⟨E⟩ (call B (d + 1) (.top (.ref a)) as ns ws) H:=fun O A fl s ρ gv vs us hfr R I F hg rv ru hl ht=>by
 obtain ⟨rfl,_⟩:=hg
 refine CallC.r ?_
 obtain ⟨fd,X⟩:=O.f.fn _ _ _ _ hfn
 obtain ⟨oc,od,osl,hk⟩:=X.obj
 have T:=O.k.top
 have TG:=T.keeps I.keep
 obtain ⟨binds,hB,hbl,hbv⟩:=X.bind s ρ as ws vs us m I.keep rv ru rfl hl hb
 have K:=KIn O.k I
 have hd:=R.depth
 refine codeAny_call_def (by show A.depth < 1000; lia) (K _ _ hk) rfl TG.nolimit (codeRec_of K X.code) X.body hB X.cells hbl (fun h1 hn hkeep=>?_) X.coro X.gen X.kind
 have hL:s.heap.get? s.heap.objs.size = none:=za1 _
 have q:=I.same (s':={ s with heap:=h1,toks:=s.toks + binds.length }) hkeep rfl rfl
 have offL:Off ρ s.heap.objs.size:=I.offNone hL
 have oldL:B.h₀.get? s.heap.objs.size = none:=I.oldNone hL
 have LRx:LR B ρ (callEnv fd s.heap.objs.size a) m h1:=⟨⟨_,hn,fun x v hm=>by
  obtain ⟨v',e,rel⟩:=hbv x v hm
  refine .inl ⟨?_,v',e,rel⟩
  exact hbl _ (List.mem_reverse.mp (zje e))⟩,oldL,offL⟩
 have FFx:FF B ρ (callEnv fd s.heap.objs.size a::fl) h1:=fun e he=>by
  rcases List.mem_cons.mp he with rfl | he
  ·obtain ⟨o,es,ep,ho,hd,_⟩:=hn
   exact ⟨by show fd.scope.kind≠.module; rw [X.kind]; decide,s.heap.objs.size,o,rfl,ho,⟨es,ep,hd⟩,oldL,offL⟩
  ·exact F.ext q.2 e he
 have apart:s.heap.objs.size ∉ fl.filterMap (·.frame):=fun hm=>by
  obtain ⟨e,he,hL'⟩:=List.mem_filterMap.mp hm
  obtain ⟨_,L',o,b,c,_⟩:=F e he
  rw [hL'] at b; cases b
  rw [hL] at c; cases c
 have S:Sx B (A.deeper (callEnv fd s.heap.objs.size a)) (callEnv fd s.heap.objs.size a) fl { s with heap:=h1,toks:=s.toks + binds.length } ρ H d fn.scope m:=by
  refine ⟨⟨X.scope,⟨X.kind,X.globals,X.builtins⟩,by show Option.map _ A.frames = _; rw [hfr]; rfl,⟨?_,?_,R.handled⟩,q.1,LRx,FFx,Nat.le_trans ht (Nat.le_add_right ..)⟩,rfl,apart⟩
  ·show A.depth + 1 + 4 * d + 8 < 1000; have:=R.depth; lia
  ·show A.units + 3 + 40 * d + 100 < 9900; have:=R.units; lia
 have toE:∀ {ρ':List Cell} {s':Shared},ExtL s.heap.objs.size ρ ρ' { s with heap:=h1,toks:=s.toks + binds.length } s'→Ext ρ ρ' s s':=fun x=>
  ⟨by obtain ⟨ν,e,n⟩:=x.pre
      have back:∀ b,h1.get? b = none→s.heap.get? b = none:=fun b hb=>by
       cases q:s.heap.get? b with
       | none=>rfl
       | some o=>have:=hkeep b o q; rw [hb] at this; cases this
      exact ⟨ν,e,fun c hc=>⟨back _ (n c hc).1,back _ (n c hc).2⟩⟩,
   fun b o h off=>x.keep b o (hkeep b o h) off (fun e=>by rw [e,hL] at h; cases h),x.gens,x.os⟩
 have N:Sn ⟨B,d,fn.scope,A.deeper (callEnv fd s.heap.objs.size a),callEnv fd s.heap.objs.size a,fl,{ s with heap:=h1,toks:=s.toks + binds.length },ρ⟩ { s with heap:=h1,toks:=s.toks + binds.length } ρ H m:=⟨S,(Ext.refl _ _).l,S.c.ff,q.1.keep⟩
 refine wpAny_mono (h O N) (fun fw s' z=>?_) fun e s' z=>?_
 ·obtain ⟨x,m',H1,ρ',rf,N1,q⟩:=z
  cases x with
  | next=>cases rf; exact ⟨.none,_,ρ',rfl,N1.cx.c.si,toE N1.ext,q⟩
  | ret v=>obtain ⟨w,rfl,rw'⟩:=rf; exact ⟨v,_,ρ',rw',N1.cx.c.si,toE N1.ext,q⟩
  | brk=>exact q.elim
  | cont=>exact q.elim
 ·obtain ⟨_,z⟩:=z
  unfold leaving
  refine wpAny_bind (wpAny_mono z (fun _ s2 z=>?_) fun _ _ z=>z.elim)
  obtain ⟨k,H',⟨ρ',Bh,ea,a0,L,rfl,hf,Y,W⟩,qE⟩:=z
  cases hf
  refine wpAny_landsW W fun h3 hfl up=>?_
  obtain ⟨w1,w2,⟨_,_,w3⟩,w4⟩:=hfl
  refine ⟨k,H',⟨ρ',Bh,ea,a0,rfl,⟨Y.keep,Y.hr,Y.fresh,?_,fun b o hb off n=>?_,fun L' o hb n=>?_,Y.gens,Y.os⟩,⟨w1,w2,w3,w4⟩⟩,qE⟩
  ·obtain ⟨ν,e,n⟩:=Y.pre
   have back:∀ b,h1.get? b = none→s.heap.get? b = none:=fun b hb=>by
    cases q:s.heap.get? b with
    | none=>rfl
    | some o=>have:=hkeep b o q; rw [hb] at this; cases this
   exact ⟨ν,e,fun c hc=>⟨back _ (n c hc).1,back _ (n c hc).2⟩⟩
  ·refine Y.stay b o (hkeep _ _ hb) off fun hm=>?_
   have hm:b∈s.heap.objs.size::fl.filterMap (·.frame):=hm
   rcases List.mem_cons.mp hm with e | hm
   ·rw [e,hL] at hb; cases hb
   ·exact n hm
  ·obtain ⟨sl,h4⟩:=Y.frames L' o (hkeep _ _ hb) n
   obtain ⟨e,he,hL'⟩:=List.mem_filterMap.mp n
   obtain ⟨_,L2,o2,b2,c2,⟨es,ep,d2⟩,_⟩:=F e he
   rw [hL'] at b2; cases b2
   rw [hb] at c2; cases c2
   obtain ⟨sl',h5⟩:=up L' _ h4 (fun vs q=>by dsimp only at q; rw [d2] at q; cases q)
   exact ⟨sl',h5⟩
theorem z9w {a fi:Addr} {as ws:List V} {ns:List Str} (hcl:B.cls a = some fi) (hfn:(B.fn fi (as.length + 1) ns).isNone = false)
  (h:@WpI _ ⟨objW Q H.length⟩ ⟨E⟩ (call B d (.top (.ref fi)) (.obj H.length::as) ns ws) (H++[.inst a []])):
  @WpI _ ⟨Q⟩ ⟨E⟩ (call B (d + 1) (.top (.ref a)) as ns ws) H:=fun O A fl s ρ gv vs us hfr R I F hg rv ru hl ht=>by
 obtain ⟨rfl,_⟩:=hg
 refine CallC.r ?_
 have e1:(ns.zip us).map (·.1) = ns:=by
  have:=ru.len
  rw [List.map_fst_zip]
  lia
 refine O.f.cls _ _ hcl A s _ vs _ (by rw [e1,← rv.len]; exact hfn) I.keep (by have:=R.depth; lia) (by have:=R.units; lia) R.handled fun A' h' x dx n tk e1 e2 e3 e4 keep nx ndx gx gdx tt=>?_
 have q:=I.add (s':={ s with heap:=h',toks:=tk }) (c:=(x,dx)) (o:=.inst a []) keep rfl rfl nx ndx ⟨gx,[],n,gdx,trivial⟩
 have hc0:(ρ++[(x,dx)])[H.length]? = some (x,dx):=by rw [← I.hr.len]; simp
 have pp:Pre ρ (ρ++[(x,dx)]):=⟨_,rfl⟩
 have RC:RoomC A' d:=⟨by have:=R.depth; lia,by have:=R.units; lia,e2⟩
 refine codeAny_mono ((h O (A:=A') (e1.trans hfr) RC q.1 (F.ext q.2) ⟨rfl,.inl ⟨_,rfl⟩⟩ (vs:=.ref x::vs) (us:=us) ⟨⟨_,hc0,rfl⟩,rv.mono pp⟩ (ru.mono pp) hl (Nat.le_trans ht tt)).2 _ rfl) fun z s' hz=>?_
 match z,hz with
 | .ok (.ret w),hz=>
   obtain ⟨v,_,ρ',rel,i',x',k⟩:=hz
   cases v with
   | none=>exact ⟨rel,.obj H.length,_,ρ',⟨_,x'.p.get hc0,rfl⟩,i',q.2.then q.1 x',k⟩
   | _=>exact k.elim
 | .ok .next,hz=>exact hz.elim
 | .ok .brk,hz=>exact hz.elim
 | .ok .cont,hz=>exact hz.elim
 | .error e,hz=>exact hz.back F q.1 q.2
end
section
variable {B:Base} {A:Around} {env ce:Env} {fl outer:List Env} {s s1 s2:Shared} {ρ ρ1 ρ2:List Cell} {H H1 H2 H0:Hp} {d:Nat} {sc:Scope} {m m0 m1 m2:Lo} {E:Value→Shared→Prop}
theorem Thru.land {k:EK} {H':Hp} {e:Value} {s':Shared} (F:FF B ρ fl s.heap) (t:Thru B ρ fl s k H' e s'):∃ ρ',SI B ρ' H' s'∧Ext ρ ρ' s s':=by
 obtain ⟨ρ',Bh,ea,a0,_,Y,w1,w2,w3,w4⟩:=t
 refine ⟨ρ',⟨fun b o q=>w1 _ _ (Y.keep b o q),⟨Y.hr.len,fun i c o h1 h2=>(Y.hr.obj i c o h1 h2).mono (Pre.refl _) (fun o q=>w1 _ _ q) (fun o q=>w1 _ _ q),Y.hr.apart⟩,Y.fresh⟩,⟨Y.pre,fun b o q off=>?_,Y.gens,Y.os⟩⟩
 by_cases hb:b∈fl.filterMap (·.frame)
 ·obtain ⟨sl,h1⟩:=Y.frames b o q hb
  refine ⟨sl,h1,fun hd=>?_⟩
  obtain ⟨e,he,hL⟩:=List.mem_filterMap.mp hb
  obtain ⟨_,L',o',b',c',⟨es,ep,d'⟩,_⟩:=F e he
  rw [hL] at b'; cases b'
  rw [q] at c'; cases c'
  exact absurd d' (hd es ep)
 ·obtain ⟨sl,h1,h2⟩:=Y.stay b o q off hb
  exact ⟨sl,w1 _ _ h1,h2⟩
theorem Thru.is {k:EK} {H':Hp} {e:Value} {s':Shared} (t:Thru B ρ fl s k H' e s'):∃ ea X,e = .ref ea∧k.cls = .type X∧s'.TypeIs (.ref ea) X:=by
 obtain ⟨ρ',Bh,ea,a0,rfl,Y,W⟩:=t
 obtain ⟨ob,h1,h2⟩:=W.there
 cases k with
 | val=>exact ⟨ea, "ValueError",rfl,rfl,ob,h1,h2⟩
 | stop=>exact ⟨ea, "StopIteration",rfl,rfl,ob,h1,h2⟩
theorem zm4:isSubtype (.type "StopIteration") (.type "StopIteration") = pure true:=by rw [isSubtype_type]; kernel_rfl
theorem zp9:isSubtype (.type "ValueError") (.type "StopIteration") = pure false:=by rw [isSubtype_type]; kernel_rfl
theorem zwn {α:Type}:∀ {l:List α} {i:Nat} {o:α},l[i]? = some o→l.set i o = l
 | [],_,_,h=>by simp at h
 | a::r,0,o,h=>by simp at h; simp [h]
 | a::r,i + 1,o,h=>by simp at h; simp [zwn h]
theorem SI.touch {i n:Nat} {c:Cell} {xs:List V} {vs:List Value} {h':Heap} {k:Nat} (I:SI B ρ H s) (hc:ρ[i]? = some c) (hx:H[i]? = some (.list xs)) (e:c.2 = c.1) (hs:Heap.SameBut c.1 s.heap h') (g:h'.get? c.1 = some (W.listOf vs.toArray n)) (r:VRs ρ xs vs) (hl:xs.length≤cap):
  SI B ρ H { s with heap:=h',toks:=k }∧Ext ρ ρ s { s with heap:=h',toks:=k }:=by
 have:=I.set (s':={ s with heap:=h',toks:=k }) (o:=.list xs) hc (fun b o n1 _ q=>(hs.2 b n1).trans q) rfl rfl ⟨⟨e,hl⟩,vs,n,g,r⟩
 rw [zwn hx] at this
 exact this
theorem z64 {fn C x:Addr} {ox:Obj} {od:Option Obj} {Q:Option Value→Shared→Prop} {M:Model} {K:Frag} (X:K.In s.heap) (I:W.InstAt s.heap x ox C od) (hs:findIn K (.ref C) "__next__" = some (some (.ref fn))) (hf:isFn K (.ref fn) = true)
  (h:wpAny M A (PySem.call (.ref fn) [.ref x]) (fun v s'=>Q (some v) s') (fun e s'=>wpAny M A (isInstance e (.type "StopIteration")) (fun b s₂=>if b = true then Q none s₂ else E e s₂) E s') s):wpAny M A (pyNext (.ref x)) Q E s:=by
 unfold pyNext
 refine wpAny_bind (wpAny_attempt (special_fn (name := "__next__") (args:=[]) X I hs (beq_iff_eq.mp hf) (wpAny_mono h (fun v s' hq=>?_) (fun e s' he=>?_))))
 ·exact wpAny_pure hq
 ·refine wpAny_bind (wpAny_mono he (fun b s₂ hb=>?_) fun _ _ z=>z)
  cases b with
  | true=>exact wpAny_pure hb
  | false=>exact wpAny_throw hb
theorem z46 {n a:Nat} {fn:Addr} {Q:V→Hp→Prop} {E:EK→Hp→Prop} (hfn:nextM B H n = some fn)
  (h:@WpI _ ⟨fun v H1=>@optI _ ⟨fun q=>@WpI _ ⟨Q⟩ ⟨E⟩ (z37 B d n a) q.2⟩ (zax H1 "list.append" [.obj a,v])⟩ ⟨fun k H1=>match k with | .stop=>Q (.obj a) H1 | .val=>E .val H1⟩ (call B d (.top (.ref fn)) [.obj n] [] []) H):
  @WpI _ ⟨Q⟩ ⟨E⟩ (z37 B d n a) H:=fun O A fl s ρ c ca hfr R I F hn ha ht=>by
 obtain ⟨C,fs,hx,hfn⟩:=zdh hfn
 ·obtain ⟨es,k,IA,_,_⟩:=I.inst hn hx
  obtain ⟨a1,a2,a3,_⟩:=O.a.meth _ _ _ hfn
  refine codeAny_builtin PySem.F.entry_extend_loop ?_
  rw [Around.under_plainId PySem.F.plain_extend_loop _]
  show wpAny _ A.in1 (pyNext (.ref c.1) >>= _) _ _ s
  have CR:=(h O (A:=A.in1) (vs:=[.ref c.1]) (us:=[]) (gv:=.ref fn) hfr R I F ⟨rfl,.inl ⟨_,rfl⟩⟩ ⟨⟨c,hn,rfl⟩,trivial⟩ trivial rfl ht).1
  refine wpAny_bind (z64 (KIn O.k I) IA a2 a3 (wpAny_mono (wpAny_toks_of ht CR) (fun w s2 z=>?_) fun e s2 z=>?_))
  ·obtain ⟨t2,v,H1,ρ2,rv,i2,x2,h⟩:=z
   obtain ⟨q,hq,h⟩:=zav h
   have hq':mAppend H1 [.obj a,v] = some q:=hq
   have ha2:=x2.p.get ha
   obtain ⟨xs,hxs,⟨⟨e1,_⟩,vs,n',g,rvs⟩,hq'⟩:=za3 i2 ha2 (show onLs _ _ = some q from hq')
   obtain ⟨hcap,hq'⟩:=zaf hq'
   ·· cases hq'
      have hz:vs.length < cap:=by rw [← rvs.len]; exact hcap
      have fz:=fitsz (Nat.le_of_lt hz)
      show wpAny _ A.in1 (updateSeq ca.1 (·.push w) >>= _) _ _ _
      refine wpAny_bind ?_
      have e3:Obj.mapSeq (·.push w) (W.listOf vs.toArray n') = W.listOf (vs++[w]).toArray (n' + 1):=by
       unfold Obj.mapSeq W.listOf
       simp
      refine wpAny_updateSeq g rfl ?_ (by rw [List.size_toArray]; exact fz) (by rw [Array.size_push,List.size_toArray]; lia)
      obtain ⟨ρ3,_,i3,x3⟩:=zja (s:=s2) (k:=s2.toks) (xs:=xs++[v]) (vs:=vs++[w]) (n:=n' + 1) (v:=.none) (w:=.none) i2 ha2 e1 (Heap.SameBut.update s2.heap ca.1 (Obj.mapSeq (·.push w))) (by rw [Heap.get?_update_self _ g (by rw [e3]; rfl),e3]) (rvs.append ⟨rv,trivial⟩) (by rw [List.length_append]; exact hcap) rfl
      have xx:=x2.then i2 x3
      refine wpAny_pure ⟨plainId_quiet PySem.F.plain_extend_loop _,codeAny_mono (h O hfr R i3 (F.ext xx) (xx.p.get hn) (x3.p.get ha2) t2) fun q' s' y=>?_⟩
      match q',y with
      | .ok (.ret v),y=>obtain ⟨y0,v',H',ρ',r,i,x,q⟩:=y; exact ⟨y0,v',H',ρ',r,i,xx.then i3 x,q⟩
      | .ok .next,y=>exact y.elim
      | .ok .brk,y=>exact y.elim
      | .ok .cont,y=>exact y.elim
      | .error e,y=>exact y.back F i3 xx
  ·obtain ⟨t2,k',H1,z',q⟩:=z
   obtain ⟨ea,X,rfl,hX,hT⟩:=z'.is
   cases k' with
   | stop=>
     cases hX
     refine wpAny_isInstance hT zm4 ?_
     rw [if_pos rfl]
     obtain ⟨ρ',i',x'⟩:=z'.land F
     exact wpAny_pure ⟨rfl,.obj a,_,ρ',⟨ca,x'.p.get ha,rfl⟩,i',x',q⟩
   | val=>
     cases hX
     refine wpAny_isInstance hT zp9 ?_
     rw [if_neg Bool.false_ne_true]
     exact ⟨_,_,z',q⟩
theorem z7s {f C x:Addr} {ox:Obj} {od:Option Obj} {Q:Value→Shared→Prop} {M:Model} {K:Frag} (X:K.In s.heap) (I:W.InstAt s.heap x ox C od) (hs:findIn K (.ref C) "__iter__" = some (some (.ref f))) (hf:isFn K (.ref f) = true)
  (h:wpAny M A (PySem.call (.ref f) [.ref x]) (fun v s'=>wpAny M A (specialOf v "__next__") (fun r s₂=>match r with | none=>False | some _=>Q v s₂) E s') E s):wpAny M A (pyIter (.ref x)) Q E s:=by
 have fin:wpAny M A (PySem.call (.ref f) [.ref x] >>= fun v=>pure (some v)) (fun r s'=>∃ v,r = some v∧wpAny M A (specialOf v "__next__") (fun r s₂=>match r with | none=>False | some _=>Q v s₂) E s') E s:=
  wpAny_bind (wpAny_mono h (fun v s' h'=>wpAny_pure ⟨v,rfl,h'⟩) fun _ _ z=>z)
 have one:∀ refuse:Sem Value,wpAny M A (callSpecialIfBoundUnlessNone? (.ref x) "__iter__" refuse) (fun r s'=>∃ v,r = some v∧wpAny M A (specialOf v "__next__") (fun r s₂=>match r with | none=>False | some _=>Q v s₂) E s') E s:=by
  intro refuse
  simp only [callSpecialIfBoundUnlessNone?,bindSpecialIfBound?]
  refine wpAny_holding (wpAny_bind (wpAny_bind (wpAny_bind (I.type.here ((looks_findIn X hs).here ?_)))))
  refine wpAny_bind (wpAny_askSetting (wpAny_ite ?_))
  have fin2:wpAny M A (if (Value.ref f == Value.none) = true then (refuse >>= fun v=>pure (some v)) else (PySem.call (.ref f) [.ref x] >>= fun v=>pure (some v))) (fun r s'=>∃ v,r = some v∧wpAny M A (specialOf v "__next__") (fun r s₂=>match r with | none=>False | some _=>Q v s₂) E s') E s:=by
   rw [if_neg (show ¬ ((Value.ref f == Value.none) = true) from Bool.false_ne_true)]
   exact fin
  split
  ·exact wpAny_bind ((bind_fn X _ (beq_iff_eq.mp hf)).here (wpAny_pure (by exact fin2)))
  ·exact wpAny_tryCatch (wpAny_bind ((bind_fn X _ (beq_iff_eq.mp hf)).here (wpAny_pure (by exact fin2))))
 unfold pyIter
 refine wpAny_bind (wpAny_bind (I.type.here ((looks_findIn X hs).here ?_)))
 show wpAny M A (callSpecialIfBoundUnlessNone? (.ref x) "__iter__" _ >>= _) Q E s
 refine wpAny_bind (wpAny_mono (one _) (fun r s' hr=>?_) fun _ _ z=>z)
 obtain ⟨v,rfl,hv⟩:=hr
 refine wpAny_bind (wpAny_mono hv (fun r s₂ hr=>?_) fun _ _ z=>z)
 cases r with
 | none=>exact hr.elim
 | some g=>exact wpAny_pure hr
theorem z73 {C x:Addr} {ox:Obj} {od:Option Obj} {M:Model} {K:Frag} (X:K.In s.heap) (I:W.InstAt s.heap x ox C od) (h1:findIn K (.ref C) "__len__" = some none) (h2:findIn K (.ref C) "__length_hint__" = some none):
  Looks M s.heap (Builtin.List.listLengthHint (.ref x)) true:=by
 have L1:Looks M s.heap (specialOf (.ref x) "__len__") none:=I.type.andThen (looks_findIn X h1)
 have L2:Looks M s.heap (specialOf (.ref x) "__length_hint__") none:=I.type.andThen (looks_findIn X h2)
 exact L1.andThen (L2.andThen .now)
theorem z6z (vs:List Value) (n:Nat):Obj.mapSeq (·.push Value.none) (W.listOf vs.toArray n) = W.listOf (vs++[Value.none]).toArray (n + 1)∧Obj.mapSeq (·.pop) (W.listOf (vs++[Value.none]).toArray (n + 1)) = W.listOf vs.toArray (n + 1 + 1):=by
 unfold Obj.mapSeq W.listOf
 exact ⟨by simp,by simp⟩
theorem zxu {M:Model} {L:Addr} {vs:List Value} {n:Nat} {K:Unit→Shared→Prop} {E:Value→Shared→Prop} (g:s.heap.get? L = some (W.listOf vs.toArray n)) (hl:vs.length + 1≤cap)
  (hk:∀ h' n',Heap.SameBut L s.heap h'→h'.get? L = some (W.listOf vs.toArray n')→K () { s with heap:=h' }):wpAny M A (updateSeq L (·.push .none) >>= fun _=>updateSeq L (·.pop)) K E s:=by
 obtain ⟨e3,e4⟩:=z6z vs n
 have fz2:=fitsz hl
 have fz:=Nat.le_trans (Nat.le_succ _) fz2
 refine wpAny_bind (wpAny_updateSeq g rfl ?_ (by rw [List.size_toArray]; exact fz) (by rw [Array.size_push,List.size_toArray]; exact Nat.le_succ_of_le fz2))
 have g4:(s.heap.update L (Obj.mapSeq (·.push Value.none))).get? L = some (W.listOf (vs++[Value.none]).toArray (n + 1)):=by
  rw [Heap.get?_update_self _ g (by rw [e3]; rfl),e3]
 refine wpAny_updateSeq g4 rfl (hk _ (n + 1 + 1) ((Heap.SameBut.update ..).trans (Heap.SameBut.update ..)) ?_) (by rw [List.size_toArray,List.length_append]; exact fz2) (by rw [Array.size_pop,List.size_toArray,List.length_append]; exact Nat.le_succ_of_le fz)
 rw [Heap.get?_update_self _ g4 (by rw [e4]; rfl),e4]
theorem z2m {a:Value} {Q E:Value→Shared→Prop} (I:SI B ρ H s)
  (hk:∀ h2 n ρ1 ca,ρ1[H.length]? = some ca→ca.1 = s.heap.objs.size→ca.2 = ca.1→SI B ρ1 (H++[.list []]) { s with heap:=h2 }→Ext ρ ρ1 s { s with heap:=h2 }→h2.get? s.heap.objs.size = some (W.listOf #[] n)→
   wpAny (model B.prog B.w) A.in1.in1 (Builtin.List.listExtendWith (.ref s.heap.objs.size) a .none)
    (fun fin s'=>match fin with | .done f=>wants (fun r s₂=>r = .none∧Q (.ref s.heap.objs.size) s₂) E (.ok f) s' | .again c'=>c'.quiet = true∧codeAny (model B.prog B.w) A.in1 c' (wants (fun r s₂=>r = .none∧Q (.ref s.heap.objs.size) s₂) E) s')
    (fun e s'=>wants (fun r s₂=>r = .none∧Q (.ref s.heap.objs.size) s₂) E (.error e) s') { s with heap:=h2 }):
  wpAny (model B.prog B.w) A (PySem.call (.type "list") [a] []) Q E s:=by
 obtain ⟨ρ1,⟨ca,hca,eca⟩,i1,x1⟩:=zdy (vs:=[]) (xs:=[]) (n:=0) (k:=s.toks) (h':=s.heap.push { cls:=.type "list",data:=.seq #[] }) I (fun b o e=>Heap.get?_push_of_some _ e) (Heap.get?_push_size _ rfl) trivial (Nat.zero_le _)
 injection eca with eca
 have hx1:(H++[Mine.O.list []])[H.length]? = some (.list []):=List.getElem?_concat_length
 refine callType_codes (Q₁:=fun obj s₁=>obj = .ref s.heap.objs.size∧s₁ = { s with heap:=s.heap.push { cls:=.type "list",data:=.seq #[] } }) PySem.F.called_list (PySem.F.typeCall_list_1 _) PySem.F.entry_list_init (code_list_new _ ⟨rfl,rfl⟩) fun obj s₁ h₁=>?_
 obtain ⟨rfl,rfl⟩:=h₁
 have hS:(s.heap.push { cls:=.type "list",data:=.seq #[] }).get? s.heap.objs.size = some { cls:=.type "list",data:=.seq #[] }:=Heap.get?_push_size _ rfl
 refine ⟨⟨_,hS,rfl⟩,PySem.F.args_list_init_2 _ _,?_⟩
 show wpAny _ _ (do let old ← Builtin.List.listItems (.ref s.heap.objs.size); Builtin.List.listUpdate (.ref s.heap.objs.size) (fun _=>#[]); letGo old.toList.reverse; Builtin.List.listExtendWith (.ref s.heap.objs.size) a .none) _ _ _
 refine wpAny_bind ?_
 unfold Builtin.List.listItems
 refine wpAny_bind (wpAny_seqItems hS rfl (wpAny_pure ?_))
 show wpAny _ _ (updateSeq s.heap.objs.size (fun _=>#[]) >>= fun _=>letGo (#[]:Array Value).toList.reverse >>= fun _=>Builtin.List.listExtendWith (.ref s.heap.objs.size) a .none) _ _ _
 refine wpAny_bind (wpAny_updateSeq hS rfl ?_)
 obtain ⟨ca',hca2,⟨eself,_⟩,_⟩:=i1.cell hx1
 rw [hca] at hca2; cases hca2
 obtain ⟨n2,en2⟩:∃ n2,Obj.mapSeq (fun _=>#[]) ({ cls:=.type "list",data:=.seq #[] }:Obj) = W.listOf #[] n2:=⟨_,rfl⟩
 have hS2:((s.heap.push { cls:=.type "list",data:=.seq #[] }).update s.heap.objs.size (Obj.mapSeq (fun _=>#[]))).get? s.heap.objs.size = some (W.listOf #[] n2):=by
  rw [Heap.get?_update_self _ hS (by rw [en2]; rfl),en2]
 obtain ⟨i2,x2⟩:=SI.touch (k:=s.toks) (vs:=[]) (n:=n2) (h':=(s.heap.push { cls:=.type "list",data:=.seq #[] }).update s.heap.objs.size (Obj.mapSeq (fun _=>#[]))) i1 hca hx1 eself (eca ▸ Heap.SameBut.update ..) (by rw [← eca]; exact hS2) trivial (Nat.zero_le _)
 exact wpAny_bind (wpAny_letGo (hk _ n2 ρ1 ca hca eca.symm eself i2 (x1.then i1 x2) hS2))
noncomputable def ExtNext (K:Frag) (L x:Addr) (PF:Fin→Shared→Prop) (s3:Shared):Prop:=∃ C od dx f vs n,K.In s3.heap∧W.InstAt s3.heap x (instObj C dx) C od∧findIn K (.ref C) "__next__" = some (some (.ref f))∧findIn K (.ref C) "__len__" = some none∧findIn K (.ref C) "__length_hint__" = some none∧
 s3.heap.get? L = some (W.listOf (List.toArray vs) n)∧vs.length + 1≤cap∧∀ h' n',Heap.SameBut L s3.heap h'→h'.get? L = some (W.listOf vs.toArray n')→PF (.again (.builtin "list.extend.loop" ⟨[.ref L,.ref x,.none],[]⟩)) { s3 with heap:=h' }
theorem ext_own {M:Model} {L x fi C dx:Addr} {K:Frag} {od:Option Obj} {PF:Fin→Shared→Prop} {PE:Value→Shared→Prop} (X:K.In s.heap) (I:W.InstAt s.heap x (instObj C dx) C od) (ne:L≠x) (hs:findIn K (.ref C) "__iter__" = some (some (.ref fi))) (hf:isFn K (.ref fi) = true)
  (h:wpAny M A (PySem.call (.ref fi) [.ref x]) (fun w s3=>w = .ref x∧ExtNext K L x PF s3) PE s):wpAny M A (Builtin.List.listExtendWith (.ref L) (.ref x) .none) PF PE s:=by
 unfold Builtin.List.listExtendWith
 refine wpAny_bind (I.type.here ?_)
 have h1:Builtin.List.listSameRef (.ref L) (.ref x) = false:=beq_eq_false_iff_ne.mpr fun e=>ne (by cases e; rfl)
 rw [h1]
 show wpAny M A (pyIter (.ref x) >>= _) _ _ _
 refine wpAny_bind (z7s X I hs hf (wpAny_mono h (fun w s3 z=>?_) fun _ _ z=>z))
 obtain ⟨rfl,C3,od3,dx3,f,vs,n,X3,I3,b2,l1,l2,g,hl,hk⟩:=z
 refine wpAny_bind (I3.type.here ((looks_findIn X3 b2).here ?_))
 refine wpAny_bind (wpAny_holding ((z73 X3 I3 l1 l2).here ?_))
 rw [Bool.true_or,if_pos rfl]
 exact wpAny_bind (wpAny_rule (wpAny_bind (zxu g hl fun h' n' sb g'=>wpAny_pure (hk h' n' sb g'))))
theorem wc_list {n:Nat} {fi:Addr} {Q:V→Hp→Prop} {E:EK→Hp→Prop} (hfi:iterM B H n = some fi)
  (h:@WpI _ ⟨fun it H1=>it = .obj n∧walkM B H1 n H.length = some ()∧@WpI _ ⟨Q⟩ ⟨E⟩ (z37 B d n H.length) H1⟩ ⟨E⟩ (call B d (.top (.ref fi)) [.obj n] [] []) (H++[.list []])):
  @WpI _ ⟨Q⟩ ⟨E⟩ (call B (d + 1) (.top (.type "list")) [.obj n] [] []) H:=fun O A fl s ρ gv vs us hfr R I F hg rv ru hl ht=>by
 obtain ⟨rfl,_⟩:=hg
 obtain ⟨u,rfl,c,hn,rfl⟩:=rv.one
 refine ⟨?_,fun a e=>by cases e⟩
 obtain ⟨C,fs,hx,hfi⟩:=zdh hfi
 ·obtain ⟨es,k,IA,_,_⟩:=I.inst hn hx
  have alive:=IA.at_
  have ne:s.heap.objs.size≠c.1:=fun e=>by rw [← e,za1] at alive; cases alive
  obtain ⟨a1,a2,a3,_⟩:=O.a.meth _ _ _ hfi
  refine z2m I fun h2 n2 ρ1 ca hca hca' eself i2 xx hS2=>?_
  have hx1:(H++[Mine.O.list []])[H.length]? = some (.list []):=List.getElem?_concat_length
  have hn1:=xx.p.get hn
  have hx2:(H++[Mine.O.list []])[n]? = some (.inst C fs):=by rw [List.getElem?_append_left (List.getElem?_eq_some_iff.mp hx).1]; exact hx
  obtain ⟨es2,k2,IA2,_,_⟩:=i2.inst hn1 hx2
  have K2:=KIn O.k i2
  have RC:RoomC A.in1.in1 d:=⟨by have:=R.depth; show A.depth + _ + _ < _; lia,by have:=R.units; show A.units + 1 + 1 + _ + _ < _; lia,R.handled⟩
  have CRx:=(h O (A:=A.in1.in1) (vs:=[.ref c.1]) (us:=[]) (gv:=.ref fi) hfr RC i2 (F.ext xx) ⟨rfl,.inl ⟨_,rfl⟩⟩ ⟨⟨c,hn1,rfl⟩,trivial⟩ trivial rfl ht).1
  refine ext_own K2 IA2 ne a2 a3 (wpAny_mono (wpAny_toks_of ht CRx) (fun w s3 z=>?_) fun e s3 z=>z.2.back F i2 xx)
  obtain ⟨t3,v,H1,ρ3,rw3,i3,x3,rfl,hw,h⟩:=z
  obtain ⟨c3,hc3,rfl⟩:=rw3
  have hn3:=x3.p.get hn1
  rw [hn3] at hc3; cases hc3
  obtain ⟨C3,fs3,hx3,hw⟩:=zdh hw
  obtain ⟨xs3,hl3,hw⟩:=znn hw
  obtain ⟨hg,_⟩:=zaf hw
  ·· rw [Bool.and_eq_true,Bool.and_eq_true,decide_eq_true_eq] at hg
     obtain ⟨⟨hg1,hg2⟩,hg3⟩:=hg
     obtain ⟨es3,k3,IA3,_,_⟩:=i3.inst hn3 hx3
     obtain ⟨fn,hfn⟩:=Option.isSome_iff_exists.mp hg2
     obtain ⟨b1,b2,b3,_⟩:=O.a.meth _ _ _ hfn
     obtain ⟨l1,l2⟩:=O.i _ hg1
     have K3:=KIn O.k i3
     have hca3:=x3.p.get hca
     obtain ⟨ca',hca4,⟨eself3,hcap⟩,vs,n',g,rvs⟩:=i3.cell hl3
     rw [hca3] at hca4; cases hca4
     rw [hca'] at g
     have hlen:=rvs.len
     refine ⟨rfl,C3,_,_,fn,vs,n',K3,IA3,b2,l1,l2,g,by rw [← hlen]; exact hg3,fun h5 n5 sb g5=>?_⟩
     obtain ⟨i5,x5⟩:=SI.touch (s:=s3) (k:=s3.toks) (vs:=vs) (n:=n5) (h':=h5) i3 hca3 hl3 eself3 (hca' ▸ sb) (by rw [hca']; exact g5) rvs hcap
     have x6:=(xx.then i2 x3).then i3 x5
     have DR:=h O (A:=A.in1) hfr RC i5 (F.ext x6) hn3 hca3 t3
     rw [hca'] at DR
     refine ⟨plainId_quiet PySem.F.plain_extend_loop _,codeAny_mono DR fun q' s' y=>?_⟩
     cases q' with
     | error e=>exact y.back F i5 x6
     | ok f=>cases f with
       | ret v=>obtain ⟨y0,v',H',ρ',r,i,x,q⟩:=y; exact ⟨y0,v',H',ρ',r,i,x6.then i5 x,q⟩
       | _=>exact y.elim
end
section
variable {R:RecF} {X:Ct} {H:Hp} {Q:Kt V} {E:Kt EK} {T:Kt Bool} (O:Ok X.B) (S:SX R X)
include O S
omit O S in
theorem zm7 {e:Expr} {a:Str} (h:strC e = some a):∃ k p,e = .Constant (.str a) k p:=by
 cases e with
 | Constant c k p=>cases c with
   | str b=>cases h; exact ⟨k,p,rfl⟩
   | _=>cases h
 | _=>cases h
theorem sE_call {f:Expr} {es:List Expr} {ks:List Keyword} {p:Pos} (h:@callE X.B X.d X.sc R X.m H Q E es ks p f):evX X (.Call f es ks p) H Q.default E.default:=by
 cases f with
 | Name f q=>
   cases ks with
   | nil=>exact z88 S O h
   | cons k r=>
     obtain ⟨o,e,kp⟩:=k
     cases o with
     | none=>cases r <;> exact h.elim
     | some n=>
       cases r with
       | cons _ _=>exact h.elim
       | nil=>exact z89 S O h
 | Attribute o x q=>
   cases ks with
   | cons _ _=>exact h.elim
   | nil=>
     cases es with
     | nil=>exact zo0 S O h
     | cons a r=>
       cases r with
       | nil=>exact zo0 S O h
       | cons b r=>
         cases r with
         | nil=>
           have h:@meth2 R X.m H Q E o x q p a b (strC a) (strC b):=h
           cases ha:strC a with
           | none=>rw [ha] at h; exact h.elim
           | some a'=>
             cases hb:strC b with
             | none=>rw [ha,hb] at h; exact h.elim
             | some b'=>
               rw [ha,hb] at h
               obtain ⟨_,_,rfl⟩:=zm7 ha
               obtain ⟨_,_,rfl⟩:=zm7 hb
               exact @z6g _ _ _ _ _ _ S _ _ _ _ _ _ _ _ _ h
         | cons c r=>
           cases r with
           | nil=>exact zo0 S O h
           | cons _ _=>exact h.elim
 | _=>exact h.elim
theorem sE_sub {o i:Expr} {q:Pos} (h:@subE X.B R X.m H Q E o q i):evX X (.Subscript o i q) H Q.default E.default:=by
 cases i with
 | Slice lo hi st p=>
   cases st with
   | none=>exact cut_ok' S h
   | some st=>
     cases lo with
     | none=>exact h.elim
     | some lo=>
       cases hi with
       | none=>exact z54 S h
       | some hi=>exact h.elim
 | _=>exact sub_ok' S O.k h
theorem sE_ok {e:Expr} (h:@stepE X.B X.d X.sc R X.m H Q E e):evX X e H Q.default E.default:=by
 cases e with
 | Call f es ks p=>exact sE_call O S h
 | Subscript o i q=>exact sE_sub O S h
 | Constant c k p=>exact z80 h
 | Name x p=>exact name_ok O.k h
 | BinOp l op r p=>exact z9e S h
 | UnaryOp op x p=>exact unop_ok S h
 | IfExp t b o p=>exact z7z S h
 | List es p=>exact list_ok S h
 | Tuple es k p=>exact z5y S h
 | Attribute o x p=>exact attr_ok S O h
 | ListComp elt gs sc' p=>exact h O
 | BoolOp op es p=>
   cases es with
   | nil=>exact h.elim
   | cons a r=>
     cases r with
     | nil=>exact h.elim
     | cons b r=>
       cases r with
       | cons _ _=>exact h.elim
       | nil=>
         cases op with
         | And=>exact and_ok S h
         | Or=>exact or_ok S h
 | Compare l ops rs p=>
   cases ops with
   | nil=>exact h.elim
   | cons op r=>
     cases r with
     | cons _ _=>exact h.elim
     | nil=>
       cases rs with
       | nil=>exact h.elim
       | cons a r=>
         cases r with
         | nil=>exact zzw S h
         | cons _ _=>exact h.elim
 | _=>exact h.elim
omit O in
theorem sT_ok {e:Expr} (h:@stepT R X.m H T E e):trX X e H T.default E.default:=by
 cases e with
 | UnaryOp op x p=>
   cases op with
   | Not=>exact fun N=>z0x S h N
   | _=>exact zp7 S rfl h
 | BoolOp op es p=>
   cases op with
   | And=>exact fun N=>wpAny_isTrue_BoolOp (S.ta h N)
   | Or=>exact fun N=>wpAny_isTrue_BoolOp (S.to h N)
 | IfExp t b o p=>exact h.elim
 | Compare l ops rs p=>
   cases ops with
   | nil=>exact h.elim
   | cons op r=>
     cases r with
     | cons _ _=>exact h.elim
     | nil=>
       cases rs with
       | nil=>exact h.elim
       | cons a r=>
         cases r with
         | nil=>exact fun N=>z0y S h N
         | cons _ _=>exact h.elim
 | _=>exact zp7 S rfl h
end
section
variable {R:RecF} {Y:Cs} {H:Hp} {m:Lo} {Q:Kt (Fl×Lo)} {E:Kt EK} (O:Ok Y.B) (S:SY R Y)
include O S
omit S in
theorem sR_ok {e:Expr} {v:Pos} (h:@z96 Y.B Y.sc m H E e):exX Y m (.Raise (some e) none v) H Q.default E.default:=by
 cases e with
 | Name c q=>exact znh O h
 | Call f es ks p=>
   cases f with
   | Name c q=>
     cases es with
     | nil=>exact h.elim
     | cons a r=>
       cases r with
       | cons _ _=>exact h.elim
       | nil=>
         cases ks with
         | cons _ _=>exact h.elim
         | nil=>
           obtain ⟨a',ha,k⟩:=zbu h
           obtain ⟨_,_,rfl⟩:=zm7 ha
           exact zqk O k
   | _=>exact h.elim
 | _=>exact h.elim
theorem sX_ok {st:Stmt} (h:@stepX Y.B Y.d Y.sc R m H Q E st):exX Y m st H Q.default E.default:=by
 cases st with
 | Expr e p=>exact expr_ok S h
 | Pass p=>exact fun N=>wpAny_Pass ⟨.next,_,_,_,rfl,N,h⟩
 | Break p=>exact fun N=>wpAny_Break ⟨.brk,_,_,_,rfl,N,h⟩
 | Continue p=>exact fun N=>wpAny_Continue ⟨.cont,_,_,_,rfl,N,h⟩
 | Return e p=>
   cases e with
   | none=>exact h.elim
   | some e=>exact z1c S h
 | Assign ts e p=>
   cases ts with
   | nil=>exact h.elim
   | cons t r=>
     cases r with
     | cons _ _=>exact h.elim
     | nil=>
       cases t with
       | Attribute o x q=>exact z0b S O h
       | Name x q=>exact z0a S h
       | Tuple es k q=>exact zz9 S h
       | _=>exact h.elim
 | AugAssign t op e p=>
   cases op with
   | Add=>
     cases t with
     | Attribute o x q=>exact augA_ok S O h
     | Name x q=>exact augN_ok S O h
     | _=>exact h.elim
   | _=>exact h.elim
 | If t a b p=>exact if_ok S h
 | While t b r p=>
   cases r with
   | nil=>exact fun N=>whl_start 0 (h O N)
   | cons _ _=>exact h.elim
 | For t it b r p=>
   cases r with
   | nil=>exact for_ok S O h
   | cons _ _=>exact h.elim
 | Raise e c v=>
   cases e with
   | none=>exact h.elim
   | some e=>cases c with
     | none=>exact sR_ok O h
     | some _=>exact h.elim
 | _=>exact h.elim
end
structure Snd (P:Prg) (d:Nat) (sc:Scope) (R:RecF):Prop where
 x:∀ {m A env fl s ρ},SX R ⟨P,d,sc,m,A,env,fl,s,ρ⟩
 y:∀ {A env outer s ρ},SY R ⟨P,d,sc,A,env,outer,s,ρ⟩
section
variable {P:Prg} {d:Nat} {sc:Scope} (O:Ok P)
include O
theorem z53 {R:RecF} (S:Snd P d sc R):Snd P d sc (step P d sc R):=by
 have x:∀ {m A env fl s ρ},SX (step P d sc R) ⟨P,d,sc,m,A,env,fl,s,ρ⟩:=⟨fun h=>sE_ok O S.x h,fun h=>evs_ok S.x h,fun h=>evo_ok S.x h,fun h=>sT_ok S.x h,fun h=>zx9 S.x h,fun h=>z0w S.x h⟩
 exact ⟨x,⟨fun _ _ _=>x,fun h=>sX_ok O S.y h,fun h=>exs_ok S.y h⟩⟩
theorem RF_ok (n:Nat):Snd P d sc (RF P d sc n):=by
 induction n with
 | zero=>
   have x:∀ {m A env fl s ρ},SX RF0 ⟨P,d,sc,m,A,env,fl,s,ρ⟩:=⟨fun h=>False.elim h,fun h=>False.elim h,fun h=>False.elim h,fun h=>False.elim h,fun h=>False.elim h,fun h=>False.elim h⟩
   exact ⟨x,⟨fun _ _ _=>x,fun h=>False.elim h,fun h=>False.elim h⟩⟩
 | succ n ih=>exact z53 O ih
end
section
variable {P:Prg} {d:Nat} {sc:Scope} {m:Lo} {H:Hp} {E:Kt EK}
theorem in_xs {S:Kt (Fl×Lo)} {ss:List Stmt} (h:@RecF.xs (RF P d sc 199) m S E H ss):WpI (exs P d sc m ss) H:=fun O _ _ _ _ _=>(RF_ok O 199).y.xs h
theorem in_t {T:Kt Bool} {e:Expr} (h:@RecF.t (RF P d sc 199) m T E H e):WpI (tr P d sc m e) H:=fun O _ _ _ _ _=>(RF_ok O 199).x.t h
theorem in_e {Q:Kt V} {e:Expr} (h:@RecF.e (RF P d sc 199) m Q E H e):WpI (ev P d sc m e) H:=fun O _ _ _ _ _=>(RF_ok O 199).x.e h
end
inductive Pc where
 | raw (c:Nat) | eqz | soft (e:Nat) | far (e:Nat) | esc (a b v:Nat)
noncomputable def Pc.shown:Pc→List Nat
 | .raw c=>[c] | .eqz=>[61,122] | .soft e=>[61,e] | .far e=>[e] | .esc a b _=>[61,a,b]
noncomputable def Pc.sign:Pc→List Nat
 | .raw c=>[c] | .eqz=>[61,122] | .soft _=>[] | .far _=>[10] | .esc _ _ v=>[v]
noncomputable def zi0 (e:Nat):Bool:=[11,12,28,133,8232].contains e
noncomputable def rawOk (c:Nat):Bool:=[39,34,92,32,10,35,9,97,70,52,233,46].contains c
noncomputable def Pc.ok:Pc→Bool
 | .raw c=>rawOk c
 | .eqz=>true
 | .soft e=>zi0 e
 | .far e=>zi0 e
 | .esc a b v=>(hexOf a).any fun x=>(hexOf b).any fun y=>16 * x + y == v
noncomputable abbrev zau (l:List Pc):List Nat:=l.flatMap Pc.shown
noncomputable abbrev zbv (l:List Pc):List Nat:=l.flatMap Pc.sign
noncomputable def zbq (l:List Nat):List Nat:=match l with
 | []=>[10]
 | c::r=>if c = 61 then (match r with
   | []=>[]
   | a::r1=>match r1 with
     | []=>61::zbq [a]
     | b::r2=>if (hexOf a).isSome && (hexOf b).isSome then (16 * (hexOf a).getD 0 + (hexOf b).getD 0)::zbq r2 else 61::zbq (a::b::r2))
   else c::zbq r
theorem zqd (a b:Nat) (r:List Nat):zbq (61::a::b::r) = if (hexOf a).isSome && (hexOf b).isSome then (16 * (hexOf a).getD 0 + (hexOf b).getD 0)::zbq r else 61::zbq (a::b::r):=by kernel_rfl
theorem zhr {c:Nat} (h:c≠61) (r:List Nat):zbq (c::r) = c::zbq r:=by
 cases r with
 | nil=>exact (by kernel_rfl:zbq [c] = if c = 61 then [] else c::zbq []).trans (if_neg h)
 | cons a r=>cases r with
   | nil=>exact (by kernel_rfl:zbq [c,a] = if c = 61 then 61::zbq [a] else c::zbq [a]).trans (if_neg h)
   | cons b r=>exact (by kernel_rfl:zbq (c::a::b::r) = if c = 61 then (if (hexOf a).isSome && (hexOf b).isSome then (16 * (hexOf a).getD 0 + (hexOf b).getD 0)::zbq r else 61::zbq (a::b::r)) else c::zbq (a::b::r)).trans (if_neg h)
noncomputable def linesD (ls:List (List Nat)):List Nat:=ls.flatMap fun x=>zbq (za4 x)
noncomputable def decL (l:List Nat):List Nat:=
 if (l.getLast? == some 13 || l.getLast? == some 10) = false∧zzu (linesD (linesL [] l)) [10] = true then (linesD (linesL [] l)).dropLast else linesD (linesL [] l)
noncomputable def isBl:Pc→Bool
 | .raw c=>c == 32 || c == 9
 | _=>false
noncomputable def isLf:Pc→Bool
 | .raw c=>c == 10
 | .far _=>true
 | _=>false
noncomputable def stripB (kept:List Pc):List Pc:=(kept.reverse.dropWhile isBl).reverse
noncomputable def zc8:List Pc→List Pc→List Pc
 | kept,[]=>kept
 | kept,p::r=>zc8 ((if isLf p then stripB kept else kept)++[p]) r
theorem zjb (k:List Pc) (p:Pc) (r:List Pc):zc8 k (p::r) = zc8 ((if isLf p then stripB k else k)++[p]) r:=rfl
noncomputable def zqs (l:List Pc):List Nat:=zbv (zc8 [] l)
theorem zg7 {c x:Nat} (h:hexOf c = some x):48≤c∧c≤102∧x < 16∧c≠61∧c≠92:=of_decide_eq_true (zkr (p:=fun c x=>decide (48≤c∧c≤102∧x < 16∧c≠61∧c≠92)) (by kernel_rfl) h)
theorem z7u {c:Nat} (h1:33≤c) (h2:c≤126):isSp c = false:=by
 have:∀ c:Fin 127,33≤c.val→isSp c.val = false:=by decide +kernel
 exact this ⟨c,Nat.lt_succ_of_le (by assumption)⟩ h1
theorem isNl_low {c:Nat} (h1:33≤c) (h2:c≤126):isNl c = false:=by
 have:∀ c:Fin 127,33≤c.val→isNl c.val = false:=by decide +kernel
 exact this ⟨c,Nat.lt_succ_of_le (by assumption)⟩ h1
theorem cont_all {l:List Nat} {p:Nat→Bool} (e:l.all p = true) {c:Nat} (h:l.contains c = true):p c = true:=List.all_eq_true.mp e c (List.contains_iff_mem.mp h)
theorem imp_no {a b:Bool} (h:(!a || !b) = true) (k:a = true):b = false:=by subst k; exact (Bool.not_eq_true' b).mp h
theorem imp_eq {a b c:Bool} (h:(!a || b == c) = true) (k:a = true):b = c:=by subst k; exact beq_iff_eq.mp h
theorem zwx {e:Nat} (h:zi0 e = true):isNl e = true∧e≠13:=⟨cont_all (p:=isNl) (by kernel_rfl) h,fun q=>by subst q; exact absurd h (by decide)⟩
theorem zqw {a b v:Nat} (h:(Pc.esc a b v).ok = true):∃ x y,hexOf a = some x∧hexOf b = some y∧16 * x + y = v:=by
 simp only [Pc.ok] at h
 cases ha:hexOf a with
 | none=>rw [ha] at h; cases h
 | some x=>
   cases hb:hexOf b with
   | none=>rw [ha,hb] at h; cases h
   | some y=>rw [ha,hb] at h; exact ⟨x,y,rfl,rfl,beq_iff_eq.mp h⟩
noncomputable def inLine:Pc→Bool
 | .raw c=>c != 10
 | .eqz=>true
 | .esc ..=>true
 | _=>false
theorem zik (s:List Nat):∀ (cur r:List Nat),(∀ c∈s,isNl c = false)→linesL cur (s++r) = linesL (cur++s) r:=by
 induction s with
 | nil=>intro cur r _; rw [List.append_nil]; rfl
 | cons c s ih=>
   intro cur r h
   have hc:=h c (.head _)
   rw [List.cons_append,zh0 _ _ _ (fun _ e _=>by subst e; exact absurd hc (by decide)),if_neg (by rw [hc]; exact Bool.false_ne_true),ih _ r fun d hd=>h d (.tail _ hd),List.append_assoc]
   rfl
theorem zmd {c:Nat} (h:isNl c = true) (h13:c≠13) (cur r:List Nat):linesL cur (c::r) = cur::linesL [] r:=by
 rw [zh0 _ _ _ (fun _ e _=>h13 e),if_pos h]
theorem zil {p:Pc} (h:p.ok = true) (hi:inLine p = true):∀ c∈p.shown,isNl c = false:=by
 cases p with
 | raw c=>
   intro d hd
   rw [List.mem_singleton.mp hd]
   exact imp_no (cont_all (p:=fun c=>!(c != 10) || !isNl c) (by kernel_rfl) h) hi
 | eqz=>decide
 | soft e=>cases hi
 | far e=>cases hi
 | esc a b v=>
   obtain ⟨x,y,ha,hb,_⟩:=zqw h
   have h1:=zg7 ha
   have h2:=zg7 hb
   intro d hd
   simp only [Pc.shown,List.mem_cons,List.not_mem_nil,or_false] at hd
   rcases hd with rfl | rfl | rfl
   ·decide
   ·exact isNl_low (by lia) (by lia)
   ·exact isNl_low (by lia) (by lia)
theorem scanE_piece {p:Pc} (h:p.ok = true) (hi:inLine p = true) (t:List Nat):zbq (p.shown++t) = p.sign++zbq t:=by
 cases p with
 | raw c=>
   exact zhr (fun e=>by subst e; exact absurd h (by decide)) t
 | eqz=>
   cases t with
   | nil=>rfl
   | cons b r=>
     show zbq (61::122::b::r) = _
     rw [zqd,if_neg (by rw [show hexOf 122 = none from rfl]; exact Bool.false_ne_true),zhr (by decide)]
     rfl
 | soft e=>cases hi
 | far e=>cases hi
 | esc a b v=>
   obtain ⟨x,y,ha,hb,hv⟩:=zqw h
   show zbq (61::a::b::t) = _
   rw [zqd,if_pos (by rw [ha,hb]; rfl),ha,hb,← hv]
   rfl
theorem zl3 (q:List Pc) (t:List Nat) (h:∀ p∈q,p.ok = true) (hi:∀ p∈q,inLine p = true):zbq (zau q++t) = zbv q++zbq t:=by
 induction q with
 | nil=>rfl
 | cons p q ih=>
   rw [zau,zbv,List.flatMap_cons,List.flatMap_cons,List.append_assoc,List.append_assoc,scanE_piece (h p (.head _)) (hi p (.head _)),ih (fun x hx=>h x (.tail _ hx)) fun x hx=>hi x (.tail _ hx)]
theorem zme {p:Pc} (h:p.ok = true) (hi:inLine p = true):∃ s c,p.shown = s++[c]∧(isSp c = isBl p)∧(isBl p = true→s = []):=by
 cases p with
 | raw c=>
   refine ⟨[],c,rfl,?_,fun _=>rfl⟩
   exact imp_eq (cont_all (p:=fun c=>!(c != 10) || isSp c == isBl (.raw c)) (by kernel_rfl) h) hi
 | eqz=>exact ⟨[61],122,rfl,by decide,fun e=>by cases e⟩
 | soft e=>cases hi
 | far e=>cases hi
 | esc a b v=>
   obtain ⟨x,y,ha,hb,_⟩:=zqw h
   have h2:=zg7 hb
   exact ⟨[61,a],b,rfl,z7u (by lia) (by lia),fun e=>by cases e⟩
theorem zih (l:List Nat) (c:Nat):za4 (l++[c]) = if isSp c then za4 l else l++[c]:=by
 unfold za4
 rw [List.reverse_append,List.reverse_singleton,List.singleton_append,List.dropWhile_cons]
 split
 ·rfl
 ·rw [List.reverse_cons,List.reverse_reverse]
theorem zc6 (l:List Pc) (p:Pc):stripB (l++[p]) = if isBl p then stripB l else l++[p]:=by
 unfold stripB
 rw [List.reverse_append,List.reverse_singleton,List.singleton_append,List.dropWhile_cons]
 split
 ·rfl
 ·rw [List.reverse_cons,List.reverse_reverse]
theorem zj5 {α:Type} {P:List α→Prop} (h0:P []) (h1:∀ l a,P l→P (l++[a])) (l:List α):P l:=by
 have:∀ n (l:List α),l.length = n→P l:=fun n=>by
  induction n with
  | zero=>intro l hl; rw [List.eq_nil_of_length_eq_zero hl]; exact h0
  | succ n ih=>
    intro l hl
    have hne:l≠[]:=fun e=>by rw [e] at hl; cases hl
    rw [← List.dropLast_concat_getLast hne]
    exact h1 _ _ (ih _ (by rw [List.length_dropLast,hl]; rfl))
 exact this _ _ rfl
theorem zt4 (q:List Pc):(∀ p∈q,p.ok = true)→(∀ p∈q,inLine p = true)→za4 (zau q) = zau (stripB q):=by
 induction q using zj5 with
 | h0=>intro _ _; rfl
 | h1 q p ih=>
   intro h hi
   have hp:=h p (by simp)
   have hip:=hi p (by simp)
   obtain ⟨s,c,e,hc,hs⟩:=zme hp hip
   rw [zc6,zau,List.flatMap_append,List.flatMap_cons,List.flatMap_nil,List.append_nil,e,← List.append_assoc,zih,hc]
   split
   ·rename_i hb
    rw [hs hb,List.append_nil]
    exact ih (fun x hx=>h x (by simp [hx])) fun x hx=>hi x (by simp [hx])
   ·rw [zau,List.flatMap_append,List.flatMap_cons,List.flatMap_nil,List.append_nil,e,← List.append_assoc]
theorem zho (q:List Pc):∀ p∈stripB q,p∈q:=by
 intro p hp
 unfold stripB at hp
 exact List.mem_reverse.mp ((List.dropWhile_sublist _).subset (List.mem_reverse.mp hp))
theorem line_val {q:List Pc} (h:∀ p∈q,p.ok = true) (hi:∀ p∈q,inLine p = true):zbq (za4 (zau q)) = zbv (stripB q)++[10]:=by
 rw [zt4 q h hi]
 have:=zl3 (stripB q) [] (fun p hp=>h p (zho q p hp)) fun p hp=>hi p (zho q p hp)
 rw [List.append_nil] at this
 exact this
theorem z2p {q:List Pc} (h:∀ p∈q,p.ok = true) (hi:∀ p∈q,inLine p = true):zbq (za4 (zau q++[61])) = zbv q:=by
 rw [zih,if_neg (by decide),zl3 q _ h hi]
 exact List.append_nil _
theorem zl0 {a q:List Pc} (h:∀ p∈a.getLast?,isBl p = false):stripB (a++q) = a++stripB q:=by
 induction q using zj5 with
 | h0=>
   simp only [List.append_nil,show stripB [] = [] from rfl]
   induction a using zj5 with
   | h0=>rfl
   | h1 a x _=>rw [zc6,if_neg (by simpa using h x (by simp))]
 | h1 q x ih=>rw [← List.append_assoc,zc6,zc6]; split <;> simp_all
theorem zj1 {q:List Pc} (h:∀ p∈q.getLast?,isBl p = false):stripB q = q:=by
 have:=zl0 (q:=[]) h
 simpa [stripB] using this
noncomputable def good (p:Pc):Bool:=inLine p && !isBl p
theorem zeh (x:List Nat) (l:List (List Nat)):linesD (x::l) = zbq (za4 x)++linesD l:=by simp [linesD]
section
variable {q done r:List Pc} (hq:∀ p∈q,p.ok = true) (hi:∀ p∈q,inLine p = true)
include hq hi
theorem dr_nil (hg:∃ p,q.getLast? = some p∧good p = true):zbv (done++q)++[10] = zbv done++linesD (linesL (zau q) []):=by
 obtain ⟨p,hp,hgp⟩:=hg
 have hne:(zau q).isEmpty = false:=by
  cases e:zau q with
  | cons=>rfl
  | nil=>exact absurd (List.flatMap_eq_nil_iff.mp e p (List.mem_of_getLast? hp)) (by cases p <;> exact fun h=>nomatch h)
 rw [zgz,hne,if_neg Bool.false_ne_true,zeh,line_val hq hi,zj1 fun x hx=>by
  cases hp.symm.trans hx
  exact (Bool.not_eq_true' _).mp (Bool.and_eq_true_iff.mp hgp).2]
 rw [zbv,List.flatMap_append,List.append_assoc]
 exact congrArg (_++·) (List.append_nil _).symm
theorem dr_end {p:Pc} {e:Nat} (h1:isNl e = true) (h2:e≠13) (h3:isLf p = true) (h4:p.shown = [e]) (h5:p.sign = [10]) (h6:isBl p = false) (hd:∀ p∈done.getLast?,isBl p = false)
  (ih:zbv (zc8 (done++stripB q++[p]++[]) r)++[10] = zbv (done++stripB q++[p])++linesD (linesL [] (zau r))):
  zbv (zc8 (done++q) (p::r))++[10] = zbv done++linesD (linesL (zau q) (zau (p::r))):=by
 rw [List.append_nil] at ih
 show _ = zbv done++linesD (linesL (zau q) (p.shown++zau r))
 rw [zjb,h3,if_pos rfl,zl0 hd,ih,h4,List.singleton_append,zmd h1 h2,zeh,line_val hq hi]
 rw [zbv,List.flatMap_append,List.flatMap_append,List.flatMap_singleton,h5,List.append_assoc,List.append_assoc,List.append_assoc]
theorem dr_soft {e:Nat} (he:zi0 e = true)
  (ih:zbv (zc8 (done++q++[.soft e]++[]) r)++[10] = zbv (done++q++[.soft e])++linesD (linesL [] (zau r))):
  zbv (zc8 (done++q) (.soft e::r))++[10] = zbv done++linesD (linesL (zau q) (zau (.soft e::r))):=by
 rw [List.append_nil] at ih
 rw [zjb,if_neg (show ¬ isLf (.soft e) = true from Bool.false_ne_true),ih,show zau (.soft e::r) = [61]++(e::zau r) from rfl,zik [61] _ _ (by decide),zmd (zwx he).1 (zwx he).2,zeh,z2p hq hi]
 rw [zbv,List.flatMap_append,List.flatMap_append,List.append_assoc,List.append_assoc]
 rfl
theorem dr_line {p:Pc} (hp:p.ok = true) (h:inLine p = false) (hd:∀ p∈done.getLast?,isBl p = false)
  (ih:∀ done,(∀ p∈done.getLast?,isBl p = false)→zbv (zc8 (done++[]) r)++[10] = zbv done++linesD (linesL [] (zau r))):
  zbv (zc8 (done++q) (p::r))++[10] = zbv done++linesD (linesL (zau q) (zau (p::r))):=by
 have last {p:Pc} {l:List Pc} (h:isBl p = false):∀ x∈(l++[p]).getLast?,isBl x = false:=fun x hx=>by
  rw [List.getLast?_concat] at hx; cases hx; exact h
 cases p with
 | raw c=>
   have:c = 10:=bne_eq_false_iff_eq.mp h
   subst this
   exact dr_end hq hi (by kernel_rfl) (by decide) rfl rfl rfl rfl hd (ih _ (last rfl))
 | eqz=>cases h
 | esc a b v=>cases h
 | far e=>exact dr_end hq hi (zwx hp).1 (zwx hp).2 rfl rfl rfl rfl hd (ih _ (last rfl))
 | soft e=>exact dr_soft hq hi hp (ih _ (last rfl))
end
theorem z3g {p:Pc} (h:inLine p = true):isLf p = false:=by
 cases p with
 | raw c=>exact (Bool.not_eq_true' _).mp h
 | far e=>cases h
 | _=>rfl
theorem last_of {q r:List Pc} {p x:Pc} (h:(q++p::r).getLast? = some x) (hx:inLine x = true) (hp:inLine p = false):r.getLast? = some x:=by
 rw [List.getLast?_append,List.getLast?_cons] at h
 cases e:r.getLast? with
 | none=>rw [e] at h; have h:some p = some x:=h; cases h; rw [hp] at hx; cases hx
 | some y=>rw [e] at h; exact h
theorem zzv (r:List Pc):∀ (q done:List Pc),(∀ p∈r,p.ok = true)→(∀ p∈q,p.ok = true)→(∀ p∈q,inLine p = true)→(∀ p∈done.getLast?,isBl p = false)→(∃ p,(q++r).getLast? = some p∧good p = true)→
  zbv (zc8 (done++q) r)++[10] = zbv done++linesD (linesL (zau q) (zau r)):=by
 induction r with
 | nil=>intro q done _ hq hi _ hg; rw [List.append_nil] at hg; exact dr_nil hq hi hg
 | cons p r ih=>
   intro q done hr hq hi hd hg
   have hp:=hr p (.head _)
   have ih:=fun q done=>ih q done fun x hx=>hr x (.tail _ hx)
   cases hil:inLine p with
   | true=>
     show _ = zbv done++linesD (linesL (zau q) (p.shown++zau r))
     rw [zjb,z3g hil,zik _ _ _ (zil hp hil)]
     rw [if_neg Bool.false_ne_true,List.append_assoc]
     have one {f:Pc→Bool} (h:∀ x∈q,f x = true) (h2:f p = true):∀ x∈q++[p],f x = true:=fun x hx=>(List.mem_append.mp hx).elim (h x) fun hx=>by rw [List.mem_singleton.mp hx]; exact h2
     have:=ih (q++[p]) done (one hq hp) (one hi hil) hd (by rw [List.append_assoc]; exact hg)
     rw [zau,List.flatMap_append,List.flatMap_singleton] at this
     exact this
   | false=>
     obtain ⟨x,hx,hgx⟩:=hg
     have:=last_of hx (Bool.and_eq_true_iff.mp hgx).1 hil
     exact dr_line hq hi hp hil hd fun done hd=>ih [] done (fun _ h=>nomatch h) (fun _ h=>nomatch h) hd ⟨x,this,hgx⟩
theorem zkx {l:List Pc} (h:∀ p∈l,p.ok = true) (hg:∃ p,l.getLast? = some p∧good p = true):decL (zau l) = zqs l:=by
 have k:=zzv l [] [] h ((fun _ h=>nomatch h)) ((fun _ h=>nomatch h)) ((fun _ h=>nomatch h)) (hg)
 simp only [List.flatMap_nil,List.nil_append] at k
 obtain ⟨p,hp,hgp⟩:=hg
 have hgp':inLine p = true∧isBl p = false:=by simpa [good] using hgp
 obtain ⟨s,c,e,hc,_⟩:=zme (h p (List.mem_of_getLast? hp)) hgp'.1
 have hlast:(zau l).getLast? = some c:=by
  obtain ⟨l',rfl⟩:∃ l',l = l'++[p]:=by
   obtain ⟨l',hl'⟩:=List.getLast?_eq_some_iff.mp hp
   exact ⟨l',hl'⟩
  simp [zau,e]
 have hn:isNl c = false:=zil (h p (List.mem_of_getLast? hp)) hgp'.1 c (by rw [e]; simp)
 have h1:(some c == some 13 || some c == some 10) = false:=by
  have a:c≠13:=fun q=>by subst q; exact absurd hn (by decide)
  have b:c≠10:=fun q=>by subst q; exact absurd hn (by decide)
  simp [a,b]
 unfold decL
 rw [hlast,← k]
 rw [if_pos ⟨h1,by unfold zzu; simp⟩]
 simp [zqs]
theorem zj9:∀ (r kept:List Pc),(∀ p∈kept++r,isBl p = false)→zc8 kept r = kept++r
 | [],kept,_=>by simp [zc8]
 | p::r,kept,h=>by
   rw [zc8,zj1 fun x hx=>h x (List.mem_append.mpr (.inl (List.mem_of_getLast? hx))),ite_self,zj9 r _ (by simpa using h)]
   simp
noncomputable def deb:Pc→Pc
 | .raw 32=>.esc 50 48 32
 | .raw 9=>.esc 48 57 9
 | p=>p
noncomputable def debT (l:List Nat):List Nat:=replL 9 [61,48,57] (replL 32 [61,50,48] l)
theorem z1e (c:Nat) (z a b:List Nat):replL c z (a++b) = replL c z a++replL c z b:=by
 induction a with
 | nil=>rfl
 | cons x a ih=>simp only [List.cons_append,replL,ih,List.append_assoc]
theorem zxk (a b:List Nat):debT (a++b) = debT a++debT b:=by simp only [debT,z1e]
theorem z39 {l:List Nat} (h:∀ c∈l,c≠32∧c≠9):debT l = l:=by
 have:∀ (c:Nat) (z l:List Nat),(∀ d∈l,d≠c)→replL c z l = l:=fun c z l=>by
  induction l with
  | nil=>intro _; rfl
  | cons x l ih=>intro h; rw [replL_c,if_neg (h x (.head _)),ih fun d hd=>h d (.tail _ hd)]; rfl
 unfold debT
 rw [this 32 _ l fun d hd=>(h d hd).1,this 9 _ l fun d hd=>(h d hd).2]
theorem zxl {l:List Nat} (h:(l.all fun c=>c != 32 && c != 9) = true):debT l = l:=z39 fun c hc=>(Bool.and_eq_true_iff.mp (List.all_eq_true.mp h c hc)).imp bne_iff_ne.mp bne_iff_ne.mp
theorem zjh {p:Pc} (h:p.ok = true):(deb p).ok = true∧isBl (deb p) = false∧(deb p).sign = p.sign∧debT p.shown = (deb p).shown:=by
 cases p with
 | raw c=>exact of_decide_eq_true (cont_all (p:=fun c=>decide ((deb (.raw c)).ok = true∧isBl (deb (.raw c)) = false∧(deb (.raw c)).sign = (Pc.raw c).sign∧debT (Pc.raw c).shown = (deb (.raw c)).shown)) (by kernel_rfl) h)
 | eqz=>decide
 | soft e=>exact ⟨h,rfl,rfl,zxl (cont_all (p:=fun e=>[61,e].all fun c=>c != 32 && c != 9) (by kernel_rfl) (show zi0 e = true from h))⟩
 | far e=>exact ⟨h,rfl,rfl,zxl (cont_all (p:=fun e=>[e].all fun c=>c != 32 && c != 9) (by kernel_rfl) (show zi0 e = true from h))⟩
 | esc a b v=>
   obtain ⟨x,y,ha,hb,hv⟩:=zqw h
   have k {d x:Nat} (h:hexOf d = some x):d≠32∧d≠9:=⟨fun e=>(by rw [e] at h; cases h),fun e=>(by rw [e] at h; cases h)⟩
   exact ⟨h,rfl,rfl,z39 fun c hc=>by
    rcases List.mem_cons.mp hc with rfl | hc
    ·decide
    rcases List.mem_cons.mp hc with rfl | hc
    ·exact k ha
    ·rw [List.mem_singleton.mp hc]; exact k hb⟩
theorem z38 {w:List Pc} (h:∀ p∈w,p.ok = true):decL (debT (zau w)++[46]) = zbv w++[46]:=by
 have e:debT (zau w)++[46] = zau (w.map deb++[.raw 46]):=by
  simp only [zau,List.flatMap_append,List.flatMap_cons,List.flatMap_nil,List.append_nil,List.flatMap_map]
  congr 1
  induction w with
  | nil=>rfl
  | cons p w ih=>
    simp only [List.flatMap_cons,zxk]
    rw [ih fun x hx=>h x (.tail _ hx),(zjh (h p (.head _))).2.2.2]
 have e2:zbv (w.map deb) = zbv w:=by
  clear e
  induction w with
  | nil=>rfl
  | cons p w ih=>
    have i:=ih fun x hx=>h x (.tail _ hx)
    simp only [zbv] at i
    simp only [List.map_cons,zbv,List.flatMap_cons]
    rw [i,(zjh (h p (.head _))).2.2.1]
 have m:∀ p∈w.map deb++[Pc.raw 46],p.ok = true∧isBl p = false:=fun p hp=>by
  rcases List.mem_append.mp hp with hp | hp
  ·obtain ⟨x,hx,rfl⟩:=List.mem_map.mp hp; exact ⟨(zjh (h x hx)).1,(zjh (h x hx)).2.1⟩
  ·rw [List.mem_singleton.mp hp]; exact ⟨rfl,rfl⟩
 rw [e,zkx (fun p hp=>(m p hp).1) ⟨.raw 46,by simp,rfl⟩,zqs,zj9 _ _ (fun p hp=>(m p (by simpa using hp)).2),List.nil_append]
 show zbv (w.map deb++[Pc.raw 46]) = _
 rw [← e2]
 simp [Pc.sign]
inductive St where
 | out | quo (mark:Nat) | com
noncomputable def isWs (k:Option Nat):Bool:=k == some 32 || k == some 9 || k == some 13 || k == some 10
noncomputable def isQ (k:Option Nat):Bool:=k == some 39 || k == some 34
section
variable {ι:Type} (noted shell:Bool) (key:ι→Option Nat)
inductive Act where
 | close (s:St) | keep (s:St) | add (s:St) | opn (s:St) | one (s:St) | closex | esc | escq (mk:Nat)
noncomputable def act (k:Option Nat) (wn:Bool) (st:St):Act:=match st with
 | .com=>if k = some 10 then .keep .out else .keep .com
 | .out=>if isWs k then .close .out
   else if k = some 35∧noted then (if shell then .close .com else .keep .com)
   else if isQ k∧(shell∨wn) then (if shell then .opn (.quo (k.getD 0)) else .one (.quo (k.getD 0)))
   else if k = some 92∧shell then .esc
   else .add .out
 | .quo mk=>if k = some mk then (if shell then .keep .out else .closex)
   else if k = some 92∧mk = 34∧shell then .escq mk
   else .add (.quo mk)
noncomputable def endF (st:St) (ws:List (List ι)) (w:Option (List ι)):Option (List (List ι)):=match st with
 | .quo _=>none
 | _=>some (ws++w.toList)
noncomputable def runF (st:St) (ws:List (List ι)) (w:Option (List ι)) (l:List ι):Option (List (List ι)):=match l with
 | []=>endF st ws w
 | x::r=>match act noted shell (key x) w.isNone st with
   | .close s=>runF s (ws++w.toList) none r
   | .keep s=>runF s ws w r
   | .add s=>runF s ws (some (w.getD []++[x])) r
   | .opn s=>runF s ws (some (w.getD [])) r
   | .one s=>runF s ws (some [x]) r
   | .closex=>runF .out (ws++[w.getD []++[x]]) none r
   | .esc=>(match r with
     | []=>none
     | y::r=>runF .out ws (some (w.getD []++[y])) r)
   | .escq mk=>(match r with
     | []=>none
     | y::r'=>if key y = some 34∨key y = some 92 then runF (.quo mk) ws (some (w.getD []++[y])) r' else runF (.quo mk) ws (some (w.getD []++[x])) (y::r'))
end
noncomputable def plainKey (k:Option Nat):Bool:=!(isWs k || isQ k || k == some 35 || k == some 92)
theorem zf2 {k:Option Nat} (h:plainKey k = true):isWs k = false∧isQ k = false∧k≠some 35∧k≠some 92∧k≠some 34∧k≠some 39∧k≠some 10:=by
 obtain ⟨⟨⟨a,b⟩,c⟩,d⟩:((isWs k = false∧isQ k = false)∧(k == some 35) = false)∧(k == some 92) = false:=by
  rw [← Bool.or_eq_false_iff,← Bool.or_eq_false_iff,← Bool.or_eq_false_iff]; exact (Bool.not_eq_true' _).mp h
 have c:=beq_eq_false_iff_ne.mp c
 have d:=beq_eq_false_iff_ne.mp d
 refine ⟨a,b,c,d,fun e=>?_,fun e=>?_,fun e=>?_⟩
 ·subst e; cases b
 ·subst e; cases b
 ·subst e; cases a
noncomputable def stOk:St→Prop
 | .quo mk=>mk = 34∨mk = 39
 | _=>True
section
variable {ι κ:Type} {noted shell:Bool} {key:ι→Option Nat} {ke:κ→Option Nat} {f:ι→List κ}
variable (noted shell key) in
noncomputable def actF (ws:List (List ι)) (w:Option (List ι)) (x:ι) (r:List ι):Act→Option (List (List ι))
  | .close s=>runF noted shell key s (ws++w.toList) none r
  | .keep s=>runF noted shell key s ws w r
  | .add s=>runF noted shell key s ws (some (w.getD []++[x])) r
  | .opn s=>runF noted shell key s ws (some (w.getD [])) r
  | .one s=>runF noted shell key s ws (some [x]) r
  | .closex=>runF noted shell key .out (ws++[w.getD []++[x]]) none r
  | .esc=>(match r with
    | []=>none
    | y::r=>runF noted shell key .out ws (some (w.getD []++[y])) r)
  | .escq mk=>(match r with
    | []=>none
    | y::r'=>if key y = some 34∨key y = some 92 then runF noted shell key (.quo mk) ws (some (w.getD []++[y])) r' else runF noted shell key (.quo mk) ws (some (w.getD []++[x])) (y::r'))
theorem zdx (st:St) (ws:List (List ι)) (w:Option (List ι)) (x:ι) (r:List ι):runF noted shell key st ws w (x::r) = actF noted shell key ws w x r (act noted shell (key x) w.isNone st):=by
 cases r <;> kernel_rfl
theorem znc (st:St) (ws:List (List ι)) (w:Option (List ι)):runF noted shell key st ws w [] = endF st ws w:=rfl
theorem zco (ws:List (List ι)) (w:Option (List ι)) (x:ι) (r:List ι) (c:Prop) [D:Decidable c] (a b:Act):actF noted shell key ws w x r (if c then a else b) = if c then actF noted shell key ws w x r a else actF noted shell key ws w x r b:=by cases D <;> rfl
theorem zec (ws:List (List ι)) (w:Option (List ι)) (x:ι) (r:List ι):runF noted shell key .out ws w (x::r) =
  if isWs (key x) then runF noted shell key .out (ws++w.toList) none r
  else if key x = some 35∧noted then (if shell then runF noted shell key .com (ws++w.toList) none r else runF noted shell key .com ws w r)
  else if isQ (key x)∧(shell∨w.isNone) then (if shell then runF noted shell key (.quo ((key x).getD 0)) ws (some (w.getD [])) r else runF noted shell key (.quo ((key x).getD 0)) ws (some [x]) r)
  else if key x = some 92∧shell then (match r with
   | []=>none
   | y::r=>runF noted shell key .out ws (some (w.getD []++[y])) r)
  else runF noted shell key .out ws (some (w.getD []++[x])) r:=by
 rw [zdx]
 unfold act
 rw [zco,zco,zco,zco,zco,zco]
 rfl
theorem zfk (mk:Nat) (ws:List (List ι)) (w:Option (List ι)) (x:ι) (r:List ι):runF noted shell key (.quo mk) ws w (x::r) =
  if key x = some mk then (if shell then runF noted shell key .out ws w r else runF noted shell key .out (ws++[w.getD []++[x]]) none r)
  else if key x = some 92∧mk = 34∧shell then (match r with
   | []=>none
   | y::r'=>if key y = some 34∨key y = some 92 then runF noted shell key (.quo mk) ws (some (w.getD []++[y])) r' else runF noted shell key (.quo mk) ws (some (w.getD []++[x])) (y::r'))
  else runF noted shell key (.quo mk) ws (some (w.getD []++[x])) r:=by
 rw [zdx]
 unfold act
 rw [zco,zco,zco]
 rfl
theorem zne (ws:List (List ι)) (w:Option (List ι)) (x:ι) (r:List ι):runF noted shell key .com ws w (x::r) = if key x = some 10 then runF noted shell key .out ws w r else runF noted shell key .com ws w r:=by
 rw [zdx]
 unfold act
 rw [zco]
 rfl
theorem zwp {I:List (List ι)→Option (List ι)→List ι→Prop} {R:List (List ι)→Prop} (c1:∀ {ws w x r},I ws w (x::r)→I (ws++w.toList) none r) (c2:∀ {ws w x r},I ws w (x::r)→I ws w r)
  (c3:∀ {ws w x r},I ws w (x::r)→I ws (some (w.getD []++[x])) r) (c4:∀ {ws w x r},I ws w (x::r)→I ws (some (w.getD [])) r) (c5:∀ {ws w x r},I ws w (x::r)→I ws (some [x]) r)
  (c6:∀ {ws w x r},I ws w (x::r)→I (ws++[w.getD []++[x]]) none r) (c0:∀ {ws w},I ws w []→R (ws++w.toList)) (n:Nat):
  ∀ (l:List ι),l.length≤n→∀ {st:St} {ws:List (List ι)} {w:Option (List ι)} {out:List (List ι)},I ws w l→runF noted shell key st ws w l = some out→R out:=by
 induction n with
 | zero=>
   intro l hl st ws w out i e
   cases l with
   | nil=>cases st <;> cases e <;> exact c0 i
   | cons=>cases hl
 | succ n ih=>
   intro l hl st ws w out i e
   cases l with
   | nil=>cases st <;> cases e <;> exact c0 i
   | cons x r=>
     have hr:r.length≤n:=Nat.le_of_succ_le_succ hl
     rw [zdx] at e
     cases h:act noted shell (key x) w.isNone st with
     | close s=>rw [h] at e; exact ih r hr (c1 i) e
     | keep s=>rw [h] at e; exact ih r hr (c2 i) e
     | add s=>rw [h] at e; exact ih r hr (c3 i) e
     | opn s=>rw [h] at e; exact ih r hr (c4 i) e
     | one s=>rw [h] at e; exact ih r hr (c5 i) e
     | closex=>rw [h] at e; exact ih r hr (c6 i) e
     | esc=>
       rw [h] at e
       cases r with
       | nil=>cases e
       | cons y r=>exact ih r (Nat.le_of_succ_le hr) (c3 (c2 i)) e
     | escq mk=>
       rw [h] at e
       cases r with
       | nil=>cases e
       | cons y r=>
         rcases ite_some e with ⟨_,e⟩ | ⟨_,e⟩
         ·exact ih r (Nat.le_of_succ_le hr) (c3 (c2 i)) e
         ·exact ih (y::r) hr (c3 i) e
noncomputable def addW (st:St) (w:Option (List ι)) (l:List ι):Option (List ι):=match st with
 | .com=>w
 | _=>if l.isEmpty then w else some (w.getD []++l)
theorem runF_plain1 {st:St} (hs:stOk st) {y:ι} (hp:plainKey (key y) = true) (ws:List (List ι)) (w:Option (List ι)) (r:List ι):runF noted shell key st ws w (y::r) = runF noted shell key st ws (addW st w [y]) r:=by
 obtain ⟨a,b,c,d,e,g,t⟩:=zf2 hp
 cases st with
 | out=>
   rw [zec,if_neg (by rw [a]; exact Bool.false_ne_true),if_neg (fun h=>c h.1),if_neg (fun h=>by rw [b] at h; exact Bool.false_ne_true h.1),if_neg (fun h=>d h.1)]
   rfl
 | com=>rw [zne,if_neg t]; rfl
 | quo mk=>
   have hm:key y≠some mk:=by rcases hs with q | q <;> subst q <;> assumption
   rw [zfk,if_neg hm,if_neg (fun h=>d h.1)]; rfl
theorem z9v {st:St} (w:Option (List ι)) (y:ι) (ys:List ι):addW st (addW st w [y]) ys = addW st w (y::ys):=by
 cases st with
 | com=>rfl
 | _=>cases ys with
   | nil=>rfl
   | cons z zs=>exact congrArg some (List.append_assoc ..)
theorem zl6 {st:St} (hs:stOk st) {ys:List ι}:∀ (ws:List (List ι)) (w:Option (List ι)) (r:List ι),(∀ y∈ys,plainKey (key y) = true)→runF noted shell key st ws w (ys++r) = runF noted shell key st ws (addW st w ys) r:=by
 induction ys with
 | nil=>intro ws w r _; cases st <;> rfl
 | cons y ys ih=>
   intro ws w r h
   rw [List.cons_append,runF_plain1 hs (h y (.head _)),ih _ _ _ fun z hz=>h z (.tail _ hz),z9v]
noncomputable def Goes (key:ι→Option Nat) (ke:κ→Option Nat) (f:ι→List κ) (x:ι):Prop:=(∃ y,f x = [y]∧ke y = key x)∨(plainKey (key x) = true∧f x≠[]∧∀ y∈f x,plainKey (ke y) = true)
noncomputable def Act.ok:Act→Prop
 | .close s=>stOk s
 | .keep s=>stOk s
 | .add s=>stOk s
 | .opn s=>stOk s
 | .one s=>stOk s
 | .escq mk=>stOk (.quo mk)
 | _=>True
theorem zfx {c:Prop} [D:Decidable c] {a b:Act} (h1:c→a.ok) (h2:b.ok):(if c then a else b).ok:=by cases D with | isTrue h=>exact h1 h | isFalse _=>exact h2
theorem act_ok {k:Option Nat} {wn:Bool} {st:St} (hs:stOk st):(act noted shell k wn st).ok:=by
 cases st with
 | com=>exact zfx (fun _=>trivial) trivial
 | out=>
   refine zfx (fun _=>trivial) (zfx (fun _=>zfx (fun _=>trivial) trivial) (zfx (fun h=>?_) (zfx (fun _=>trivial) trivial)))
   have sq:stOk (.quo (k.getD 0)):=by
    rcases Bool.or_eq_true_iff.mp h.1 with q | q
    ·rw [beq_iff_eq.mp q]; exact .inr rfl
    ·rw [beq_iff_eq.mp q]; exact .inl rfl
   exact zfx (fun _=>sq) sq
 | quo mk=>exact zfx (fun _=>zfx (fun _=>trivial) trivial) (zfx (fun _=>hs) hs)
noncomputable def mW (f:ι→List κ) (w:Option (List ι)):Option (List κ):=w.map (List.flatMap f)
noncomputable def mWs (f:ι→List κ) (ws:List (List ι)):List (List κ):=ws.map (List.flatMap f)
theorem z99 (w:Option (List ι)):(mW f w).getD [] = (w.getD []).flatMap f:=by cases w <;> rfl
theorem zug (ws:List (List ι)) (w:Option (List ι)):mWs f ws++(mW f w).toList = mWs f (ws++w.toList):=by
 cases w with
 | none=>rw [show (none:Option (List ι)).toList = [] from rfl,List.append_nil]; exact List.append_nil _
 | some w=>
   show List.map (List.flatMap f) ws++List.map (List.flatMap f) [w] = _
   exact List.map_append.symm
theorem zqy (w:Option (List ι)) (x:ι):some ((mW f w).getD []++f x) = mW f (some (w.getD []++[x])):=by
 rw [z99,← List.flatMap_singleton f x,← List.flatMap_append]; rfl
theorem nt_end (st:St) (ws:List (List ι)) (w:Option (List ι)):endF st (mWs f ws) (mW f w) = (endF st ws w).map (mWs f):=by
 cases st with
 | quo=>rfl
 | _=>exact congrArg some (zug ws w)
theorem nt_addW {x:ι} (hne:f x≠[]) (st:St) (w:Option (List ι)):addW st (mW f w) (f x) = mW f (addW st w [x]):=by
 have e:(f x).isEmpty = false:=by cases q:f x with | nil=>exact absurd q hne | cons=>rfl
 have k:(if (f x).isEmpty then mW f w else some ((mW f w).getD []++f x)) = mW f (some (w.getD []++[x])):=by rw [e,← zqy]; rfl
 cases st with
 | com=>rfl
 | _=>exact k
variable (noted shell key ke f) in
noncomputable def Nt (r:List ι):Prop:=∀ {st:St} {ws:List (List ι)} {w:Option (List ι)},stOk st→runF noted shell ke st (mWs f ws) (mW f w) (r.flatMap f) = (runF noted shell key st ws w r).map (mWs f)
theorem nt_esc {ws:List (List ι)} {w:Option (List ι)} {z:ι} {r:List ι} (g:Goes key ke f z) (ih:Nt noted shell key ke f r):
  (match (z::r).flatMap f with | []=>none | y::r=>runF noted shell ke .out (mWs f ws) (some ((mW f w).getD []++[y])) r) = (runF noted shell key .out ws (some (w.getD []++[z])) r).map (mWs f):=by
 rw [← ih (st:=.out) trivial,← zqy,List.flatMap_cons]
 rcases g with ⟨y,hf,_⟩ | ⟨_,hne,hp⟩
 ·rw [hf]; rfl
 ·cases hfz:f z with
  | nil=>exact absurd hfz hne
  | cons y1 ys=>
    rw [hfz] at hp
    have k:=runF_plain1 (noted:=noted) (shell:=shell) (st:=.out) trivial (hp y1 (.head _)) (mWs f ws) (mW f w) (ys++r.flatMap f)
    have k2:=zl6 (noted:=noted) (shell:=shell) (st:=.out) trivial (mWs f ws) (mW f w) (r.flatMap f) hp
    exact k.symm.trans k2
theorem nt_escq {ws:List (List ι)} {w:Option (List ι)} {mk:Nat} {x z:ι} {y:κ} {r:List ι} (ok:stOk (.quo mk)) (hf:f x = [y]) (g:Goes key ke f z) (ih0:Nt noted shell key ke f (z::r)) (ih:Nt noted shell key ke f r):
  actF noted shell ke (mWs f ws) (mW f w) y ((z::r).flatMap f) (.escq mk) = (if key z = some 34∨key z = some 92 then runF noted shell key (.quo mk) ws (some (w.getD []++[z])) r else runF noted shell key (.quo mk) ws (some (w.getD []++[x])) (z::r)).map (mWs f):=by
 have i2:=ih (ws:=ws) (w:=some (w.getD []++[z])) ok
 have i3:=ih0 (ws:=ws) (w:=some (w.getD []++[x])) ok
 rw [← zqy] at i2
 rw [← zqy,hf] at i3
 rw [List.flatMap_cons] at i3 ⊢
 rcases g with ⟨y',hf',hk'⟩ | ⟨hp',hne',hpl'⟩
 ·rw [hf',List.singleton_append] at i3 ⊢
  rw [hf'] at i2
  rw [← hk']
  refine (?_:(if ke y' = some 34∨ke y' = some 92 then _ else _) = _)
  by_cases q:ke y' = some 34∨ke y' = some 92
  ·rw [if_pos q,if_pos q]; exact i2
  ·rw [if_neg q,if_neg q]; exact i3
 ·obtain ⟨_,_,_,a,b,_⟩:=zf2 hp'
  rw [if_neg (not_or.mpr ⟨b,a⟩)]
  cases hfz:f z with
  | nil=>exact absurd hfz hne'
  | cons y1 ys=>
    rw [hfz] at hpl' i3
    obtain ⟨_,_,_,a1,b1,_⟩:=zf2 (hpl' y1 (.head _))
    refine (if_neg (not_or.mpr ⟨b1,a1⟩)).trans i3
theorem nt_act {ws:List (List ι)} {w:Option (List ι)} {x:ι} {y:κ} {r:List ι} {a:Act} (ok:a.ok) (hf:f x = [y]) (ih:Nt noted shell key ke f r) (ih2:∀ z r',r = z::r'→Nt noted shell key ke f r'∧Goes key ke f z):
  actF noted shell ke (mWs f ws) (mW f w) y (r.flatMap f) a = (actF noted shell key ws w x r a).map (mWs f):=by
 have ad:=zqy (f:=f) w x
 rw [hf] at ad
 cases a with
 | close s=>refine Eq.trans ?_ (ih (w:=none) ok); rw [← zug]; rfl
 | keep s=>exact ih ok
 | add s=>refine Eq.trans ?_ (ih ok); rw [← ad]; rfl
 | opn s=>refine Eq.trans ?_ (ih (w:=some (w.getD [])) ok); show runF _ _ _ _ _ (some _) _ = _; rw [z99]; rfl
 | one s=>refine Eq.trans ?_ (ih (w:=some [x]) ok); show _ = runF _ _ _ _ _ (some (List.flatMap f [x])) _; rw [List.flatMap_singleton,hf]; rfl
 | closex=>refine Eq.trans ?_ (ih (w:=none) trivial); rw [show ws++[w.getD []++[x]] = ws++(some (w.getD []++[x])).toList from rfl,← zug,← ad]; rfl
 | esc=>cases r with
   | nil=>rfl
   | cons z r=>exact nt_esc (ih2 z r rfl).2 (ih2 z r rfl).1
 | escq mk=>cases r with
   | nil=>rfl
   | cons z r=>exact nt_escq (z:=z) ok hf (ih2 z r rfl).2 ih (ih2 z r rfl).1
theorem znd (n:Nat):∀ (l:List ι),l.length≤n→(∀ x∈l,Goes key ke f x)→Nt noted shell key ke f l:=by
 induction n with
 | zero=>intro l hl _ st ws w _; cases l with | nil=>exact nt_end st ws w | cons=>cases hl
 | succ n ih=>
   intro l hl h st ws w hs
   cases l with
   | nil=>exact nt_end st ws w
   | cons x r=>
   have hr:r.length≤n:=Nat.le_of_succ_le_succ hl
   have i:=@ih r hr fun y hy=>h y (.tail _ hy)
   rw [List.flatMap_cons]
   rcases h x (.head _) with ⟨y,hf,hk⟩ | ⟨hp,hne,hpl⟩
   ·rw [hf,List.singleton_append,zdx,zdx,hk,show (mW f w).isNone = w.isNone by cases w <;> rfl]
    exact nt_act (act_ok hs) hf i fun z r' e=>by subst e; exact ⟨ih r' (Nat.le_of_succ_le hr) fun y hy=>h y (.tail _ (.tail _ hy)),h z (.tail _ (.head _))⟩
   ·rw [zl6 hs _ _ _ hpl,runF_plain1 hs hp,nt_addW hne]
    exact i hs
end
noncomputable def Pc.key:Pc→Option Nat
 | .raw c=>some c
 | _=>none
theorem zzo {p:Pc} (h:p.ok = true):Goes Pc.key (fun c:Nat=>some c) Pc.shown p:=by
 have en {e:Nat} (h:zi0 e = true):plainKey (some e) = true:=cont_all (p:=fun e=>plainKey (some e)) (by kernel_rfl) h
 have al {a:Nat} {l:List Nat} (h:plainKey (some a) = true) (hl:∀ y∈l,plainKey (some y) = true):∀ y∈a::l,plainKey (some y) = true:=List.forall_mem_cons.mpr ⟨h,hl⟩
 have no:∀ y∈([]:List Nat),plainKey (some y) = true:=fun _ h=>nomatch h
 have hx {e x:Nat} (h:hexOf e = some x):plainKey (some e) = true:=zkr (p:=fun e _=>plainKey (some e)) (by kernel_rfl) h
 cases p with
 | raw c=>exact .inl ⟨c,rfl,rfl⟩
 | eqz=>exact .inr ⟨rfl,by decide,by decide⟩
 | soft e=>exact .inr ⟨rfl,List.cons_ne_nil _ _,al rfl (al (en h) no)⟩
 | far e=>exact .inr ⟨rfl,List.cons_ne_nil _ _,al (en h) no⟩
 | esc a b v=>
   obtain ⟨x,y,ha,hb,hv⟩:=zqw h
   exact .inr ⟨rfl,List.cons_ne_nil _ _,al rfl (al (hx ha) (al (hx hb) no))⟩
theorem z59 {ι:Type} {noted shell:Bool} {key:ι→Option Nat} {P:ι→Prop} {l:List ι} (h:∀ x∈l,P x) {out:List (List ι)} (e:runF noted shell key .out [] none l = some out):∀ v∈out,∀ x∈v,P x:=by
 have g:∀ {w:Option (List ι)},(∀ v∈w,∀ x∈v,P x)→∀ x∈w.getD [],P x:=fun {w} hw y hy=>by cases w with | none=>cases hy | some v=>exact hw v rfl y hy
 have app:∀ {a:List ι} {x:ι},(∀ y∈a,P y)→P x→∀ y∈a++[x],P y:=fun {a x} ha hx y hy=>by
  rcases List.mem_append.mp hy with hy | hy
  ·exact ha y hy
  ·rw [List.mem_singleton.mp hy]; exact hx
 have nn:∀ v∈(none:Option (List ι)),∀ x∈v,P x:=fun v hv=>by cases hv
 have sm:∀ {a:List ι},(∀ y∈a,P y)→∀ v∈some a,∀ x∈v,P x:=fun {a} ha v hv=>by cases hv; exact ha
 have wt:∀ {ws:List (List ι)} {w:Option (List ι)},(∀ v∈ws,∀ x∈v,P x)→(∀ v∈w,∀ x∈v,P x)→∀ v∈ws++w.toList,∀ x∈v,P x:=fun {ws w} h1 h2 v hv=>by
  rcases List.mem_append.mp hv with hv | hv
  ·exact h1 v hv
  ·exact h2 v (Option.mem_toList.mp hv)
 have one:∀ {x:ι},P x→∀ y∈[x],P y:=fun {x} hx y hy=>by rw [List.mem_singleton.mp hy]; exact hx
 have cx:∀ {ws:List (List ι)} {a:List ι},(∀ v∈ws,∀ x∈v,P x)→(∀ y∈a,P y)→∀ v∈ws++[a],∀ x∈v,P x:=fun {ws a} h1 h2 v hv=>by
  rcases List.mem_append.mp hv with hv | hv
  ·exact h1 v hv
  ·rw [List.mem_singleton.mp hv]; exact h2
 exact zwp (I:=fun ws w l=>(∀ v∈ws,∀ x∈v,P x)∧(∀ v∈w,∀ x∈v,P x)∧∀ x∈l,P x) (R:=fun out=>∀ v∈out,∀ x∈v,P x)
  (fun ⟨a,b,c⟩=>⟨wt a b,nn,fun y hy=>c y (.tail _ hy)⟩) (fun ⟨a,b,c⟩=>⟨a,b,fun y hy=>c y (.tail _ hy)⟩) (fun ⟨a,b,c⟩=>⟨a,sm (app (g b) (c _ (.head _))),fun y hy=>c y (.tail _ hy)⟩)
  (fun ⟨a,b,c⟩=>⟨a,sm (g b),fun y hy=>c y (.tail _ hy)⟩) (fun ⟨a,b,c⟩=>⟨a,sm (one (c _ (.head _))),fun y hy=>c y (.tail _ hy)⟩)
  (fun ⟨a,b,c⟩=>⟨cx a (app (g b) (c _ (.head _))),nn,fun y hy=>c y (.tail _ hy)⟩) (fun ⟨a,b,_⟩=>wt a b) _ l (Nat.le_refl _) ⟨(fun v hv=>by cases hv),nn,h⟩ e
theorem zmq {noted shell:Bool} {l:List Pc} (h:∀ p∈l,p.ok = true):
  (runF noted shell (fun c:Nat=>some c) .out [] none (zau l)).map (List.map fun w=>(decL (debT w++[46])).dropLast) = (runF noted shell Pc.key .out [] none l).map (List.map zbv):=by
 have k:=znd (noted:=noted) (shell:=shell) _ l (Nat.le_refl _) (fun p hp=>zzo (h p hp)) (st:=.out) (ws:=[]) (w:=none) trivial
 have k':runF noted shell (fun c:Nat=>some c) .out [] none (zau l) = _:=k
 rw [k',Option.map_map]
 cases e:runF noted shell Pc.key .out [] none l with
 | none=>rfl
 | some out=>
   have m:=z59 (P:=fun p:Pc=>p.ok = true) h e
   refine congrArg some ?_
   show List.map _ (List.map _ out) = _
   rw [List.map_map]
   refine List.map_congr_left fun w hw=>?_
   have:=z38 (m w hw)
   show (decL (debT (zau w)++[46])).dropLast = zbv w
   rw [this]; simp
noncomputable abbrev U3:=List Nat×List Nat×Bool
noncomputable def hxU (d:Nat):Nat:=if d < 10 then 48 + d else 55 + d
noncomputable def hxL (d:Nat):Nat:=if d < 10 then 48 + d else 87 + d
noncomputable def zlu (r:Int):Nat:=([11,12,28,133,8232]:List Nat)[(r % 5).toNat]?.getD 0
noncomputable def zgk (k:Nat) (r:Int):Nat:=([39,34,92,32,10,35,9,([97,70,52,233]:List Nat)[(r % 4).toNat]?.getD 0]:List Nat)[k]?.getD 0
noncomputable def zao (k:Nat) (r:Int):Nat:=if k < 14 then ([39,34,92,32,10,35,61,9]:List Nat)[(r % 8).toNat]?.getD 0 else (r % 256).toNat
noncomputable def pcOf (n:Int):Pc:=
 let k:=(n % 16).toNat
 let r:=n / 16
 if k < 8 then .raw (zgk k r) else if k = 8 then .eqz else if k = 9 then .soft (zlu r) else if k = 10 then .far (zlu r)
 else if k % 2 = 1 then .esc (hxL (zao k r / 16)) (hxL (zao k r % 16)) (zao k r) else .esc (hxU (zao k r / 16)) (hxU (zao k r % 16)) (zao k r)
noncomputable def unitsU:Pc→List U3
 | .raw c=>[([c],[c],true)]
 | .eqz=>[([61],[61],true),([122],[122],true)]
 | .soft e=>[([61,e],[],false)]
 | .far e=>[([e],[10],false)]
 | .esc a b v=>[([61,a,b],[v],false)]
noncomputable def zfv (l:List Nat):Bool:=match l.getLast? with
 | some c=>([32,9,10,11,12,28,133,8232]:List Nat).contains c
 | none=>false
noncomputable def guardP (l:List Pc):List Pc:=match l.getLast? with
 | some p=>if zfv p.shown then l++[.raw 46] else l
 | none=>l
noncomputable def unitsOf (ns:List Int):List U3:=(ns.map pcOf).flatMap unitsU
noncomputable def guardU (l:List U3):List U3:=match l.getLast? with
 | some u=>if zfv u.1 then l++[([46],[46],true)] else l
 | none=>l
theorem zsf (k:Nat) (r:Int):zao k r < 256:=by
 unfold zao
 split
 ·have h:(r % 8).toNat < 8:=by lia
  generalize (r % 8).toNat = j at h
  have:∀ j:Fin 8,(([39,34,92,32,10,35,61,9]:List Nat)[j.val]?.getD 0) < 256:=by decide
  exact this ⟨j,h⟩
 ·lia
theorem z3o {d:Nat} (h:d < 16):hexOf (hxU d) = some d∧hexOf (hxL d) = some d:=by
 have:∀ d:Fin 16,hexOf (hxU d.val) = some d.val∧hexOf (hxL d.val) = some d.val:=by decide
 exact this ⟨d,h⟩
theorem zxj (r:Int):zi0 (zlu r) = true:=by
 unfold zlu
 have h:(r % 5).toNat < 5:=by lia
 generalize (r % 5).toNat = j at h
 have:∀ j:Fin 5,zi0 (([11,12,28,133,8232]:List Nat)[j.val]?.getD 0) = true:=by decide
 exact this ⟨j,h⟩
theorem z09 {k:Nat} (hk:k < 8) (r:Int):rawOk (zgk k r) = true:=by
 unfold zgk
 have h:(r % 4).toNat < 4:=by lia
 generalize (r % 4).toNat = j at h
 have:∀ (k:Fin 8) (j:Fin 4),rawOk (([39,34,92,32,10,35,9,([97,70,52,233]:List Nat)[j.val]?.getD 0]:List Nat)[k.val]?.getD 0) = true:=by decide
 exact this ⟨k,hk⟩ ⟨j,h⟩
theorem pcOf_ok (n:Int):(pcOf n).ok = true:=by
 have hc:=zsf (n % 16).toNat (n / 16)
 have h1:=z3o (d:=zao (n % 16).toNat (n / 16) / 16) (by lia)
 have h2:=z3o (d:=zao (n % 16).toNat (n / 16) % 16) (by lia)
 unfold pcOf
 dsimp only
 split
 ·exact z09 (by assumption) _
 split
 ·rfl
 split
 ·exact zxj _
 split
 ·exact zxj _
 split
 ·simp only [Pc.ok,h1.2,h2.2,Option.any_some,beq_iff_eq]; lia
 ·simp only [Pc.ok,h1.1,h2.1,Option.any_some,beq_iff_eq]; lia
theorem z2v {α β:Type} (f:α→List β) (l:List α) (p:α) (h:l.getLast? = some p) (b:β) (hb:(f p).getLast? = some b):(l.flatMap f).getLast? = some b:=by
 obtain ⟨l',rfl⟩:=List.getLast?_eq_some_iff.mp h
 simp [hb]
theorem z75 (l:List Pc) (hl:l≠[]):guardU (l.flatMap unitsU) = (guardP l).flatMap unitsU:=by
 obtain ⟨p,hp⟩:∃ p,l.getLast? = some p:=⟨_,List.getLast?_eq_some_getLast hl⟩
 have key:∃ u,(unitsU p).getLast? = some u∧zfv u.1 = zfv p.shown:=by
  cases p with
  | raw c=>exact ⟨_,rfl,rfl⟩
  | eqz=>exact ⟨_,rfl,rfl⟩
  | soft e=>exact ⟨_,rfl,rfl⟩
  | far e=>exact ⟨_,rfl,rfl⟩
  | esc a b v=>exact ⟨_,rfl,rfl⟩
 obtain ⟨u,hu,hw⟩:=key
 unfold guardU guardP
 rw [z2v unitsU l p hp u hu,hp]
 dsimp only
 rw [hw]
 split
 ·simp [unitsU]
 ·rfl
theorem zzm (l:List Pc) (hl:l≠[]) (h:∀ p∈l,p.ok = true):(∀ p∈guardP l,p.ok = true)∧∃ p,(guardP l).getLast? = some p∧good p = true:=by
 obtain ⟨p,hp⟩:∃ p,l.getLast? = some p:=⟨_,List.getLast?_eq_some_getLast hl⟩
 have hm:=h p (List.mem_of_getLast? hp)
 unfold guardP
 rw [hp]
 dsimp only
 split
 ·refine ⟨fun q hq=>?_,.raw 46,by simp,rfl⟩
  rcases List.mem_append.mp hq with hq | hq
  ·exact h q hq
  ·rw [List.mem_singleton.mp hq]; rfl
 ·rename_i hw
  refine ⟨h,p,hp,?_⟩
  cases p with
  | raw c=>exact (Bool.or_eq_true_iff.mp (cont_all (p:=fun c=>zfv [c] || good (.raw c)) (by kernel_rfl) hm)).resolve_left hw
  | eqz=>rfl
  | soft e=>exact absurd (cont_all (p:=fun e=>zfv [61,e]) (by kernel_rfl) (show zi0 e = true from hm)) hw
  | far e=>exact absurd (cont_all (p:=fun e=>zfv [e]) (by kernel_rfl) (show zi0 e = true from hm)) hw
  | esc a b v=>rfl
noncomputable def blU (u:List Nat×List Nat):Bool:=u.1 == [32] || u.1 == [9]
noncomputable def zev (k:List (List Nat×List Nat)):List (List Nat×List Nat):=(k.reverse.dropWhile blU).reverse
noncomputable def plainUK:List (List Nat×List Nat)→List U3→List (List Nat×List Nat)
 | k,[]=>k
 | k,u::r=>plainUK ((if u.2.1 = [10]∧u.1.length = 1 then zev k else k)++[(u.1,u.2.1)]) r
theorem plainUK_c (k:List (List Nat×List Nat)) (u:U3) (r:List U3):plainUK k (u::r) = plainUK ((if u.2.1 = [10]∧u.1.length = 1 then zev k else k)++[(u.1,u.2.1)]) r:=rfl
noncomputable def plainU (us:List U3):List Nat:=(plainUK [] us).flatMap (·.2)
noncomputable def pair (p:Pc):List (List Nat×List Nat):=(unitsU p).map fun u=>(u.1,u.2.1)
theorem zf1 (l:List (List Nat×List Nat)) (p:List Nat×List Nat):zev (l++[p]) = if blU p then zev l else l++[p]:=by
 unfold zev
 rw [List.reverse_append,List.reverse_singleton,List.singleton_append,List.dropWhile_cons]
 split
 ·rfl
 ·rw [List.reverse_cons,List.reverse_reverse]
theorem z1y {p:Pc} (h:p.ok = true):∃ l x,pair p = l++[x]∧blU x = isBl p∧(isBl p = true→l = []):=by
 cases p with
 | raw c=>
   refine ⟨[],([c],[c]),rfl,?_,fun _=>rfl⟩
   show ((c == 32 && true) || (c == 9 && true)) = _
   rw [Bool.and_true,Bool.and_true]; rfl
 | eqz=>exact ⟨[([61],[61])],([122],[122]),rfl,rfl,fun h=>nomatch h⟩
 | soft e=>exact ⟨[],([61,e],[]),rfl,rfl,fun _=>rfl⟩
 | far e=>exact ⟨[],([e],[10]),rfl,beq_iff_eq.mp (cont_all (p:=fun e=>blU ([e],[10]) == false) (by kernel_rfl) (show zi0 e = true from h)),fun _=>rfl⟩
 | esc a b v=>exact ⟨[],([61,a,b],[v]),rfl,rfl,fun _=>rfl⟩
theorem zyb (k:List Pc):(∀ p∈k,p.ok = true)→zev (k.flatMap pair) = (stripB k).flatMap pair:=by
 induction k using zj5 with
 | h0=>intro _; rfl
 | h1 k p ih=>
   intro h
   have hk:=ih fun q hq=>h q (List.mem_append_left _ hq)
   obtain ⟨l,x,e,b,n⟩:=z1y (h p (List.mem_append_right _ (.head _)))
   rw [zc6,List.flatMap_append,List.flatMap_singleton,e,← List.append_assoc,zf1,b]
   by_cases q:isBl p = true
   ·rw [if_pos q,if_pos q,n q,List.append_nil]; exact hk
   ·rw [if_neg q,if_neg q,List.flatMap_append,List.flatMap_singleton,e,List.append_assoc]
theorem zgm {k:List Pc} {p:Pc} {u:U3} {R:List U3} {X:List (List Nat×List Nat)} (hu:unitsU p = [u]) (hc:(u.2.1 = [10]∧u.1.length = 1) ↔ isLf p = true) (hk:∀ q∈k,q.ok = true)
  (ih:plainUK (((if isLf p then stripB k else k)++[p]).flatMap pair) R = X):plainUK (k.flatMap pair) (unitsU p++R) = X:=by
 have e:pair p = [(u.1,u.2.1)]:=by rw [pair,hu]; rfl
 rw [List.flatMap_append,List.flatMap_singleton,e] at ih
 rw [hu,List.singleton_append,plainUK_c,← ih]
 by_cases q:isLf p = true
 ·rw [if_pos (hc.mpr q),if_pos q,zyb k hk]
 ·rw [if_neg fun z=>q (hc.mp z),if_neg q]
theorem zyp (r:List Pc):∀ (k:List Pc),(∀ p∈k++r,p.ok = true)→plainUK (k.flatMap pair) (r.flatMap unitsU) = (zc8 k r).flatMap pair:=by
 induction r with
 | nil=>intro k _; rfl
 | cons p r ih=>
   intro k h
   have hk:∀ q∈k,q.ok = true:=fun q hq=>h q (List.mem_append_left _ hq)
   have ih:=ih ((if isLf p then stripB k else k)++[p]) fun q hq=>by
    rcases List.mem_append.mp hq with hq | hq
    ·rcases List.mem_append.mp hq with hq | hq
     ·by_cases z:isLf p = true
      ·rw [if_pos z] at hq; exact hk q (zho k q hq)
      ·rw [if_neg z] at hq; exact hk q hq
     ·exact h q (List.mem_append_right _ (by rw [List.mem_singleton.mp hq]; exact .head _))
    ·exact h q (List.mem_append_right _ (.tail _ hq))
   rw [zjb,List.flatMap_cons]
   cases p with
   | raw c=>exact zgm rfl ⟨fun h=>beq_iff_eq.mpr (List.cons.inj h.1).1,fun h=>⟨congrArg (fun x=>[x]) (beq_iff_eq.mp h),rfl⟩⟩ hk ih
   | eqz=>
     rw [if_neg (show ¬ isLf .eqz = true from Bool.false_ne_true),List.flatMap_append] at ih
     show plainUK _ (([61],[61],true)::([122],[122],true)::r.flatMap unitsU) = _
     rw [plainUK_c,plainUK_c,if_neg (by decide),if_neg (by decide),if_neg (show ¬ isLf .eqz = true from Bool.false_ne_true),List.append_assoc]
     exact ih
   | soft e=>exact zgm rfl ⟨fun h=>absurd h.1 (fun q=>nomatch (show ([]:List Nat) = [10] from q)),fun h=>nomatch h⟩ hk ih
   | far e=>exact zgm rfl ⟨fun _=>rfl,fun _=>⟨rfl,rfl⟩⟩ hk ih
   | esc a b v=>exact zgm rfl ⟨fun h=>absurd h.2 (by decide:¬ 3 = 1),fun h=>nomatch h⟩ hk ih
theorem z1x (p:Pc):(pair p).flatMap (·.2) = p.sign:=by cases p <;> rfl
theorem zs9 (p:Pc):(unitsU p).flatMap (·.1) = p.shown:=by cases p <;> rfl
theorem z1v {l:List Pc} (h:∀ p∈l,p.ok = true):plainU (l.flatMap unitsU) = zqs l:=by
 unfold plainU zqs
 have:=zyp l [] (h)
 rw [List.flatMap_nil] at this
 rw [this,List.flatMap_assoc]
 congr 1
 funext p
 exact z1x p
noncomputable abbrev It:=List Nat×Bool
noncomputable def oneC:List Nat→Option Nat
 | [c]=>some c
 | _=>none
theorem z14 (l:List Nat) (c:Nat):oneC l = some c ↔ l = [c]:=by
 cases l with
 | nil=>exact ⟨fun e=>(nomatch e),fun e=>(nomatch e)⟩
 | cons d t=>cases t with
   | nil=>exact ⟨fun e=>congrArg (fun z=>[z]) (Option.some.inj e),fun e=>congrArg some (List.cons.inj e).1⟩
   | cons=>exact ⟨fun e=>(nomatch e),fun e=>nomatch (List.cons.inj e).2⟩
noncomputable def keyI (x:It):Option Nat:=bif x.2 then oneC x.1 else none
noncomputable def wordsI (noted shell:Bool) (l:List It):Option (List (List Nat)):=(runF noted shell keyI .out [] none l).map (List.map fun w=>w.flatMap (·.1))
theorem zpm (noted shell:Bool) (l:List Nat):wordsI noted shell (l.map fun c=>([c],true)) = runF noted shell (fun c:Nat=>some c) .out [] none l:=by
 have k:=znd (noted:=noted) (shell:=shell) (key:=fun c:Nat=>some c) (ke:=keyI) (f:=fun c=>[(([c],true):It)]) _ l (Nat.le_refl _) (fun c _=>.inl ⟨_,rfl,rfl⟩) (st:=.out) (ws:=[]) (w:=none) trivial
 have e:∀ l:List Nat,l.flatMap (fun c=>[(([c],true):It)]) = l.map fun c=>([c],true):=fun l=>by
  induction l with
  | nil=>rfl
  | cons c l ih=>rw [List.flatMap_cons,ih]; rfl
 have z:∀ w:List Nat,(w.map fun c=>(([c],true):It)).flatMap (·.1) = w:=fun w=>by
  induction w with
  | nil=>rfl
  | cons c w ih=>rw [List.map_cons,List.flatMap_cons,ih]; rfl
 unfold wordsI
 rw [← e]
 have k':runF noted shell keyI .out [] none (l.flatMap fun c=>[(([c],true):It)]) = _:=k
 rw [k',Option.map_map]
 have:(List.map fun w:List It=>w.flatMap (·.1)) ∘ mWs (fun c=>[(([c],true):It)]) = (id:List (List Nat)→List (List Nat)):=by
  funext ws
  show List.map _ (List.map _ ws) = ws
  rw [List.map_map]
  conv=>rhs; rw [← List.map_id ws]
  refine List.map_congr_left fun w _=>?_
  simp only [Function.comp_apply,id_eq]
  rw [e w]
  exact z w
 rw [this,Option.map_id,id_eq]
theorem zzn {p:Pc} (h:p.ok = true):Goes Pc.key keyI (fun p=>(unitsU p).map fun u=>((u.2.1,u.2.2):It)) p:=by
 have one {x:It} (h:plainKey (keyI x) = true):∀ y∈[x],plainKey (keyI y) = true:=fun y hy=>by rw [List.mem_singleton.mp hy]; exact h
 cases p with
 | raw c=>exact .inl ⟨([c],true),rfl,rfl⟩
 | eqz=>exact .inr ⟨rfl,List.cons_ne_nil _ _,by decide⟩
 | soft e=>exact .inr ⟨rfl,List.cons_ne_nil _ _,one (x:=([],false)) rfl⟩
 | far e=>exact .inr ⟨rfl,List.cons_ne_nil _ _,one (x:=([10],false)) rfl⟩
 | esc a b v=>exact .inr ⟨rfl,List.cons_ne_nil _ _,one (x:=([v],false)) rfl⟩
theorem zpl {noted shell:Bool} {l:List Pc} (h:∀ p∈l,p.ok = true):wordsI noted shell ((l.flatMap unitsU).map fun u=>(u.2.1,u.2.2)) = (runF noted shell Pc.key .out [] none l).map (List.map zbv):=by
 have k:=znd (noted:=noted) (shell:=shell) (key:=Pc.key) (ke:=keyI) (f:=fun p=>(unitsU p).map fun u=>((u.2.1,u.2.2):It)) _ l (Nat.le_refl _) (fun p hp=>zzn (h p hp)) (st:=.out) (ws:=[]) (w:=none) trivial
 unfold wordsI
 rw [List.map_flatMap]
 have k':runF noted shell keyI .out [] none (l.flatMap fun p=>(unitsU p).map fun u=>((u.2.1,u.2.2):It)) = _:=k
 rw [k',Option.map_map]
 congr 1
 funext ws
 show List.map _ (List.map _ ws) = _
 rw [List.map_map]
 refine List.map_congr_left fun w _=>?_
 simp only [Function.comp_apply,List.flatMap_assoc]
 show w.flatMap _ = w.flatMap Pc.sign
 congr 1
 funext p
 cases p <;> rfl
theorem z1t (noted shell:Bool) (ns:List Int) (hn:ns≠[]):
  let us:=guardU (unitsOf ns)
  let text:=us.flatMap (·.1)
  runF noted shell (fun c:Nat=>some c) .out [] none (decL text) = wordsI noted shell ((plainU us).map fun c=>([c],true))∧
  (runF noted shell (fun c:Nat=>some c) .out [] none text).map (List.map fun w=>(decL (debT w++[46])).dropLast) = wordsI noted shell (us.map fun u=>(u.2.1,u.2.2)):=by
 have hne:ns.map pcOf≠[]:=by simpa using hn
 have hok:∀ p∈ns.map pcOf,p.ok = true:=fun p hp=>by
  obtain ⟨n,_,rfl⟩:=List.mem_map.mp hp; exact pcOf_ok n
 obtain ⟨h1,h2⟩:=zzm _ hne hok
 have e:guardU (unitsOf ns) = (guardP (ns.map pcOf)).flatMap unitsU:=z75 _ hne
 have et:(guardU (unitsOf ns)).flatMap (·.1) = zau (guardP (ns.map pcOf)):=by
  rw [e,List.flatMap_assoc]
  show _ = (guardP (ns.map pcOf)).flatMap Pc.shown
  congr 1
  funext p
  exact zs9 p
 dsimp only
 rw [et,e,z1v h1,zpm,zkx h1 h2,zpl h1,zmq h1]
 exact ⟨rfl,rfl⟩
section
variable {P:Prg} {d u:Nat} {sc:Scope} {m:Lo} {H:Hp} {L:List V→Hp→Prop} {Q:V→Hp→Prop} {T:Bool→Hp→Prop} {S:Fl×Lo→Hp→Prop} {E:EK→Hp→Prop}
theorem zt7 (x:Str) (es:List Expr) (ov:V) (H1:Hp) (f:Addr):@z2f P d (RF P d sc u) m ⟨Q⟩ ⟨E⟩ x es ov H1 (some f) = @RecF.es (RF P d sc u) m ⟨@kCall P d f ov ⟨Q⟩ ⟨E⟩⟩ ⟨E⟩ H1 es:=rfl
theorem zt8 (x:Str) (es:List Expr) (ov:V) (H1:Hp):@z2f P d (RF P d sc u) m ⟨Q⟩ ⟨E⟩ x es ov H1 none = @optN _ ⟨@kMeth (RF P d sc u) m es ov H1 ⟨Q⟩ ⟨E⟩⟩ (zcd H1 ov x):=rfl
theorem zub (x:Str) (ov:V) (H1:Hp):@z4x P d ⟨Q⟩ x ov H1 none = @optI _ ⟨@kAt H1 ⟨Q⟩⟩ (attrM P H1 ov x):=rfl
theorem zua (x:Str) (ov:V) (H1:Hp) (f:Addr):@z4x P d ⟨Q⟩ x ov H1 (some f) = @WpI _ ⟨@zzf ⟨Q⟩⟩ ⟨kNo⟩ (call P d (.top (.ref f)) [ov] [] []) H1:=rfl
theorem r_meth0 (o:Expr) (x:Str) (apos pos:Pos):@RecF.e (RF P d sc (u + 1)) m ⟨Q⟩ ⟨E⟩ H (.Call (.Attribute o x apos) [] [] pos) = @ifS ⟨@uE (RF P d sc u) m H o ⟨@kMF P d (RF P d sc u) m x [] ⟨Q⟩ ⟨E⟩⟩ ⟨E⟩⟩ ⟨uF⟩ (okM o apos pos []):=rfl
theorem r_meth1 (o:Expr) (x:Str) (apos pos:Pos) (e:Expr):@RecF.e (RF P d sc (u + 1)) m ⟨Q⟩ ⟨E⟩ H (.Call (.Attribute o x apos) [e] [] pos) = @ifS ⟨@uE (RF P d sc u) m H o ⟨@kMF P d (RF P d sc u) m x [e] ⟨Q⟩ ⟨E⟩⟩ ⟨E⟩⟩ ⟨uF⟩ (okM o apos pos [e]):=rfl
theorem r_meth3 (o:Expr) (x:Str) (apos pos:Pos) (e f g:Expr):@RecF.e (RF P d sc (u + 1)) m ⟨Q⟩ ⟨E⟩ H (.Call (.Attribute o x apos) [e,f,g] [] pos) = @ifS ⟨@uE (RF P d sc u) m H o ⟨@kMF P d (RF P d sc u) m x [e,f,g] ⟨Q⟩ ⟨E⟩⟩ ⟨E⟩⟩ ⟨uF⟩ (okM o apos pos [e,f,g]):=rfl
theorem r_attr (o:Expr) (x:Str) (pos:Pos):@RecF.e (RF P d sc (u + 1)) m ⟨Q⟩ ⟨E⟩ H (.Attribute o x pos) = @ifS ⟨@uE (RF P d sc u) m H o ⟨@kAF P d x ⟨Q⟩⟩ ⟨E⟩⟩ ⟨uF⟩ (zbm o):=rfl
theorem r_const (c:Const) (k:Nat) (p:Pos):@RecF.e (RF P d sc (u + 1)) m ⟨Q⟩ ⟨E⟩ H (.Constant c k p) = @optN _ ⟨@kAt H ⟨Q⟩⟩ (zky c):=rfl
theorem r_name (x:Str) (p:Pos):@RecF.e (RF P d sc (u + 1)) m ⟨Q⟩ ⟨E⟩ H (.Name x p) = @optN _ ⟨@kAt H ⟨Q⟩⟩ (zac P sc m x):=rfl
theorem r_bin (l r:Expr) (op:Operator) (p:Pos):@RecF.e (RF P d sc (u + 1)) m ⟨Q⟩ ⟨E⟩ H (.BinOp l op r p) = @RecF.e (RF P d sc u) m ⟨@kN1 (RF P d sc u) m op r ⟨Q⟩ ⟨E⟩⟩ ⟨E⟩ H l:=rfl
theorem r_and (a b:Expr) (p:Pos):@RecF.e (RF P d sc (u + 1)) m ⟨Q⟩ ⟨E⟩ H (.BoolOp .And [a,b] p) = @RecF.e (RF P d sc u) m ⟨@kA1 (RF P d sc u) m b ⟨Q⟩ ⟨E⟩⟩ ⟨E⟩ H a:=rfl
theorem r_or (a b:Expr) (p:Pos):@RecF.e (RF P d sc (u + 1)) m ⟨Q⟩ ⟨E⟩ H (.BoolOp .Or [a,b] p) = @RecF.e (RF P d sc u) m ⟨@kO1 (RF P d sc u) m b ⟨Q⟩ ⟨E⟩⟩ ⟨E⟩ H a:=rfl
theorem r_un (op:UnaryOp) (x:Expr) (p:Pos):@RecF.e (RF P d sc (u + 1)) m ⟨Q⟩ ⟨E⟩ H (.UnaryOp op x p) = @RecF.e (RF P d sc u) m ⟨@kU op ⟨Q⟩⟩ ⟨E⟩ H x:=rfl
theorem r_ife (t b o:Expr) (p:Pos):@RecF.e (RF P d sc (u + 1)) m ⟨Q⟩ ⟨E⟩ H (.IfExp t b o p) = @RecF.t (RF P d sc u) m ⟨@kI1 (RF P d sc u) m b o ⟨Q⟩ ⟨E⟩⟩ ⟨E⟩ H t:=rfl
theorem r_list (es:List Expr) (p:Pos):@RecF.e (RF P d sc (u + 1)) m ⟨Q⟩ ⟨E⟩ H (.List es p) = @RecF.es (RF P d sc u) m ⟨@kLs ⟨Q⟩⟩ ⟨E⟩ H es:=rfl
theorem r_tuple (es:List Expr) (k:Nat) (p:Pos):@RecF.e (RF P d sc (u + 1)) m ⟨Q⟩ ⟨E⟩ H (.Tuple es k p) = @RecF.es (RF P d sc u) m ⟨@kTp ⟨Q⟩⟩ ⟨E⟩ H es:=rfl
theorem r_cmp (l r:Expr) (op:CmpOp) (p:Pos):@RecF.e (RF P d sc (u + 1)) m ⟨Q⟩ ⟨E⟩ H (.Compare l [op] [r] p) = @ifS ⟨uF⟩ ⟨@uE (RF P d sc u) m H l ⟨@kM1 (RF P d sc u) m op r ⟨Q⟩ ⟨E⟩⟩ ⟨E⟩⟩ (behindInMarks op r):=rfl
theorem r_repl (o:Expr) (x:Str) (apos pos q r:Pos) (a b:Str) (k l:Nat):@RecF.e (RF P d sc (u + 1)) m ⟨Q⟩ ⟨E⟩ H (.Call (.Attribute o x apos) [.Constant (.str a) k q,.Constant (.str b) l r] [] pos) = @ifS ⟨@uE (RF P d sc u) m H o ⟨@z7q a b ⟨Q⟩⟩ ⟨E⟩⟩ ⟨uF⟩ (decide (x = "replace") && okM o apos pos []):=rfl
theorem r_call (f:Str) (q pos:Pos) (es:List Expr):@RecF.e (RF P d sc (u + 1)) m ⟨Q⟩ ⟨E⟩ H (.Call (.Name f q) es [] pos) = @optN _ ⟨@kC1 P d (RF P d sc u) m H es ⟨Q⟩ ⟨E⟩⟩ (zac P sc m f):=rfl
theorem r_callk (f n:Str) (q pos kp:Pos) (es:List Expr) (e:Expr):@RecF.e (RF P d sc (u + 1)) m ⟨Q⟩ ⟨E⟩ H (.Call (.Name f q) es [⟨some n,e,kp⟩] pos) = @optN _ ⟨@kK1 P d (RF P d sc u) m H es n e ⟨Q⟩ ⟨E⟩⟩ (zac P sc m f):=rfl
theorem r_slice (o:Expr) (lo hi:Option Expr) (p q:Pos):@RecF.e (RF P d sc (u + 1)) m ⟨Q⟩ ⟨E⟩ H (.Subscript o (.Slice lo hi none p) q) = @RecF.e (RF P d sc u) m ⟨@kS1 (RF P d sc u) m lo hi ⟨Q⟩ ⟨E⟩⟩ ⟨E⟩ H o:=rfl
theorem r_step (o lo st:Expr) (p q:Pos):@RecF.e (RF P d sc (u + 1)) m ⟨Q⟩ ⟨E⟩ H (.Subscript o (.Slice (some lo) none (some st) p) q) = @RecF.e (RF P d sc u) m ⟨@kT1 (RF P d sc u) m lo st ⟨Q⟩ ⟨E⟩⟩ ⟨E⟩ H o:=rfl
theorem zyk (o:Expr) (a0:Str) (a1:Pos) (q:Pos):@RecF.e (RF P d sc (u + 1)) m ⟨Q⟩ ⟨E⟩ H (.Subscript o (.Name a0 a1) q) = @RecF.e (RF P d sc u) m ⟨@kB1 P (RF P d sc u) m (.Name a0 a1) ⟨Q⟩ ⟨E⟩⟩ ⟨E⟩ H o:=rfl
theorem zld (o:Expr) (a0:Const) (a1:Nat) (a2:Pos) (q:Pos):@RecF.e (RF P d sc (u + 1)) m ⟨Q⟩ ⟨E⟩ H (.Subscript o (.Constant a0 a1 a2) q) = @RecF.e (RF P d sc u) m ⟨@kB1 P (RF P d sc u) m (.Constant a0 a1 a2) ⟨Q⟩ ⟨E⟩⟩ ⟨E⟩ H o:=rfl
theorem zt6 (o:Expr) (a0:Expr) (a1:Operator) (a2:Expr) (a3:Pos) (q:Pos):@RecF.e (RF P d sc (u + 1)) m ⟨Q⟩ ⟨E⟩ H (.Subscript o (.BinOp a0 a1 a2 a3) q) = @RecF.e (RF P d sc u) m ⟨@kB1 P (RF P d sc u) m (.BinOp a0 a1 a2 a3) ⟨Q⟩ ⟨E⟩⟩ ⟨E⟩ H o:=rfl
theorem znk (o:Expr) (a0:UnaryOp) (a1:Expr) (a2:Pos) (q:Pos):@RecF.e (RF P d sc (u + 1)) m ⟨Q⟩ ⟨E⟩ H (.Subscript o (.UnaryOp a0 a1 a2) q) = @RecF.e (RF P d sc u) m ⟨@kB1 P (RF P d sc u) m (.UnaryOp a0 a1 a2) ⟨Q⟩ ⟨E⟩⟩ ⟨E⟩ H o:=rfl
theorem zyl (o:Expr) (a0:Expr) (a1:List Expr) (a2:List Keyword) (a3:Pos) (q:Pos):@RecF.e (RF P d sc (u + 1)) m ⟨Q⟩ ⟨E⟩ H (.Subscript o (.Call a0 a1 a2 a3) q) = @RecF.e (RF P d sc u) m ⟨@kB1 P (RF P d sc u) m (.Call a0 a1 a2 a3) ⟨Q⟩ ⟨E⟩⟩ ⟨E⟩ H o:=rfl
theorem z6t  : @RecF.o (RF P d sc (u + 1)) m ⟨Q⟩ ⟨E⟩ H none = Q .none H:=rfl
theorem z6s (e:Expr):@RecF.o (RF P d sc (u + 1)) m ⟨Q⟩ ⟨E⟩ H (some e) = @RecF.e (RF P d sc u) m ⟨Q⟩ ⟨E⟩ H e:=rfl
theorem z6w  : @RecF.es (RF P d sc (u + 1)) m ⟨L⟩ ⟨E⟩ H [] = L [] H:=rfl
theorem z1p (a0:Str) (a1:Pos) (r:List Expr):@RecF.es (RF P d sc (u + 1)) m ⟨L⟩ ⟨E⟩ H ((.Name a0 a1)::r) = @RecF.e (RF P d sc u) m ⟨@kE1 (RF P d sc u) m r ⟨L⟩ ⟨E⟩⟩ ⟨E⟩ H (.Name a0 a1):=rfl
theorem znm (a0:Const) (a1:Nat) (a2:Pos) (r:List Expr):@RecF.es (RF P d sc (u + 1)) m ⟨L⟩ ⟨E⟩ H ((.Constant a0 a1 a2)::r) = @RecF.e (RF P d sc u) m ⟨@kE1 (RF P d sc u) m r ⟨L⟩ ⟨E⟩⟩ ⟨E⟩ H (.Constant a0 a1 a2):=rfl
theorem zlf (a0:Expr) (a1:Str) (a2:Pos) (r:List Expr):@RecF.es (RF P d sc (u + 1)) m ⟨L⟩ ⟨E⟩ H ((.Attribute a0 a1 a2)::r) = @RecF.e (RF P d sc u) m ⟨@kE1 (RF P d sc u) m r ⟨L⟩ ⟨E⟩⟩ ⟨E⟩ H (.Attribute a0 a1 a2):=rfl
theorem z1r (a0:Expr) (a1:List Expr) (a2:List Keyword) (a3:Pos) (r:List Expr):@RecF.es (RF P d sc (u + 1)) m ⟨L⟩ ⟨E⟩ H ((.Call a0 a1 a2 a3)::r) = @RecF.e (RF P d sc u) m ⟨@kE1 (RF P d sc u) m r ⟨L⟩ ⟨E⟩⟩ ⟨E⟩ H (.Call a0 a1 a2 a3):=rfl
theorem zle (a0:Expr) (a1:Expr) (a2:Pos) (r:List Expr):@RecF.es (RF P d sc (u + 1)) m ⟨L⟩ ⟨E⟩ H ((.Subscript a0 a1 a2)::r) = @RecF.e (RF P d sc u) m ⟨@kE1 (RF P d sc u) m r ⟨L⟩ ⟨E⟩⟩ ⟨E⟩ H (.Subscript a0 a1 a2):=rfl
theorem zyo (a0:Expr) (a1:Operator) (a2:Expr) (a3:Pos) (r:List Expr):@RecF.es (RF P d sc (u + 1)) m ⟨L⟩ ⟨E⟩ H ((.BinOp a0 a1 a2 a3)::r) = @RecF.e (RF P d sc u) m ⟨@kE1 (RF P d sc u) m r ⟨L⟩ ⟨E⟩⟩ ⟨E⟩ H (.BinOp a0 a1 a2 a3):=rfl
theorem zqm (a0:UnaryOp) (a1:Expr) (a2:Pos) (r:List Expr):@RecF.es (RF P d sc (u + 1)) m ⟨L⟩ ⟨E⟩ H ((.UnaryOp a0 a1 a2)::r) = @RecF.e (RF P d sc u) m ⟨@kE1 (RF P d sc u) m r ⟨L⟩ ⟨E⟩⟩ ⟨E⟩ H (.UnaryOp a0 a1 a2):=rfl
theorem zqn (a0:Expr) (a1:List CmpOp) (a2:List Expr) (a3:Pos) (r:List Expr):@RecF.es (RF P d sc (u + 1)) m ⟨L⟩ ⟨E⟩ H ((.Compare a0 a1 a2 a3)::r) = @RecF.e (RF P d sc u) m ⟨@kE1 (RF P d sc u) m r ⟨L⟩ ⟨E⟩⟩ ⟨E⟩ H (.Compare a0 a1 a2 a3):=rfl
theorem zt9 (a0:BoolOp) (a1:List Expr) (a2:Pos) (r:List Expr):@RecF.es (RF P d sc (u + 1)) m ⟨L⟩ ⟨E⟩ H ((.BoolOp a0 a1 a2)::r) = @RecF.e (RF P d sc u) m ⟨@kE1 (RF P d sc u) m r ⟨L⟩ ⟨E⟩⟩ ⟨E⟩ H (.BoolOp a0 a1 a2):=rfl
theorem z1q (a0:List Expr) (a1:Pos) (r:List Expr):@RecF.es (RF P d sc (u + 1)) m ⟨L⟩ ⟨E⟩ H ((.List a0 a1)::r) = @RecF.e (RF P d sc u) m ⟨@kE1 (RF P d sc u) m r ⟨L⟩ ⟨E⟩⟩ ⟨E⟩ H (.List a0 a1):=rfl
theorem zym (a0:List Expr) (a1:Nat) (a2:Pos) (r:List Expr):@RecF.es (RF P d sc (u + 1)) m ⟨L⟩ ⟨E⟩ H ((.Tuple a0 a1 a2)::r) = @RecF.e (RF P d sc u) m ⟨@kE1 (RF P d sc u) m r ⟨L⟩ ⟨E⟩⟩ ⟨E⟩ H (.Tuple a0 a1 a2):=rfl
theorem znl (a0:Expr) (a1:List Comprehension) (a2:Scope) (a3:Pos) (r:List Expr):@RecF.es (RF P d sc (u + 1)) m ⟨L⟩ ⟨E⟩ H ((.ListComp a0 a1 a2 a3)::r) = @RecF.e (RF P d sc u) m ⟨@kE1 (RF P d sc u) m r ⟨L⟩ ⟨E⟩⟩ ⟨E⟩ H (.ListComp a0 a1 a2 a3):=rfl
theorem zyn (a0:Expr) (a1:Expr) (a2:Expr) (a3:Pos) (r:List Expr):@RecF.es (RF P d sc (u + 1)) m ⟨L⟩ ⟨E⟩ H ((.IfExp a0 a1 a2 a3)::r) = @RecF.e (RF P d sc u) m ⟨@kE1 (RF P d sc u) m r ⟨L⟩ ⟨E⟩⟩ ⟨E⟩ H (.IfExp a0 a1 a2 a3):=rfl
theorem r_t_not (x:Expr) (p:Pos):@RecF.t (RF P d sc (u + 1)) m ⟨T⟩ ⟨E⟩ H (.UnaryOp .Not x p) = @RecF.t (RF P d sc u) m ⟨@kNot ⟨T⟩⟩ ⟨E⟩ H x:=rfl
theorem r_t_and (es:List Expr) (p:Pos):@RecF.t (RF P d sc (u + 1)) m ⟨T⟩ ⟨E⟩ H (.BoolOp .And es p) = @RecF.ta (RF P d sc u) m ⟨T⟩ ⟨E⟩ H es:=rfl
theorem r_t_or (es:List Expr) (p:Pos):@RecF.t (RF P d sc (u + 1)) m ⟨T⟩ ⟨E⟩ H (.BoolOp .Or es p) = @RecF.to (RF P d sc u) m ⟨T⟩ ⟨E⟩ H es:=rfl
theorem r_t_cmp (l r:Expr) (op:CmpOp) (p:Pos):@RecF.t (RF P d sc (u + 1)) m ⟨T⟩ ⟨E⟩ H (.Compare l [op] [r] p) = @ifS ⟨uF⟩ ⟨@uE (RF P d sc u) m H l ⟨@kW1 (RF P d sc u) m op r ⟨T⟩ ⟨E⟩⟩ ⟨E⟩⟩ (behindInMarks op r):=rfl
theorem z6q (a0:Str) (a1:Pos):@RecF.t (RF P d sc (u + 1)) m ⟨T⟩ ⟨E⟩ H (.Name a0 a1) = @RecF.e (RF P d sc u) m ⟨@kV ⟨T⟩⟩ ⟨E⟩ H (.Name a0 a1):=rfl
theorem zql (a0:Const) (a1:Nat) (a2:Pos):@RecF.t (RF P d sc (u + 1)) m ⟨T⟩ ⟨E⟩ H (.Constant a0 a1 a2) = @RecF.e (RF P d sc u) m ⟨@kV ⟨T⟩⟩ ⟨E⟩ H (.Constant a0 a1 a2):=rfl
theorem znj (a0:Expr) (a1:Str) (a2:Pos):@RecF.t (RF P d sc (u + 1)) m ⟨T⟩ ⟨E⟩ H (.Attribute a0 a1 a2) = @RecF.e (RF P d sc u) m ⟨@kV ⟨T⟩⟩ ⟨E⟩ H (.Attribute a0 a1 a2):=rfl
theorem z6r (a0:Expr) (a1:List Expr) (a2:List Keyword) (a3:Pos):@RecF.t (RF P d sc (u + 1)) m ⟨T⟩ ⟨E⟩ H (.Call a0 a1 a2 a3) = @RecF.e (RF P d sc u) m ⟨@kV ⟨T⟩⟩ ⟨E⟩ H (.Call a0 a1 a2 a3):=rfl
theorem zni (a0:Expr) (a1:Expr) (a2:Pos):@RecF.t (RF P d sc (u + 1)) m ⟨T⟩ ⟨E⟩ H (.Subscript a0 a1 a2) = @RecF.e (RF P d sc u) m ⟨@kV ⟨T⟩⟩ ⟨E⟩ H (.Subscript a0 a1 a2):=rfl
theorem z6p  : @RecF.ta (RF P d sc (u + 1)) m ⟨T⟩ ⟨E⟩ H [] = T true H:=rfl
theorem z1m (e:Expr) (r:List Expr):@RecF.ta (RF P d sc (u + 1)) m ⟨T⟩ ⟨E⟩ H (e::r) = @RecF.t (RF P d sc u) m ⟨@kTa (RF P d sc u) m r ⟨T⟩ ⟨E⟩⟩ ⟨E⟩ H e:=rfl
theorem z6o  : @RecF.to (RF P d sc (u + 1)) m ⟨T⟩ ⟨E⟩ H [] = T false H:=rfl
theorem z1l (e:Expr) (r:List Expr):@RecF.to (RF P d sc (u + 1)) m ⟨T⟩ ⟨E⟩ H (e::r) = @RecF.t (RF P d sc u) m ⟨@kTo (RF P d sc u) m r ⟨T⟩ ⟨E⟩⟩ ⟨E⟩ H e:=rfl
theorem z6l (e:Expr) (p:Pos):@RecF.x (RF P d sc (u + 1)) m ⟨S⟩ ⟨E⟩ H (.Expr e p) = @ifS ⟨uF⟩ ⟨@uE (RF P d sc u) m H e ⟨@kX m ⟨S⟩⟩ ⟨E⟩⟩ (zb5 e):=rfl
theorem z6k (p:Pos):@RecF.x (RF P d sc (u + 1)) m ⟨S⟩ ⟨E⟩ H (.Pass p) = S (.next,m) H:=rfl
theorem z1k (p:Pos):@RecF.x (RF P d sc (u + 1)) m ⟨S⟩ ⟨E⟩ H (.Break p) = S (.brk,m) H:=rfl
theorem z6m (p:Pos):@RecF.x (RF P d sc (u + 1)) m ⟨S⟩ ⟨E⟩ H (.Continue p) = S (.cont,m) H:=rfl
theorem r_x_ret (e:Expr) (p:Pos):@RecF.x (RF P d sc (u + 1)) m ⟨S⟩ ⟨E⟩ H (.Return (some e) p) = @RecF.e (RF P d sc u) m ⟨@kR m ⟨S⟩⟩ ⟨E⟩ H e:=rfl
theorem z6j (o:Expr) (x:Str) (q p:Pos) (e:Expr):@RecF.x (RF P d sc (u + 1)) m ⟨S⟩ ⟨E⟩ H (.Assign [.Attribute o x q] e p) = @ifS ⟨uF⟩ ⟨@uE (RF P d sc u) m H e ⟨@kA3 P (RF P d sc u) m o x ⟨S⟩ ⟨E⟩⟩ ⟨E⟩⟩ (zb5 e):=rfl
theorem r_x_set (x:Str) (q p:Pos) (e:Expr):@RecF.x (RF P d sc (u + 1)) m ⟨S⟩ ⟨E⟩ H (.Assign [.Name x q] e p) = @ifS ⟨uF⟩ ⟨@uE (RF P d sc u) m H e ⟨@kSN sc m x ⟨S⟩⟩ ⟨E⟩⟩ (zb5 e):=rfl
theorem r_x_unp (es:List Expr) (k:Nat) (q p:Pos) (e:Expr):@RecF.x (RF P d sc (u + 1)) m ⟨S⟩ ⟨E⟩ H (.Assign [.Tuple es k q] e p) = @ifS ⟨uF⟩ ⟨@uE (RF P d sc u) m H e ⟨@kT4 sc m es k q ⟨S⟩⟩ ⟨E⟩⟩ (z3a e || zb5 e):=rfl
theorem r_x_aug (x:Str) (q p:Pos) (e:Expr):@RecF.x (RF P d sc (u + 1)) m ⟨S⟩ ⟨E⟩ H (.AugAssign (.Name x q) .Add e p) = @ifS ⟨@uG (RF P d sc u) m x e H ⟨S⟩ ⟨E⟩⟩ ⟨uF⟩ (localB sc x):=rfl
theorem z6n (o:Expr) (x:Str) (q p:Pos) (e:Expr):@RecF.x (RF P d sc (u + 1)) m ⟨S⟩ ⟨E⟩ H (.AugAssign (.Attribute o x q) .Add e p) = @RecF.e (RF P d sc u) m ⟨@kH1 P (RF P d sc u) m x e ⟨S⟩ ⟨E⟩⟩ ⟨E⟩ H o:=rfl
theorem r_x_if (t:Expr) (a b:List Stmt) (p:Pos):@RecF.x (RF P d sc (u + 1)) m ⟨S⟩ ⟨E⟩ H (.If t a b p) = @RecF.t (RF P d sc u) m ⟨@kIf (RF P d sc u) m a b ⟨S⟩ ⟨E⟩⟩ ⟨E⟩ H t:=rfl
theorem z1j (t:Expr) (b:List Stmt) (p:Pos):@RecF.x (RF P d sc (u + 1)) m ⟨S⟩ ⟨E⟩ H (.While t b [] p) = @WpI _ ⟨S⟩ ⟨E⟩ (whl P d sc m t b) H:=rfl
theorem r_x_for (t it:Expr) (b:List Stmt) (p:Pos):@RecF.x (RF P d sc (u + 1)) m ⟨S⟩ ⟨E⟩ H (.For t it b [] p) = @ifS ⟨uF⟩ ⟨@uE (RF P d sc u) m H it ⟨@kF1 P d sc m t b ⟨S⟩ ⟨E⟩⟩ ⟨E⟩⟩ (zzh it):=rfl
theorem r_x_val (c a:Str) (k:Nat) (q r p v:Pos):@RecF.x (RF P d sc (u + 1)) m ⟨S⟩ ⟨E⟩ H (.Raise (some (.Call (.Name c q) [.Constant (.str a) k r] [] p)) none v) = @optI _ ⟨fun _=>E .val H⟩ (z29 (zac P sc m c)):=rfl
theorem z6i (c:Str) (q v:Pos):@RecF.x (RF P d sc (u + 1)) m ⟨S⟩ ⟨E⟩ H (.Raise (some (.Name c q)) none v) = @optI _ ⟨fun _=>E .stop H⟩ (zrz (zac P sc m c)):=rfl
theorem z6h  : @RecF.xs (RF P d sc (u + 1)) m ⟨S⟩ ⟨E⟩ H [] = S (.next,m) H:=rfl
theorem z1i (s:Stmt) (r:List Stmt):@RecF.xs (RF P d sc (u + 1)) m ⟨S⟩ ⟨E⟩ H (s::r) = @RecF.x (RF P d sc u) m ⟨@flX (RF P d sc u) ⟨S⟩ ⟨E⟩ r⟩ ⟨E⟩ H s:=rfl
theorem z1n (r:List Stmt) (m':Lo) (H1:Hp):@flX (RF P d sc u) ⟨S⟩ ⟨E⟩ r (.next,m') H1 = @RecF.xs (RF P d sc u) m' ⟨S⟩ ⟨E⟩ H1 r:=rfl
theorem z6v (r:List Stmt) (m':Lo) (H1:Hp):@flX (RF P d sc u) ⟨S⟩ ⟨E⟩ r (.brk,m') H1 = S (.brk,m') H1:=rfl
theorem z1o (r:List Stmt) (m':Lo) (H1:Hp):@flX (RF P d sc u) ⟨S⟩ ⟨E⟩ r (.cont,m') H1 = S (.cont,m') H1:=rfl
theorem z6u (r:List Stmt) (m':Lo) (v:V) (H1:Hp):@flX (RF P d sc u) ⟨S⟩ ⟨E⟩ r (.ret v,m') H1 = S (.ret v,m') H1:=rfl
end
section
variable {L:List V→Hp→Prop} {Q:V→Hp→Prop} {T:Bool→Hp→Prop} {S:Fl×Lo→Hp→Prop} {E:EK→Hp→Prop}
theorem q_uF (y0:Unit):@uF y0 = False:=rfl
theorem q_uQ (v:V) (H:Hp) (y0:Unit):@uQ v H ⟨Q⟩ y0 = Q v H:=rfl
theorem q_uT (t:Bool) (H:Hp) (y0:Unit):@uT t H ⟨T⟩ y0 = T t H:=rfl
theorem q_uS (p:Fl×Lo) (H:Hp) (y0:Unit):@uS p H ⟨S⟩ y0 = S p H:=rfl
theorem q_uE (R:RecF) (m:Lo) (H:Hp) (e:Expr) (y0:Unit):@uE R m H e ⟨Q⟩ ⟨E⟩ y0 = @RecF.e R m ⟨Q⟩ ⟨E⟩ H e:=rfl
theorem q_uEs (R:RecF) (m:Lo) (H:Hp) (es:List Expr) (y0:Unit):@uEs R m H es ⟨L⟩ ⟨E⟩ y0 = @RecF.es R m ⟨L⟩ ⟨E⟩ H es:=rfl
theorem q_uTa (R:RecF) (m:Lo) (H:Hp) (es:List Expr) (y0:Unit):@uTa R m H es ⟨T⟩ ⟨E⟩ y0 = @RecF.ta R m ⟨T⟩ ⟨E⟩ H es:=rfl
theorem q_uTo (R:RecF) (m:Lo) (H:Hp) (es:List Expr) (y0:Unit):@uTo R m H es ⟨T⟩ ⟨E⟩ y0 = @RecF.to R m ⟨T⟩ ⟨E⟩ H es:=rfl
theorem q_uXs (R:RecF) (m:Lo) (H:Hp) (ss:List Stmt) (y0:Unit):@uXs R m H ss ⟨S⟩ ⟨E⟩ y0 = @RecF.xs R m ⟨S⟩ ⟨E⟩ H ss:=rfl
theorem q_kNo (y0:EK) (y1:Hp):@kNo y0 y1 = False:=rfl
theorem q_kAt (H:Hp) (v:V):@kAt H ⟨Q⟩ v = Q v H:=rfl
theorem q_kBool (H:Hp) (t:Bool):@kBool H ⟨Q⟩ t = Q (.bool t) H:=rfl
theorem q_kTb (H:Hp) (t:Bool):@kTb H ⟨T⟩ t = T t H:=rfl
theorem q_kPair (pr:V×Hp):@zd5 ⟨Q⟩ pr = Q pr.1 pr.2:=rfl
theorem q_kCall (P:Prg) (d:Nat) (f:Addr) (ov:V) (vs:List V) (H:Hp):@kCall P d f ov ⟨Q⟩ ⟨E⟩ vs H = @WpI _ ⟨Q⟩ ⟨E⟩ (call P d (.top (.ref f)) (ov::vs) [] []) H:=rfl
theorem z6x (id:String) (ov:V) (vs:List V) (H:Hp):@z24 id ov ⟨Q⟩ vs H = @optI _ ⟨@zd5 ⟨Q⟩⟩ (zax H id (ov::vs)):=rfl
theorem q_kMeth (R:RecF) (m:Lo) (es:List Expr) (ov:V) (H:Hp) (id:String):@kMeth R m es ov H ⟨Q⟩ ⟨E⟩ id = @RecF.es R m ⟨@z24 id ov ⟨Q⟩⟩ ⟨E⟩ H es:=rfl
theorem q_kHand (v:V) (H:Hp):@zzf ⟨Q⟩ v H = @ifI ⟨@uQ v H ⟨Q⟩⟩ ⟨uF⟩ (zi1 v):=rfl
theorem q_kMF (P:Prg) (d:Nat) (R:RecF) (m:Lo) (x:Str) (es:List Expr) (ov:V) (H:Hp):@kMF P d R m x es ⟨Q⟩ ⟨E⟩ ov H = @z2f P d R m ⟨Q⟩ ⟨E⟩ x es ov H (methM P H ov x):=rfl
theorem q_kRepl (sa:Str) (sb:Str) (ov:V) (H:Hp):@z7q sa sb ⟨Q⟩ ov H = @optI _ ⟨@kAt H ⟨Q⟩⟩ (zqh ov sa sb):=rfl
theorem q_kC2 (f:Value) (vs:List V) (H:Hp):@kC2 P d (.top f) ⟨Q⟩ ⟨E⟩ vs H = @zh3 P d ⟨Q⟩ ⟨E⟩ vs H f:=rfl
theorem q_cR (a:Addr) (vs:List V) (H:Hp):@zh3 P d ⟨Q⟩ ⟨E⟩ vs H (.ref a) = @WpI _ ⟨Q⟩ ⟨E⟩ (call P d (.top (.ref a)) vs [] []) H:=rfl
theorem q_cL (vs:List V) (H:Hp):@zh3 P d ⟨Q⟩ ⟨E⟩ vs H (.type "list") = @WpI _ ⟨Q⟩ ⟨E⟩ (call P d (.top (.type "list")) vs [] []) H:=rfl
theorem q_kC1 (P:Prg) (d:Nat) (R:RecF) (m:Lo) (H:Hp) (es:List Expr) (fv:V):@kC1 P d R m H es ⟨Q⟩ ⟨E⟩ fv = @ifS ⟨@uEs R m H es ⟨@kC2 P d fv ⟨Q⟩ ⟨E⟩⟩ ⟨E⟩⟩ ⟨uF⟩ (zdi es && okF P fv):=rfl
theorem q_kK3 (P:Prg) (d:Nat) (fv:V) (n:Str) (vs:List V) (w:V) (H:Hp):@kK3 P d fv n vs ⟨Q⟩ ⟨E⟩ w H = @WpI _ ⟨Q⟩ ⟨E⟩ (call P d fv vs [n] [w]) H:=rfl
theorem q_kK2 (P:Prg) (d:Nat) (R:RecF) (m:Lo) (fv:V) (n:Str) (e:Expr) (vs:List V) (H:Hp):@kK2 P d R m fv n e ⟨Q⟩ ⟨E⟩ vs H = @RecF.e R m ⟨@kK3 P d fv n vs ⟨Q⟩ ⟨E⟩⟩ ⟨E⟩ H e:=rfl
theorem q_kK1 (P:Prg) (d:Nat) (R:RecF) (m:Lo) (H:Hp) (es:List Expr) (n:Str) (e:Expr) (fv:V):@kK1 P d R m H es n e ⟨Q⟩ ⟨E⟩ fv = @ifS ⟨@uEs R m H es ⟨@kK2 P d R m fv n e ⟨Q⟩ ⟨E⟩⟩ ⟨E⟩⟩ ⟨uF⟩ (zdi es && okF P fv):=rfl
theorem q_kS3 (ov:V) (a:V) (b:V) (H:Hp):@kS3 ov a ⟨Q⟩ b H = @optI _ ⟨@zd5 ⟨Q⟩⟩ (cutM H ov a b):=rfl
theorem q_kS2 (R:RecF) (m:Lo) (ov:V) (hi:Option Expr) (a:V) (H:Hp):@kS2 R m ov hi ⟨Q⟩ ⟨E⟩ a H = @RecF.o R m ⟨@kS3 ov a ⟨Q⟩⟩ ⟨E⟩ H hi:=rfl
theorem q_kS1 (R:RecF) (m:Lo) (lo:Option Expr) (hi:Option Expr) (ov:V) (H:Hp):@kS1 R m lo hi ⟨Q⟩ ⟨E⟩ ov H = @RecF.o R m ⟨@kS2 R m ov hi ⟨Q⟩ ⟨E⟩⟩ ⟨E⟩ H lo:=rfl
theorem q_kT3 (ov:V) (a:V) (b:V) (H:Hp):@kT3 ov a ⟨Q⟩ b H = @optI _ ⟨@zd5 ⟨Q⟩⟩ (z55 H ov a b):=rfl
theorem q_kT2 (R:RecF) (m:Lo) (ov:V) (st:Expr) (a:V) (H:Hp):@kT2 R m ov st ⟨Q⟩ ⟨E⟩ a H = @RecF.e R m ⟨@kT3 ov a ⟨Q⟩⟩ ⟨E⟩ H st:=rfl
theorem q_kT1 (R:RecF) (m:Lo) (l:Expr) (st:Expr) (ov:V) (H:Hp):@kT1 R m l st ⟨Q⟩ ⟨E⟩ ov H = @RecF.e R m ⟨@kT2 R m ov st ⟨Q⟩ ⟨E⟩⟩ ⟨E⟩ H l:=rfl
theorem q_kB2 (P:Prg) (ov:V) (a:V) (H:Hp):@kB2 P ov ⟨Q⟩ a H = @optI _ ⟨@kAt H ⟨Q⟩⟩ (subM P.K H ov a):=rfl
theorem q_kB1 (P:Prg) (R:RecF) (m:Lo) (i:Expr) (ov:V) (H:Hp):@kB1 P R m i ⟨Q⟩ ⟨E⟩ ov H = @RecF.e R m ⟨@kB2 P ov ⟨Q⟩⟩ ⟨E⟩ H i:=rfl
theorem q_kA2 (R:RecF) (m:Lo) (e:Expr) (v:V) (H:Hp) (t:Bool):@kA2 R m e v H ⟨Q⟩ ⟨E⟩ t = @ifI ⟨@uE R m H e ⟨Q⟩ ⟨E⟩⟩ ⟨@uQ v H ⟨Q⟩⟩ t:=rfl
theorem q_kA1 (R:RecF) (m:Lo) (e:Expr) (v:V) (H:Hp):@kA1 R m e ⟨Q⟩ ⟨E⟩ v H = @optN _ ⟨@kA2 R m e v H ⟨Q⟩ ⟨E⟩⟩ (zeq H v):=rfl
theorem q_kO2 (R:RecF) (m:Lo) (e:Expr) (v:V) (H:Hp) (t:Bool):@kO2 R m e v H ⟨Q⟩ ⟨E⟩ t = @ifI ⟨@uQ v H ⟨Q⟩⟩ ⟨@uE R m H e ⟨Q⟩ ⟨E⟩⟩ t:=rfl
theorem q_kO1 (R:RecF) (m:Lo) (e:Expr) (v:V) (H:Hp):@kO1 R m e ⟨Q⟩ ⟨E⟩ v H = @optN _ ⟨@kO2 R m e v H ⟨Q⟩ ⟨E⟩⟩ (zeq H v):=rfl
theorem q_kM2 (cp:CmpOp) (a:V) (b:V) (H:Hp):@kM2 cp a ⟨Q⟩ b H = @optN _ ⟨@kBool H ⟨Q⟩⟩ (cmpM H cp a b):=rfl
theorem q_kM1 (R:RecF) (m:Lo) (cp:CmpOp) (r:Expr) (a:V) (H:Hp):@kM1 R m cp r ⟨Q⟩ ⟨E⟩ a H = @RecF.e R m ⟨@kM2 cp a ⟨Q⟩⟩ ⟨E⟩ H r:=rfl
theorem q_kN2 (op:Operator) (a:V) (b:V) (H:Hp):@kN2 op a ⟨Q⟩ b H = @optI _ ⟨@kAt H ⟨Q⟩⟩ (binM op a b):=rfl
theorem q_kN1 (R:RecF) (m:Lo) (op:Operator) (r:Expr) (a:V) (H:Hp):@kN1 R m op r ⟨Q⟩ ⟨E⟩ a H = @RecF.e R m ⟨@kN2 op a ⟨Q⟩⟩ ⟨E⟩ H r:=rfl
theorem q_kU (u:UnaryOp) (a:V) (H:Hp):@kU u ⟨Q⟩ a H = @optN _ ⟨@kAt H ⟨Q⟩⟩ (unM H u a):=rfl
theorem q_kI1 (R:RecF) (m:Lo) (e:Expr) (o:Expr) (t:Bool) (H:Hp):@kI1 R m e o ⟨Q⟩ ⟨E⟩ t H = @ifI ⟨@uE R m H e ⟨Q⟩ ⟨E⟩⟩ ⟨@uE R m H o ⟨Q⟩ ⟨E⟩⟩ t:=rfl
theorem q_kLs (vs:List V) (H:Hp):@kLs ⟨Q⟩ vs H = @ifI ⟨@uQ (.obj H.length) (H++[.list vs]) ⟨Q⟩⟩ ⟨uF⟩ (decide (vs.length < cap)):=rfl
theorem q_kTp (vs:List V) (H:Hp):@kTp ⟨Q⟩ vs H = @ifI ⟨@uQ (.obj H.length) (H++[.tup vs]) ⟨Q⟩⟩ ⟨uF⟩ (decide (vs.length < cap)):=rfl
theorem q_kAF (P:Prg) (d:Nat) (x:Str) (ov:V) (H:Hp):@kAF P d x ⟨Q⟩ ov H = @z4x P d ⟨Q⟩ x ov H (propM P H ov x):=propext ⟨fun h=>@kAF.out _ _ _ ⟨Q⟩ _ _ h,fun h=>@kAF.mk _ _ _ ⟨Q⟩ _ _ h⟩
theorem q_kE2 (v:V) (vs:List V) (H:Hp):@kE2 v ⟨L⟩ vs H = L (v::vs) H:=rfl
theorem q_kE1 (R:RecF) (m:Lo) (rs:List Expr) (v:V) (H:Hp):@kE1 R m rs ⟨L⟩ ⟨E⟩ v H = @RecF.es R m ⟨@kE2 v ⟨L⟩⟩ ⟨E⟩ H rs:=rfl
theorem q_kV (v:V) (H:Hp):@kV ⟨T⟩ v H = @optN _ ⟨@kTb H ⟨T⟩⟩ (zeq H v):=rfl
theorem q_kNot (t:Bool) (H:Hp):@kNot ⟨T⟩ t H = T (!t) H:=rfl
theorem q_kW2 (cp:CmpOp) (a:V) (b:V) (H:Hp):@kW2 cp a ⟨T⟩ b H = @optN _ ⟨@kTb H ⟨T⟩⟩ (cmpM H cp a b):=rfl
theorem q_kW1 (R:RecF) (m:Lo) (cp:CmpOp) (r:Expr) (a:V) (H:Hp):@kW1 R m cp r ⟨T⟩ ⟨E⟩ a H = @RecF.e R m ⟨@kW2 cp a ⟨T⟩⟩ ⟨E⟩ H r:=rfl
theorem q_kTa (R:RecF) (m:Lo) (rs:List Expr) (t:Bool) (H:Hp):@kTa R m rs ⟨T⟩ ⟨E⟩ t H = @ifI ⟨@uTa R m H rs ⟨T⟩ ⟨E⟩⟩ ⟨@uT false H ⟨T⟩⟩ t:=rfl
theorem q_kTo (R:RecF) (m:Lo) (rs:List Expr) (t:Bool) (H:Hp):@kTo R m rs ⟨T⟩ ⟨E⟩ t H = @ifI ⟨@uT true H ⟨T⟩⟩ ⟨@uTo R m H rs ⟨T⟩ ⟨E⟩⟩ t:=rfl
theorem q_kA5 (m:Lo) (H:Hp):@kA5 m ⟨S⟩ H = S (.next,m) H:=rfl
theorem q_kA4 (P:Prg) (m:Lo) (x:Str) (v:V) (ov:V) (H:Hp):@kA4 P m x v ⟨S⟩ ov H = @optI _ ⟨@kA5 m ⟨S⟩⟩ (zbs P H ov x v):=rfl
theorem q_kA3 (P:Prg) (R:RecF) (m:Lo) (o:Expr) (x:Str) (v:V) (H:Hp):@kA3 P R m o x ⟨S⟩ ⟨E⟩ v H = @RecF.e R m ⟨@kA4 P m x v ⟨S⟩⟩ ⟨E⟩ H o:=rfl
theorem q_kSN (sc:Scope) (m:Lo) (x:Str) (v:V) (H:Hp):@kSN sc m x ⟨S⟩ v H = @ifS ⟨@uS (.next,upd m x v) H ⟨S⟩⟩ ⟨uF⟩ (localB sc x):=rfl
theorem q_kT4 (sc:Scope) (m:Lo) (es:List Expr) (k:Nat) (q:Pos) (v:V) (H:Hp):@kT4 sc m es k q ⟨S⟩ v H = @optI _ ⟨@kT5 H ⟨S⟩⟩ (assignM sc m H (.Tuple es k q) v):=rfl
theorem q_kG3 (m:Lo) (x:Str) (H:Hp) (v:V):@kG3 m x H ⟨S⟩ v = S (.next,upd m x v) H:=rfl
theorem q_kG2 (m:Lo) (x:Str) (a:V) (b:V) (H:Hp):@kG2 m x a ⟨S⟩ b H = @optI _ ⟨@kG3 m x H ⟨S⟩⟩ (binM .Add a b):=rfl
theorem q_kG1 (R:RecF) (m:Lo) (x:Str) (e:Expr) (H:Hp) (a:V):@kG1 R m x e H ⟨S⟩ ⟨E⟩ a = @RecF.e R m ⟨@kG2 m x a ⟨S⟩⟩ ⟨E⟩ H e:=rfl
theorem q_uG (R:RecF) (m:Lo) (x:Str) (e:Expr) (H:Hp) (y0:Unit):@uG R m x e H ⟨S⟩ ⟨E⟩ y0 = @optN _ ⟨@kG1 R m x e H ⟨S⟩ ⟨E⟩⟩ (m x):=rfl
theorem q_kH2 (P:Prg) (m:Lo) (x:Str) (ov:V) (a:V) (b:V) (H:Hp):@kH2 P m x ov a ⟨S⟩ b H = @optI _ ⟨fun c=>@optI _ ⟨@kA5 m ⟨S⟩⟩ (zbs P H ov x c)⟩ (binM .Add a b):=rfl
theorem q_kH1 (P:Prg) (R:RecF) (m:Lo) (x:Str) (e:Expr) (ov:V) (H:Hp):@kH1 P R m x e ⟨S⟩ ⟨E⟩ ov H = @optI _ ⟨fun a=>@RecF.e R m ⟨@kH2 P m x ov a ⟨S⟩⟩ ⟨E⟩ H e⟩ (if (propM P H ov x).isNone then attrM P H ov x else none):=rfl
theorem q_kX (m:Lo) (y0:V) (H:Hp):@kX m ⟨S⟩ y0 H = S (.next,m) H:=rfl
theorem q_kR (m:Lo) (v:V) (H:Hp):@kR m ⟨S⟩ v H = S (.ret v,m) H:=rfl
theorem q_kIf (R:RecF) (m:Lo) (ss:List Stmt) (tt:List Stmt) (t:Bool) (H:Hp):@kIf R m ss tt ⟨S⟩ ⟨E⟩ t H = @ifI ⟨@uXs R m H ss ⟨S⟩ ⟨E⟩⟩ ⟨@uXs R m H tt ⟨S⟩ ⟨E⟩⟩ t:=rfl
theorem q_kF1 (P:Prg) (d:Nat) (sc:Scope) (m:Lo) (tg:Expr) (ss:List Stmt) (v:V) (H:Hp):@kF1 P d sc m tg ss ⟨S⟩ ⟨E⟩ v H = @optI _ ⟨fun _=>@WpI _ ⟨S⟩ ⟨E⟩ (frl P d sc m tg ss v 0) H⟩ (zfl H v):=rfl
theorem q_kT5 (H:Hp) (m:Lo):@kT5 H ⟨S⟩ m = S (.next,m) H:=rfl
end
section
variable {P:Prg} {d:Nat} {sc:Scope} {m:Lo} {H:Hp} {E:Kt EK}
theorem zfy {R:RecF} {S:Kt (Fl×Lo)} {b:List Stmt} {s:Stmt} {r:List Stmt} (h:b = s::r) (k:@RecF.xs R m S E H (s::r)):@RecF.xs R m S E H b:=h ▸ k
end
section
variable {S:Fl×Lo→Hp→Prop} {Q:V→Hp→Prop}
theorem zmr (A:Lo→Hp→Prop) (m':Lo) (H1:Hp):zep S A (.next,m') H1 = A m' H1:=rfl
theorem zms (A:Lo→Hp→Prop) (m':Lo) (H1:Hp):zep S A (.cont,m') H1 = A m' H1:=rfl
theorem zpo (A:Lo→Hp→Prop) (m':Lo) (H1:Hp):zep S A (.brk,m') H1 = S (.next,m') H1:=rfl
theorem zpn (A:Lo→Hp→Prop) (m':Lo) (v:V) (H1:Hp):zep S A (.ret v,m') H1 = S (.ret v,m') H1:=rfl
theorem zs5 (v:V) (m:Lo) (H:Hp):retW Q (.ret v,m) H = Q v H:=rfl
theorem zpq (m:Lo) (H:Hp):retW Q (.next,m) H = Q .none H:=rfl
theorem zqx (n:Nat) (H1:Hp):objW Q n .none H1 = Q (.obj n) H1:=rfl
end
theorem iC_ (e:Expr):zb5 e = (e.ctorIdx == 8 || (e.ctorIdx == 9 || (e.ctorIdx == 10 || e.ctorIdx == 11))):=rfl
theorem iT_ (e:Expr):z3a e = (e.ctorIdx == 25):=rfl
theorem iS_ (e:Expr):zzh e = (e.ctorIdx == 7):=rfl
theorem zlg (a0:Str) (a1:Pos):zbm (.Name a0 a1) = true:=rfl
theorem zf4 (a0:Expr) (a1:Str) (a2:Pos):zbm (.Attribute a0 a1 a2) = true:=rfl
theorem zf3 (a0:Expr) (a1:Expr) (a2:Pos):zbm (.Subscript a0 a1 a2) = true:=rfl
theorem zgn (a0:Const) (a1:Nat) (a2:Pos):zbm (.Constant a0 a1 a2) = true:=rfl
theorem nS_ (e:Expr):zke e = !(e.ctorIdx == 22):=rfl
theorem ci_Name (a0:Str) (a1:Pos):Expr.ctorIdx (.Name a0 a1) = 23:=rfl
theorem zvg (a0:Const) (a1:Nat) (a2:Pos):Expr.ctorIdx (.Constant a0 a1 a2) = 19:=rfl
theorem zsi (a0:Expr) (a1:Str) (a2:Pos):Expr.ctorIdx (.Attribute a0 a1 a2) = 20:=rfl
theorem ci_Call (a0:Expr) (a1:List Expr) (a2:List Keyword) (a3:Pos):Expr.ctorIdx (.Call a0 a1 a2 a3) = 16:=rfl
theorem zsh (a0:Expr) (a1:Expr) (a2:Pos):Expr.ctorIdx (.Subscript a0 a1 a2) = 21:=rfl
theorem z84 (a0:Expr) (a1:Operator) (a2:Expr) (a3:Pos):Expr.ctorIdx (.BinOp a0 a1 a2 a3) = 2:=rfl
theorem zzz (a0:UnaryOp) (a1:Expr) (a2:Pos):Expr.ctorIdx (.UnaryOp a0 a1 a2) = 3:=rfl
theorem zz0 (a0:Expr) (a1:List CmpOp) (a2:List Expr) (a3:Pos):Expr.ctorIdx (.Compare a0 a1 a2 a3) = 15:=rfl
theorem z4i (a0:BoolOp) (a1:List Expr) (a2:Pos):Expr.ctorIdx (.BoolOp a0 a1 a2) = 0:=rfl
theorem ci_List (a0:List Expr) (a1:Pos):Expr.ctorIdx (.List a0 a1) = 24:=rfl
theorem z82 (a0:List Expr) (a1:Nat) (a2:Pos):Expr.ctorIdx (.Tuple a0 a1 a2) = 25:=rfl
theorem z83 (a0:Expr) (a1:Expr) (a2:Expr) (a3:Pos):Expr.ctorIdx (.IfExp a0 a1 a2 a3) = 5:=rfl
theorem zvf (a0:Expr) (a1:List Comprehension) (a2:Scope) (a3:Pos):Expr.ctorIdx (.ListComp a0 a1 a2 a3) = 8:=rfl
theorem bm_Name (op:CmpOp) (a0:Str) (a1:Pos):behindInMarks op (.Name a0 a1) = false:=rfl
theorem zvi (op:CmpOp) (a0:Const) (a1:Nat) (a2:Pos):behindInMarks op (.Constant a0 a1 a2) = false:=rfl
theorem zsm (op:CmpOp) (a0:Expr) (a1:Str) (a2:Pos):behindInMarks op (.Attribute a0 a1 a2) = false:=rfl
theorem bm_Call (op:CmpOp) (a0:Expr) (a1:List Expr) (a2:List Keyword) (a3:Pos):behindInMarks op (.Call a0 a1 a2 a3) = false:=rfl
theorem zsl (op:CmpOp) (a0:Expr) (a1:Expr) (a2:Pos):behindInMarks op (.Subscript a0 a1 a2) = false:=rfl
theorem z9d (op:CmpOp) (a0:Expr) (a1:Operator) (a2:Expr) (a3:Pos):behindInMarks op (.BinOp a0 a1 a2 a3) = false:=rfl
theorem zz1 (op:CmpOp) (a0:UnaryOp) (a1:Expr) (a2:Pos):behindInMarks op (.UnaryOp a0 a1 a2) = false:=rfl
theorem z9c (op:CmpOp) (a0:List Expr) (a1:Nat) (a2:Pos):behindInMarks op (.Tuple a0 a1 a2) = false:=rfl
theorem bm_List (op:CmpOp) (a0:List Expr) (a1:Pos):behindInMarks op (.List a0 a1) = false:=rfl
section
variable {P:Prg} {d:Nat} {sc:Scope} {m:Lo} {H:Hp}
theorem r_comp {u:Nat} {Q:Kt V} {E:Kt EK} (elt:Expr) (gs:List Comprehension) (sc':Scope) (p:Pos):@RecF.e (RF P d sc (u + 1)) m Q E H (.ListComp elt gs sc' p) = @WpI _ Q E (ev P d sc m (.ListComp elt gs sc' p)) H:=rfl
theorem z10 {u:Nat} {Q:Kt V} {E:Kt EK} {elt:Expr} {gs:List Comprehension} {sc':Scope} {p:Pos} (h:@WpI _ Q E (ev P d sc m (.ListComp elt gs sc' p)) H):@RecF.e (RF P d sc (u + 1)) m Q E H (.ListComp elt gs sc' p):=h
theorem zaj {S:Kt (Fl×Lo)} {E:Kt EK} {b:List Stmt} {s:Stmt} {r:List Stmt} (h:b = s::r) (k:@RecF.xs (RF P d sc 199) m S E H (s::r)):@WpI _ S E (exs P d sc m b) H:=by subst h; exact in_xs k
theorem zs4 {T:Kt Bool} {E:Kt EK} {t e:Expr} (h:t = e) (k:@RecF.t (RF P d sc 199) m T E H e):@WpI _ T E (tr P d sc m t) H:=by subst h; exact in_t k
theorem wi_tcmp {T:Kt Bool} {E:Kt EK} {t l r:Expr} {op:CmpOp} {p:Pos} (h:t = .Compare l [op] [r] p) (k:@RecF.t (RF P d sc 199) m T E H (.Compare l [op] [r] p)):@WpI _ T E (tr P d sc m t) H:=zs4 h k
theorem wi_tand {T:Kt Bool} {E:Kt EK} {t:Expr} {es:List Expr} {p:Pos} (h:t = .BoolOp .And es p) (k:@RecF.t (RF P d sc 199) m T E H (.BoolOp .And es p)):@WpI _ T E (tr P d sc m t) H:=zs4 h k
theorem z0d {T:Kt Bool} {E:Kt EK} {t:Expr} {c:Const} {n:Nat} {p:Pos} (h:t = .Constant c n p) (k:@RecF.t (RF P d sc 199) m T E H (.Constant c n p)):@WpI _ T E (tr P d sc m t) H:=zs4 h k
end
theorem zjj {M:Model} {A:Around} {E:Value→Shared→Prop} {env:Env} (ys:List Stmt):∀ (xs:List Stmt) {s:Shared} {Q:Flow→Shared→Prop},wpAny M A (execs xs env) (fun f s'=>match f with | .next=>wpAny M A (execs ys env) Q E s' | f=>Q f s') E s→wpAny M A (execs (xs++ys) env) Q E s:=by
 have e:∀ xs:List Stmt,execs (xs++ys) env = (do match ← execs xs env with | .next=>execs ys env | f=>pure f):=fun xs=>by
  induction xs with
  | nil=>rfl
  | cons x xs ih=>
    rw [List.cons_append,execs_cons,execs_cons,ih,LawfulMonad.bind_assoc]
    congr 1
    funext f
    cases f <;> rfl
 intro xs s Q h
 rw [e]
 refine wpAny_bind (wpAny_mono h (fun f s' q=>?_) fun _ _ q=>q)
 cases f <;> first | exact q | exact wpAny_pure q
noncomputable def flW (P:Prg) (d:Nat) (sc:Scope) (r:List Stmt) (S:Fl×Lo→Hp→Prop) (E:EK→Hp→Prop):Fl×Lo→Hp→Prop
 | (.next,m'),H1=>@WpI _ ⟨S⟩ ⟨E⟩ (exs P d sc m' r) H1
 | p,H1=>S p H1
section
variable {P:Prg} {d:Nat} {sc:Scope} {m:Lo} {H:Hp} {S:Fl×Lo→Hp→Prop} {E:EK→Hp→Prop} {b:List Stmt}
theorem zjl (r:List Stmt) (m':Lo) (H1:Hp):flW P d sc r S E (.next,m') H1 = @WpI _ ⟨S⟩ ⟨E⟩ (exs P d sc m' r) H1:=rfl
theorem zkw {a r:List Stmt} (h:@WpI _ ⟨flW P d sc r S E⟩ ⟨E⟩ (exs P d sc m a) H):@WpI _ ⟨S⟩ ⟨E⟩ (exs P d sc m (a++r)) H:=fun O _ _ _ _ _ _ _ N=>
 zjj r a (wpAny_mono (h O N) (fun f s' z=>by
  obtain ⟨x,m2,_,_,r,N,q⟩:=z
  cases x with
  | next=>cases r; exact q O N
  | brk=>cases r; exact ⟨.brk,_,_,_,rfl,N,q⟩
  | cont=>cases r; exact ⟨.cont,_,_,_,rfl,N,q⟩
  | ret v=>obtain ⟨w,rfl,rv⟩:=r; exact ⟨.ret v,_,_,_,⟨w,rfl,rv⟩,N,q⟩) fun _ _ z=>z)
theorem z0e {s1:Stmt} {r:List Stmt} (h:b = s1::r) (k:∀ F:Fl×Lo→Hp→Prop,F = flW P d sc r S E→@RecF.xs (RF P d sc 199) m ⟨F⟩ ⟨E⟩ H [s1]):@WpI _ ⟨S⟩ ⟨E⟩ (exs P d sc m b) H:=by
 subst h; exact zkw (a:=[s1]) (in_xs (k _ rfl))
theorem zpp {s1 s2:Stmt} {r:List Stmt} (h:b = s1::s2::r) (k:∀ F:Fl×Lo→Hp→Prop,F = flW P d sc r S E→@RecF.xs (RF P d sc 199) m ⟨F⟩ ⟨E⟩ H [s1,s2]):@WpI _ ⟨S⟩ ⟨E⟩ (exs P d sc m b) H:=by
 subst h; exact zkw (a:=[s1,s2]) (in_xs (k _ rfl))
end
theorem ztw:isSubtype (.type "ValueError") (.type "ValueError") = pure true:=by rw [isSubtype_type]; kernel_rfl
theorem zty:isSubtype (.type "ValueError") (.type "BaseException") = pure true:=by rw [isSubtype_type]; kernel_rfl
theorem ztx:isSubtype (.type ((Manifest.find? "ValueError").elim "type" fun x=>x.metatype)) (.type "tuple") = pure false:=by
 have:((Manifest.find? "ValueError").elim "type" fun x=>x.metatype) = "type" := by kernel_rfl
 rw [this,isSubtype_type]; kernel_rfl
section
variable {B:Base} {s:Shared} {ρ:List Cell}
theorem Fly.slots {ρ':List Cell} {H':Hp} {fl:List Env} {Bh:Heap} {s' s'':Shared} (F0:FF B ρ fl s.heap) (F:Fly B ρ ρ' H' fl fl s Bh s') (up:s'.heap.UpToSlots s''.heap) (hg:s''.gens = s'.gens) (ho:s''.os = s'.os):Fly B ρ ρ' H' fl fl s Bh s'':=
 ⟨F.keep,F.hr,F.fresh,F.pre,F.stay,fun L o h n=>by
  obtain ⟨sl,h1⟩:=F.frames L o h n
  obtain ⟨x,hx,e⟩:=List.mem_filterMap.mp n
  obtain ⟨_,L',o',a1,a2,⟨es,ep,a3⟩,_⟩:=F0 x hx
  rw [e] at a1; cases a1
  rw [h] at a2; cases a2
  obtain ⟨sl',h2⟩:=up L _ h1 (fun vs q=>by dsimp only at q; rw [a3] at q; cases q)
  exact ⟨sl',h2⟩,hg.trans F.gens,ho.trans F.os⟩
end
section
variable {Y:Cs} {s1:Shared} {ρ1:List Cell} {H H1:Hp} {m:Lo} {Q:Fl×Lo→Hp→Prop} {E:EK→Hp→Prop} {tx:Str} {n:Nat} {np ep ap tp kp cp hpos pos:Pos} {kk:Nat}
noncomputable def noted (Q:Fl×Lo→Hp→Prop) (m:Lo) (n:Nat) (k:EK) (H1:Hp):Prop:=k = .val∧∃ xs,H1[n]? = some (.list xs)∧xs.length < cap∧Q (.next,m) (H1.set n (.list (xs++[.none])))
theorem zsj (O:Ok Y.B) (N:Sn Y s1 ρ1 H m) {e':Value} {s':Shared} (c:CE Y.B ρ1 (Y.env::Y.outer) s1 (noted Q m n) e' s') (t1:1≤s'.toks)
  (hv:zac Y.B Y.sc m "ValueError" = some (.top (.type "ValueError"))) (ht:zac Y.B Y.sc m tx = some (.obj n)) (hap:(ap.endLine == cp.line) = true) {K:Flow→Shared→Prop} {E':Value→Shared→Prop} (hK:∀ s4,SP Y Q .next s4→K .next s4):
  wpAny Y.M Y.A (noteFrame e' Y.env) (fun _ s₂=>wpAny Y.M Y.A (setFlight e' none) (fun _ s₃=>wpAny Y.M Y.A (handleBy e' Y.env
   [.ExceptHandler (some (.Name "ValueError" np)) none [.Expr (.Call (.Attribute (.Name tx tp) "append" ap) [.Constant .none kk kp] [] cp) ep] pos]) K E' s₃) E' s₂) E' s':=by
 obtain ⟨_,H1,t,rfl,xs,hx,hz,q⟩:=c
 have S:=N.cx
 obtain ⟨ρ',Bh,ea,a0,rfl,F,X⟩:=t
 refine wpAny_looks_onW S.c.fr S.own X fun h4 X4 up4=>?_
 refine wpAny_landsW X4 fun h5 X5 up5=>?_
 have F5:Fly Y.B ρ1 ρ' H1 (Y.env::Y.outer) (Y.env::Y.outer) s1 Bh { s' with heap:=h5 }:=F.slots S.c.ff (up4.trans up5) rfl rfl
 obtain ⟨ρ5,i5,x5⟩:=Thru.land S.c.ff (⟨ρ',Bh,ea,a0,rfl,F5,X5⟩:Thru Y.B ρ1 (Y.env::Y.outer) s1 .val H1 (.ref ea) { s' with heap:=h5 })
 obtain ⟨ob,ho,hc⟩:=X5.there
 refine wpAny_handleBy_builtin (X := "ValueError") (T := "ValueError") (b:=true) zty ztx ztw ?_
 refine wpAny_Name (zoe O.k hv S.c.sc S.c.ok i5 (S.c.lr.ext x5) fun w q=>?_) (zed hv)
 obtain ⟨rfl,_⟩:=q
 refine ⟨rfl,⟨ob,ho,hc⟩,?_⟩
 rw [if_pos rfl]
 refine lands_againW X5 fun h6 X6 up6=>?_
 have F6:Fly Y.B ρ1 ρ' H1 (Y.env::Y.outer) (Y.env::Y.outer) s1 Bh { s' with heap:=h6 }:=F.slots S.c.ff ((up4.trans up5).trans up6) rfl rfl
 obtain ⟨ρ6,i6,x6⟩:=Thru.land S.c.ff (⟨ρ',Bh,ea,a0,rfl,F6,X6⟩:Thru Y.B ρ1 (Y.env::Y.outer) s1 .val H1 (.ref ea) { s' with heap:=h6 })
 have N6:Sn Y { s' with heap:=h6 } ρ6 H1 m:=N.next i6 x6 t1
 refine wpAny_noRaise (wpAny_execs_cons (wpAny_Expr_any (zhi (by unfold okM; rw [hap]; rfl) (wpAny_Name (zoe O.k ht S.c.sc S.c.ok i6 (S.c.lr.ext x6) fun u hu=>?_) (zed ht))) (by unfold interactive; rw [S.c.ok.kind]; rfl) (zi7 rfl)))
 refine ⟨(.builtin "list.append",[u]),fun pl Q' q=>zro i6 hu (by simp only [zy4,hx,zkk]; rfl) q,?_⟩
 refine Calls.callWith_builtin (zbx rfl) (zb7 rfl (wpAny_items_cons (wpAny_Constant_none (wpAny_items_nil ?_))))
 have hb:zax H1 "list.append" [.obj n,.none] = some (.none,H1.set n (.list (xs++[.none]))):=by
  have:zax H1 "list.append" [.obj n,.none] = mAppend H1 [.obj n,.none]:=by kernel_rfl
  rw [this]
  simp only [zd3,hx,hz,if_true]
 refine wpAny_mono (wpAny_toks_of t1 (zfc (E:=fun _ _=>False) i6 (as:=[.obj n,.none]) (ws:=[u,.none]) ⟨hu,rfl,trivial⟩ hb)) (fun v s7 z=>?_) fun _ _ p=>p.2
 obtain ⟨k,ρ7,r,i7,x7⟩:=z
 exact wpAny_execs_nil (hK s7 ⟨.next,m,_,ρ7,rfl,N6.next i7 x7 k,q⟩)
end
section
variable {P:Prg} {d:Nat} {sc:Scope} {m:Lo} {H:Hp} {S:Fl×Lo→Hp→Prop} {E:EK→Hp→Prop} {tx x:Str} {n:Nat} {e:Expr} {np ep ap tp kp cp hpos pos p1 p2:Pos} {kk:Nat}
theorem z5z (hc:zb5 e = false) (hv:zac P sc m "ValueError" = some (.top (.type "ValueError"))) (ht:zac P sc m tx = some (.obj n)) (hap:(ap.endLine == cp.line) = true)
  (h:ev P d sc m e H (fun _ H1=>S (.next,m) H1) (noted S m n)):
  @WpI _ ⟨S⟩ ⟨E⟩ (exs P d sc m [.Try [.Expr e p1] [.ExceptHandler (some (.Name "ValueError" np)) none [.Expr (.Call (.Attribute (.Name tx tp) "append" ap) [.Constant .none kk kp] [] cp) ep] hpos] [] [] pos]) H:=fun O A env outer s ρ s1 ρ1 N=>
 wpAny_execs_cons (wpAny_Try_except (wpAny_execs_cons (wpAny_Expr_any (wpAny_mono (wpAny_toks_of N.cx.c.toks (h O N.nx)) (fun _ _ z=>by
   obtain ⟨_,z⟩:=z
   cases z with | mk _ _ _ r p X q=>exact wpAny_execs_nil (wpAny_execs_nil (wpAny_execs_nil ⟨.next,m,_,_,rfl,N.next X.cx.si X.ext X.cx.toks,q⟩))) fun _ _ z=>zsj O N z.2 z.1 hv ht hap fun _ z=>wpAny_execs_nil z) (by unfold interactive; rw [N.cx.c.ok.kind]; rfl) (zi7 hc))))
theorem try_set {rest:List Stmt} (hc:zb5 e = false) (hx:localB sc x = true) (hv:zac P sc m "ValueError" = some (.top (.type "ValueError"))) (ht:zac P sc m tx = some (.obj n)) (hap:(ap.endLine == cp.line) = true)
  (h:ev P d sc m e H (fun v H1=>exs P d sc (upd m x v) rest H1 (fun p H2=>p.1 = .next∧S p H2) (fun _ _=>False)) (noted S m n)):
  @WpI _ ⟨S⟩ ⟨E⟩ (exs P d sc m [.Try (.Assign [.Name x p1] e p2::rest) [.ExceptHandler (some (.Name "ValueError" np)) none [.Expr (.Call (.Attribute (.Name tx tp) "append" ap) [.Constant .none kk kp] [] cp) ep] hpos] [] [] pos]) H:=fun O A env outer s ρ s1 ρ1 N=>
 wpAny_execs_cons (wpAny_Try_except (wpAny_execs_cons (zcy hc rfl rfl (wpAny_mono (wpAny_toks_of N.cx.c.toks (h O N.nx)) (fun _ s2 z=>by
   obtain ⟨_,z⟩:=z
   cases z with | mk v H2 ρ2 r p X q=>
   have N2:Sn ⟨P,d,sc,A,env,outer,s,ρ⟩ s2 ρ2 H2 m:=N.next X.cx.si X.ext X.cx.toks
   refine zhg (m':=upd m x v) N2.cx.c.room.handled N2.cx.c.sc N2.cx.c.ok N2.cx.c.si N2.cx.c.lr r (if_pos hx) fun s3 S'=>?_
   refine wpAny_mono (q O (N2.stored S')) (fun f s4 z=>?_) fun e s4 z=>?_
   ·obtain ⟨y,m4,H4,ρ4,r4,N4,q1,q2⟩:=z
    obtain rfl:y = .next:=q1
    cases r4
    exact wpAny_execs_nil (wpAny_execs_nil ⟨.next,m4,_,_,rfl,N4,q2⟩)
   ·exact wpAny_mono z.2 (fun _ _ z=>by cases z with | mk _ _ _ q=>exact q.elim) fun _ _ z=>z.elim) fun _ _ z=>zsj O N z.2 z.1 hv ht hap fun _ z=>wpAny_execs_nil z))))
end
noncomputable def nthS:List Stmt→Nat→Stmt
 | s::_,0=>s
 | _::r,n + 1=>nthS r n
 | [],_=>.Pass ⟨0,0,0,0⟩
noncomputable def dSco:Scope:={ kind:=.module,names:=[],isGenerator:=false,isCoroutine:=false,more:=[] }
noncomputable def dXp:Expr:=.Constant .none 0 ⟨0,0,0,0⟩
noncomputable def dAr:Arguments:={ posonlyargs:=[],args:=[],vararg:=none,kwonlyargs:=[],kw_defaults:=[],kwarg:=none,defaults:=[] }
noncomputable def sV:Stmt→List Stmt×List Stmt×Expr×Scope×Arguments
 | .FunctionDef _ ps b _ _ _ s _ _ _=>(b,[],dXp,s,ps)
 | .ClassDef _ _ _ b _ _ _ _ _ _ _=>(b,[],dXp,dSco,dAr)
 | .While t b _ _=>(b,[],t,dSco,dAr)
 | .For t _ b _ _=>(b,[],t,dSco,dAr)
 | .If _ b c _=>(b,c,dXp,dSco,dAr)
 | .Return (some e) _=>([],[],e,dSco,dAr)
 | .Assign _ e _=>([],[],e,dSco,dAr)
 | .Expr e _=>([],[],e,dSco,dAr)
 | .Try b _ _ _ _=>(b,[],dXp,dSco,dAr)
 | _=>([],[],dXp,dSco,dAr)
noncomputable def xV:Expr→List Expr×Scope
 | .Call _ es _ _=>(es,dSco)
 | .List es _=>(es,dSco)
 | .ListComp e (g::_) sc _=>([e,g.target],sc)
 | _=>([],dSco)
noncomputable def zar (s:Stmt):List Stmt:=(sV s).1
noncomputable def zbj (s:Stmt):Scope:=(sV s).2.2.2.1
noncomputable def za5:List Stmt:=PySem.Challenge.pw_oy0352_01.main.body
noncomputable def mkFn (S:Stmt) (ps:List Str) (dv:List (Str×V)):Fn:=
 ⟨zbj S,zar S,fun as ws=>if as.length + ws.length = ps.length then some (lk (ps.zip (as++ws)++dv)) else none⟩
theorem zat (a b:String):(Str.ofString a = Str.ofString b) = (a = b):=by
 apply propext
 constructor
 ·intro h
  have h1:a.toList.map Char.toNat = b.toList.map Char.toNat:=by
   have:=congrArg (fun s:Str=>s.cps.toList) h
   simpa [Str.ofString,cpsOfBytes_string] using this
  have inj:∀ (l m:List Char),l.map Char.toNat = m.map Char.toNat→l = m:=fun l=>by
   induction l with
   | nil=>intro m h; cases m with | nil=>rfl | cons _ _=>cases h
   | cons x l ih=>
     intro m h
     cases m with
     | nil=>cases h
     | cons y m=>
       simp only [List.map_cons,List.cons.injEq] at h
       rw [ih m h.2]
       congr 1
       exact Char.ext (UInt32.toNat_inj.mp h.1)
  have:=inj _ _ h1
  rw [← String.ofList_toList (s:=a),this,String.ofList_toList]
 ·rintro rfl; rfl
noncomputable def S_unquote:Stmt:=nthS za5 15
noncomputable def zk7:Fn:=mkFn S_unquote ["s"] []
noncomputable def zgb:Stmt:=nthS za5 16
noncomputable def zvx:Fn:=mkFn zgb ["c"] []
noncomputable def zdm:Stmt:=nthS za5 20
noncomputable def zpj:Fn:=mkFn zdm ["encoded"] [("eol",.str [10])]
noncomputable def zgd:Stmt:=nthS za5 23
noncomputable def zv1:Fn:=mkFn zgd ["n", "what"] []
noncomputable def zga:Stmt:=nthS (zar (nthS za5 29)) 1
noncomputable def zph:Fn:=mkFn zga ["self", "initial_value"] [("newline",.str [10])]
noncomputable def zb0:Stmt:=nthS (zar (nthS za5 29)) 2
noncomputable def zfh:Fn:=mkFn zb0 ["self", "s"] []
noncomputable def zge:Stmt:=nthS (zar (nthS za5 29)) 3
noncomputable def zv2:Fn:=mkFn zge ["self"] []
noncomputable def zk5:Stmt:=nthS (zar (nthS za5 29)) 5
noncomputable def z43:Fn:=mkFn zk5 ["self", "limit"] []
noncomputable def zk4:Stmt:=nthS (zar (nthS za5 29)) 25
noncomputable def z42:Fn:=mkFn zk4 ["self", "size"] []
noncomputable def zcn:Stmt:=nthS (zar (nthS za5 29)) 26
noncomputable def zh4:Fn:=mkFn zcn ["self"] [("size",.int (-1))]
noncomputable def zb1:Stmt:=nthS (zar (nthS za5 38)) 0
noncomputable def zv0:Fn:=mkFn zb1 ["self", "instream", "posix"] [("infile",.none),("punctuation_chars",.bool false)]
noncomputable def zgc:Stmt:=nthS (zar (nthS za5 38)) 1
noncomputable def zvy:Fn:=mkFn zgc ["self"] []
noncomputable def zb2:Stmt:=nthS (zar (nthS za5 38)) 5
noncomputable def zgf:Fn:=mkFn zb2 ["self"] []
noncomputable def zbe:Stmt:=nthS (zar (nthS za5 38)) 6
noncomputable def zfi:Fn:=mkFn zbe ["self"] []
noncomputable def zk6:Stmt:=nthS (zar (nthS za5 38)) 9
noncomputable def z44:Fn:=mkFn zk6 ["self"] []
noncomputable def zvt:Stmt:=nthS (zar (nthS za5 38)) 10
noncomputable def F_nxt:Fn:=mkFn zvt ["self"] []
noncomputable def zf9:Stmt:=nthS za5 39
noncomputable def zvw:Fn:=mkFn zf9 ["s", "comments", "posix"] []
noncomputable def zfg:Stmt:=nthS za5 41
noncomputable def zvv:Fn:=mkFn zfg ["numbers"] []
noncomputable def zem:Stmt:=nthS za5 42
noncomputable def zvz:Fn:=mkFn zem ["units"] []
noncomputable def zdl:Stmt:=nthS za5 43
noncomputable def zpi:Fn:=mkFn zdl ["signs", "k", "mark", "shell"] []
noncomputable def zff:Stmt:=nthS za5 44
noncomputable def zvu:Fn:=mkFn zff ["signs", "noted", "shell"] []
noncomputable def fnL:List (Addr×Nat×List Str×Fn):=[(62,1,[],zk7),(69,1,[],zvx),(82,1,[],zpj),(96,2,[],zv1),(400,2,[],zph),(407,2,[],zfh),(414,1,[],zv2),(428,2,[],z43),(576,2,[],z42),(584,1,[],zh4),(689,2,["posix"],zv0),(696,1,[],zvy),(726,1,[],zgf),(733,1,[],zfi),(755,1,[],z44),(762,1,[],F_nxt),(777,3,[],zvw),(784,1,[],zvv),(789,1,[],zvz),(796,4,[],zpi),(803,3,[],zvu)]
noncomputable def fnOf (a:Addr) (n:Nat) (ns:List Str):List (Addr×Nat×List Str×Fn)→Option Fn
 | []=>none
 | q::r=>if a = q.1∧n = q.2.1∧ns = q.2.2.1 then some q.2.2.2 else fnOf a n ns r
noncomputable def fnT (a:Addr) (n:Nat) (ns:List Str):Option Fn:=fnOf a n ns fnL
theorem z8p {a:Addr} {n:Nat} {ns:List Str} {f:Fn} {l:List (Addr×Nat×List Str×Fn)}:fnOf a n ns l = some f→(a,n,ns,f)∈l:=by
 induction l with
 | nil=>exact fun h=>nomatch h
 | cons q r ih=>
   intro h
   rcases ite_some (show (if a = q.1∧n = q.2.1∧ns = q.2.2.1 then some q.2.2.2 else fnOf a n ns r) = some f from h) with ⟨e,k⟩ | ⟨_,k⟩
   ·obtain ⟨rfl,rfl,rfl⟩:=e; cases k; exact .head _
   ·exact .tail _ (ih k)
noncomputable def lexA:List Str:=["instream", "infile", "posix", "eof", "commenters", "wordchars", "whitespace", "whitespace_split", "quotes", "escape", "escapedquotes", "state", "pushback", "lineno", "debug", "token", "filestack", "source", "_punctuation_chars"]
noncomputable def sioA:List Str:=["_StringIO__newline", "_StringIO__buf", "_StringIO__pos"]
noncomputable def lexM:List (Str×Addr):=[("get_token",726),("read_token",733),("__iter__",755),("__next__",762)]
noncomputable def sioM:List (Str×Addr):=[("_StringIO__translated",407),("_StringIO__check",414),("_StringIO__line",428),("read",576),("readline",584)]
noncomputable def lkA (l:List (Str×Addr)) (x:Str):Option Addr:=match l with
 | []=>none
 | f::r=>if f.1 = x then some f.2 else lkA r x
noncomputable def HEX:List Nat:=[48,49,50,51,52,53,54,55,56,57,97,98,99,100,101,102,65,66,67,68,69,70]
noncomputable def glL:List (Str×V):=[("hexdigits",.str HEX),("unquote",.top (.ref 62)),("chr",.top (.builtin "chr")),("len",.top (.builtin "len")),("int",.top (.type "int")),("bool",.top (.type "bool")),("str",.top (.type "str")),("type",.top (.type "type")),("list",.top (.type "list")),("ord",.top (.builtin "ord")),("isinstance",.top (.builtin "isinstance")),("_QUOPRI_MAP",.top (.ref 42)),("_index",.top (.ref 96)),("deque",.top (.type "collections.deque")),("StringIO",.top (.ref 630)),("shlex",.top (.ref 765)),("quote",.top (.ref 69)),("_law_quoted",.top (.ref 796)),("ValueError",.top (.type "ValueError")),("StopIteration",.top (.type "StopIteration")),("_law_units",.top (.ref 784)),("_law_plain",.top (.ref 789)),("_law_words",.top (.ref 803)),("split",.top (.ref 777)),("decode",.top (.ref 82)),("sum",.top (.builtin "sum")),("range",.top (.type "range"))]
structure Wd where
 F:Frag
 prog:Program
 w:World
 h₀:Heap
 mg:Str→Option Value
 mb:Str→Option Value
noncomputable def prg (K:Wd):Prg where
 K:=K.F
 glob:=lk glL
 prog:=K.prog
 w:=K.w
 h₀:=K.h₀
 mg:=K.mg
 mb:=K.mb
 fn:=fnT
 cls a:=if a = 765 then some 689 else if a = 630 then some 400 else none
 meth C x:=if C = 765 then lkA lexM x else if C = 630 then lkA sioM x else none
 prop C x:=if C = 765∧x = "punctuation_chars" then some 696 else none
 datt C x:=if C = 765 then lexA.contains x else if C = 630 then sioA.contains x else false
 keeps a:=[62,69,82,96,765,630,777,784,789,796,803].contains a
 hint C:=C == 765
section
variable (K:Wd)
theorem cls_765:(prg K).cls 765 = some 689:=rfl
theorem cls_630:(prg K).cls 630 = some 400:=rfl
theorem zzs:(prg K).fn 62 1 [] = some zk7:=by kernel_rfl
theorem z8k:(prg K).fn 69 1 [] = some zvx:=by kernel_rfl
theorem z3y:(prg K).fn 82 1 [] = some zpj:=by kernel_rfl
theorem z8n:(prg K).fn 96 2 [] = some zv1:=by kernel_rfl
theorem zxf:(prg K).fn 400 2 [] = some zph:=by kernel_rfl
theorem zot:(prg K).fn 407 2 [] = some zfh:=by kernel_rfl
theorem z8o:(prg K).fn 414 1 [] = some zv2:=by kernel_rfl
theorem fn_line:(prg K).fn 428 2 [] = some z43:=by kernel_rfl
theorem fn_read:(prg K).fn 576 2 [] = some z42:=by kernel_rfl
theorem zu7:(prg K).fn 584 1 [] = some zh4:=by kernel_rfl
theorem zxg:(prg K).fn 689 2 ["posix"] = some zv0:=by kernel_rfl
theorem z8l:(prg K).fn 696 1 [] = some zvy:=by kernel_rfl
theorem zr6:(prg K).fn 726 1 [] = some zgf:=by kernel_rfl
theorem zou:(prg K).fn 733 1 [] = some zfi:=by kernel_rfl
theorem fn_iter:(prg K).fn 755 1 [] = some z44:=by kernel_rfl
theorem fn_nxt:(prg K).fn 762 1 [] = some F_nxt:=by kernel_rfl
theorem z8j:(prg K).fn 777 3 [] = some zvw:=by kernel_rfl
theorem z8i:(prg K).fn 784 1 [] = some zvv:=by kernel_rfl
theorem z8m:(prg K).fn 789 1 [] = some zvz:=by kernel_rfl
theorem z3x:(prg K).fn 796 4 [] = some zpi:=by kernel_rfl
theorem z8h:(prg K).fn 803 3 [] = some zvu:=by kernel_rfl
theorem zoc:(prg K).meth 765 "__iter__" = some 755:=by kernel_rfl
theorem zgs:(prg K).meth 765 "__next__" = some 762:=by kernel_rfl
theorem zcw:(prg K).meth 630 "_StringIO__translated" = some 407:=by kernel_rfl
end
noncomputable def zcl:Scope:=zbj S_unquote
theorem zmf:kd zcl "s" = some .local∧kd zcl "chr" = some .globalImplicit∧kd zcl "int" = some .globalImplicit:=by decide +kernel
noncomputable def zdg:Scope:=zbj zgb
theorem zw2:kd zdg "c" = some .local∧kd zdg "_QUOPRI_MAP" = some .globalImplicit∧kd zdg "ord" = some .globalImplicit:=by decide +kernel
noncomputable def zad:Scope:=zbj zdm
theorem zal:kd zad "encoded" = some .local∧kd zad "eol" = some .local∧kd zad "decoded" = some .local∧kd zad "line" = some .local∧kd zad "i" = some .local∧kd zad "n" = some .local∧kd zad "c" = some .local∧kd zad "len" = some .globalImplicit∧kd zad "hexdigits" = some .globalImplicit∧kd zad "unquote" = some .globalImplicit:=by decide +kernel
noncomputable def zcb:Scope:=zbj zgd
theorem zw5:kd zcb "n" = some .local∧kd zcb "what" = some .local∧kd zcb "type" = some .globalImplicit∧kd zcb "int" = some .globalImplicit∧kd zcb "bool" = some .globalImplicit∧kd zcb "_wall" = some .globalImplicit:=by decide +kernel
noncomputable def zbt:Scope:=zbj zga
theorem zfm:kd zbt "self" = some .local∧kd zbt "initial_value" = some .local∧kd zbt "newline" = some .local∧kd zbt "type" = some .globalImplicit∧kd zbt "str" = some .globalImplicit∧kd zbt "_wall" = some .globalImplicit∧kd zbt "ValueError" = some .globalImplicit:=by decide +kernel
noncomputable def za9:Scope:=zbj zb0
theorem zg4:kd za9 "self" = some .local∧kd za9 "s" = some .local∧kd za9 "newline" = some .local:=by decide +kernel
noncomputable def zi9:Scope:=zbj zge
theorem zw6:kd zi9 "self" = some .local∧kd zi9 "ValueError" = some .globalImplicit:=by decide +kernel
noncomputable def za0:Scope:=zbj zk5
theorem ze8:kd za0 "self" = some .local∧kd za0 "limit" = some .local∧kd za0 "start" = some .local∧kd za0 "stop" = some .local∧kd za0 "cut" = some .local∧kd za0 "newline" = some .local∧kd za0 "i" = some .local∧kd za0 "j" = some .local∧kd za0 "end" = some .local∧kd za0 "len" = some .globalImplicit∧kd za0 "_wall" = some .globalImplicit:=by decide +kernel
noncomputable def zb4:Scope:=zbj zk4
theorem zdu:kd zb4 "self" = some .local∧kd zb4 "size" = some .local∧kd zb4 "start" = some .local∧kd zb4 "stop" = some .local∧kd zb4 "_index" = some .globalImplicit∧kd zb4 "len" = some .globalImplicit:=by decide +kernel
noncomputable def zbw:Scope:=zbj zcn
theorem zej:kd zbw "self" = some .local∧kd zbw "size" = some .local∧kd zbw "_index" = some .globalImplicit:=by decide +kernel
noncomputable def zah:Scope:=zbj zb1
theorem zaq:kd zah "self" = some .local∧kd zah "instream" = some .local∧kd zah "infile" = some .local∧kd zah "posix" = some .local∧kd zah "punctuation_chars" = some .local∧kd zah "t" = some .local∧kd zah "isinstance" = some .globalImplicit∧kd zah "str" = some .globalImplicit∧kd zah "StringIO" = some .globalImplicit∧kd zah "_wall" = some .globalImplicit∧kd zah "deque" = some .globalImplicit∧kd zah "dict" = some .globalImplicit:=by decide +kernel
noncomputable def znb:Scope:=zbj zgc
theorem zw3:kd znb "self" = some .local:=by decide +kernel
noncomputable def zay:Scope:=zbj zb2
theorem zby:kd zay "self" = some .local∧kd zay "tok" = some .local∧kd zay "raw" = some .local∧kd zay "spec" = some .local∧kd zay "newfile" = some .local∧kd zay "newstream" = some .local∧kd zay "print" = some .globalImplicit∧kd zay "repr" = some .globalImplicit:=by decide +kernel
noncomputable def zab:Scope:=zbj zbe
theorem zaa:kd zab "self" = some .local∧kd zab "quoted" = some .local∧kd zab "escapedstate" = some .local∧kd zab "nextchar" = some .local∧kd zab "result" = some .local∧kd zab "print" = some .globalImplicit∧kd zab "ValueError" = some .globalImplicit∧kd zab "repr" = some .globalImplicit:=by decide +kernel
noncomputable def zt3:Scope:=zbj zk6
theorem z23:kd zt3 "self" = some .local:=by decide +kernel
noncomputable def zig:Scope:=zbj zvt
theorem zw4:kd zig "self" = some .local∧kd zig "token" = some .local∧kd zig "StopIteration" = some .globalImplicit:=by decide +kernel
noncomputable def zbk:Scope:=zbj zf9
theorem zei:kd zbk "s" = some .local∧kd zbk "comments" = some .local∧kd zbk "posix" = some .local∧kd zbk "lex" = some .local∧kd zbk "ValueError" = some .globalImplicit∧kd zbk "shlex" = some .globalImplicit∧kd zbk "list" = some .globalImplicit:=by decide +kernel
noncomputable def zak:Scope:=zbj zfg
theorem zaw:kd zak "numbers" = some .local∧kd zak "units" = some .local∧kd zak "number" = some .local∧kd zak "kind" = some .local∧kd zak "rest" = some .local∧kd zak "end" = some .local∧kd zak "sign" = some .local∧kd zak "shown" = some .local∧kd zak "chr" = some .globalImplicit∧kd zak "quote" = some .globalImplicit:=by decide +kernel
noncomputable def zap:Scope:=zbj zem
theorem zcz:kd zap "units" = some .local∧kd zap "kept" = some .local∧kd zap "shown" = some .local∧kd zap "sign" = some .local∧kd zap "raw" = some .local∧kd zap "len" = some .globalImplicit:=by decide +kernel
noncomputable def zai:Scope:=zbj zdl
theorem zan:kd zai "signs" = some .local∧kd zai "k" = some .local∧kd zai "mark" = some .local∧kd zai "shell" = some .local∧kd zai "said" = some .local∧kd zai "sign" = some .local∧kd zai "acts" = some .local∧kd zai "len" = some .globalImplicit:=by decide +kernel
noncomputable def zae:Scope:=zbj zff
theorem kd_words:kd zae "signs" = some .local∧kd zae "noted" = some .local∧kd zae "shell" = some .local∧kd zae "words" = some .local∧kd zae "word" = some .local∧kd zae "k" = some .local∧kd zae "sign" = some .local∧kd zae "acts" = some .local∧kd zae "said" = some .local∧kd zae "len" = some .globalImplicit∧kd zae "_law_quoted" = some .globalImplicit:=by decide +kernel
section
variable {K:Wd} {d:Nat} {H:Hp} {Q:V→Hp→Prop} {E:EK→Hp→Prop}
theorem zxx {v0:V} (h:@WpI _ ⟨retW Q⟩ ⟨E⟩ (exs (prg K) d zcl (lk [("s",v0)]) (zar S_unquote)) H):@WpI _ ⟨Q⟩ ⟨E⟩ (call (prg K) (d + 1) (.top (.ref 62)) [v0] [] []) H:=
 zdn (as:=[v0]) (zzs K) rfl h
theorem z5b {v0:V} (h:@WpI _ ⟨retW Q⟩ ⟨E⟩ (exs (prg K) d zdg (lk [("c",v0)]) (zar zgb)) H):@WpI _ ⟨Q⟩ ⟨E⟩ (call (prg K) (d + 1) (.top (.ref 69)) [v0] [] []) H:=
 zdn (as:=[v0]) (z8k K) rfl h
theorem z0g {v0:V} (h:@WpI _ ⟨retW Q⟩ ⟨E⟩ (exs (prg K) d zad (lk [("encoded",v0),("eol",.str [10])]) (zar zdm)) H):@WpI _ ⟨Q⟩ ⟨E⟩ (call (prg K) (d + 1) (.top (.ref 82)) [v0] [] []) H:=
 zdn (as:=[v0]) (z3y K) rfl h
theorem z5f {v0 v1:V} (h:@WpI _ ⟨retW Q⟩ ⟨E⟩ (exs (prg K) d zcb (lk [("n",v0),("what",v1)]) (zar zgd)) H):@WpI _ ⟨Q⟩ ⟨E⟩ (call (prg K) (d + 1) (.top (.ref 96)) [v0,v1] [] []) H:=
 zdn (as:=[v0,v1]) (z8n K) rfl h
theorem z5a {v0 v1:V} (h:@WpI _ ⟨retW Q⟩ ⟨E⟩ (exs (prg K) d zbt (lk [("self",v0),("initial_value",v1),("newline",.str [10])]) (zar zga)) H):@WpI _ ⟨Q⟩ ⟨E⟩ (call (prg K) (d + 1) (.top (.ref 400)) [v0,v1] [] []) H:=
 zdn (as:=[v0,v1]) (zxf K) rfl h
theorem zmt {v0 v1:V} (h:@WpI _ ⟨retW Q⟩ ⟨E⟩ (exs (prg K) d za9 (lk [("self",v0),("s",v1)]) (zar zb0)) H):@WpI _ ⟨Q⟩ ⟨E⟩ (call (prg K) (d + 1) (.top (.ref 407)) [v0,v1] [] []) H:=
 zdn (as:=[v0,v1]) (zot K) rfl h
theorem z5g {v0:V} (h:@WpI _ ⟨retW Q⟩ ⟨E⟩ (exs (prg K) d zi9 (lk [("self",v0)]) (zar zge)) H):@WpI _ ⟨Q⟩ ⟨E⟩ (call (prg K) (d + 1) (.top (.ref 414)) [v0] [] []) H:=
 zdn (as:=[v0]) (z8o K) rfl h
theorem wc_line {v0 v1:V} (h:@WpI _ ⟨retW Q⟩ ⟨E⟩ (exs (prg K) d za0 (lk [("self",v0),("limit",v1)]) (zar zk5)) H):@WpI _ ⟨Q⟩ ⟨E⟩ (call (prg K) (d + 1) (.top (.ref 428)) [v0,v1] [] []) H:=
 zdn (as:=[v0,v1]) (fn_line K) rfl h
theorem wc_read {v0 v1:V} (h:@WpI _ ⟨retW Q⟩ ⟨E⟩ (exs (prg K) d zb4 (lk [("self",v0),("size",v1)]) (zar zk4)) H):@WpI _ ⟨Q⟩ ⟨E⟩ (call (prg K) (d + 1) (.top (.ref 576)) [v0,v1] [] []) H:=
 zdn (as:=[v0,v1]) (fn_read K) rfl h
theorem zs6 {v0:V} (h:@WpI _ ⟨retW Q⟩ ⟨E⟩ (exs (prg K) d zbw (lk [("self",v0),("size",.int (-1))]) (zar zcn)) H):@WpI _ ⟨Q⟩ ⟨E⟩ (call (prg K) (d + 1) (.top (.ref 584)) [v0] [] []) H:=
 zdn (as:=[v0]) (zu7 K) rfl h
theorem z5e {v0 v1 u0:V} (h:@WpI _ ⟨retW Q⟩ ⟨E⟩ (exs (prg K) d zah (lk [("self",v0),("instream",v1),("posix",u0),("infile",.none),("punctuation_chars",.bool false)]) (zar zb1)) H):@WpI _ ⟨Q⟩ ⟨E⟩ (call (prg K) (d + 1) (.top (.ref 689)) [v0,v1] ["posix"] [u0]) H:=
 zdn (as:=[v0,v1]) (zxg K) rfl h
theorem z5c {v0:V} (h:@WpI _ ⟨retW Q⟩ ⟨E⟩ (exs (prg K) d znb (lk [("self",v0)]) (zar zgc)) H):@WpI _ ⟨Q⟩ ⟨E⟩ (call (prg K) (d + 1) (.top (.ref 696)) [v0] [] []) H:=
 zdn (as:=[v0]) (z8l K) rfl h
theorem zpr {v0:V} (h:@WpI _ ⟨retW Q⟩ ⟨E⟩ (exs (prg K) d zay (lk [("self",v0)]) (zar zb2)) H):@WpI _ ⟨Q⟩ ⟨E⟩ (call (prg K) (d + 1) (.top (.ref 726)) [v0] [] []) H:=
 zdn (as:=[v0]) (zr6 K) rfl h
theorem zmu {v0:V} (h:@WpI _ ⟨retW Q⟩ ⟨E⟩ (exs (prg K) d zab (lk [("self",v0)]) (zar zbe)) H):@WpI _ ⟨Q⟩ ⟨E⟩ (call (prg K) (d + 1) (.top (.ref 733)) [v0] [] []) H:=
 zdn (as:=[v0]) (zou K) rfl h
theorem wc_iter {v0:V} (h:@WpI _ ⟨retW Q⟩ ⟨E⟩ (exs (prg K) d zt3 (lk [("self",v0)]) (zar zk6)) H):@WpI _ ⟨Q⟩ ⟨E⟩ (call (prg K) (d + 1) (.top (.ref 755)) [v0] [] []) H:=
 zdn (as:=[v0]) (fn_iter K) rfl h
theorem wc_nxt {v0:V} (h:@WpI _ ⟨retW Q⟩ ⟨E⟩ (exs (prg K) d zig (lk [("self",v0)]) (zar zvt)) H):@WpI _ ⟨Q⟩ ⟨E⟩ (call (prg K) (d + 1) (.top (.ref 762)) [v0] [] []) H:=
 zdn (as:=[v0]) (fn_nxt K) rfl h
theorem z49 {v0 v1 v2:V} (h:@WpI _ ⟨retW Q⟩ ⟨E⟩ (exs (prg K) d zbk (lk [("s",v0),("comments",v1),("posix",v2)]) (zar zf9)) H):@WpI _ ⟨Q⟩ ⟨E⟩ (call (prg K) (d + 1) (.top (.ref 777)) [v0,v1,v2] [] []) H:=
 zdn (as:=[v0,v1,v2]) (z8j K) rfl h
theorem z48 {v0:V} (h:@WpI _ ⟨retW Q⟩ ⟨E⟩ (exs (prg K) d zak (lk [("numbers",v0)]) (zar zfg)) H):@WpI _ ⟨Q⟩ ⟨E⟩ (call (prg K) (d + 1) (.top (.ref 784)) [v0] [] []) H:=
 zdn (as:=[v0]) (z8i K) rfl h
theorem z5d {v0:V} (h:@WpI _ ⟨retW Q⟩ ⟨E⟩ (exs (prg K) d zap (lk [("units",v0)]) (zar zem)) H):@WpI _ ⟨Q⟩ ⟨E⟩ (call (prg K) (d + 1) (.top (.ref 789)) [v0] [] []) H:=
 zdn (as:=[v0]) (z8m K) rfl h
theorem z0f {v0 v1 v2 v3:V} (h:@WpI _ ⟨retW Q⟩ ⟨E⟩ (exs (prg K) d zai (lk [("signs",v0),("k",v1),("mark",v2),("shell",v3)]) (zar zdl)) H):@WpI _ ⟨Q⟩ ⟨E⟩ (call (prg K) (d + 1) (.top (.ref 796)) [v0,v1,v2,v3] [] []) H:=
 zdn (as:=[v0,v1,v2,v3]) (z3x K) rfl h
theorem z47 {v0 v1 v2:V} (h:@WpI _ ⟨retW Q⟩ ⟨E⟩ (exs (prg K) d zae (lk [("signs",v0),("noted",v1),("shell",v2)]) (zar zff)) H):@WpI _ ⟨Q⟩ ⟨E⟩ (call (prg K) (d + 1) (.top (.ref 803)) [v0,v1,v2] [] []) H:=
 zdn (as:=[v0,v1,v2]) (z8h K) rfl h
end
theorem prgK (K:Wd):(prg K).K = K.F:=rfl
section
variable {P:Prg} {d:Nat} {sc:Scope} {m:Lo} {H:Hp}
theorem zvh (a b:List Nat):cmpM H .Eq (.str a) (.str b) = some (a == b):=rfl
theorem cEq_int (a b:Int):cmpM H .Eq (.int a) (.int b) = some (decide (a = b)):=rfl
theorem cEq_ns (b:List Nat):cmpM H .Eq .none (.str b) = some false:=rfl
theorem cEq_sn (b:List Nat):cmpM H .Eq (.str b) .none = some false:=rfl
theorem cEq_nn:cmpM H .Eq .none .none = some true:=rfl
theorem cNe_str (a b:List Nat):cmpM H .NotEq (.str a) (.str b) = some (!(a == b)):=rfl
theorem cNe_int (a b:Int):cmpM H .NotEq (.int a) (.int b) = some (!decide (a = b)):=rfl
theorem cLt (a b:Int):cmpM H .Lt (.int a) (.int b) = some (decide (a < b)):=rfl
theorem cLe (a b:Int):cmpM H .LtE (.int a) (.int b) = some (decide (a≤b)):=rfl
theorem cGt (a b:Int):cmpM H .Gt (.int a) (.int b) = some (decide (b < a)):=rfl
theorem cGe (a b:Int):cmpM H .GtE (.int a) (.int b) = some (decide (b≤a)):=rfl
theorem cIs (a b:V):cmpM H .Is a b = isV a b:=rfl
theorem cIsNot (a b:V):cmpM H .IsNot a b = (isV a b).map (!·):=rfl
theorem cIn (a b:V):cmpM H .In a b = inV H a b:=rfl
theorem cNotIn (a b:V):cmpM H .NotIn a b = (inV H a b).map (!·):=rfl
theorem iv_nn:isV .none .none = some true:=rfl
theorem iv_bn (b:Bool):isV (.bool b) .none = some false:=rfl
theorem iv_in (b:Int):isV (.int b) .none = some false:=rfl
theorem iv_sn (b:List Nat):isV (.str b) .none = some false:=rfl
theorem iv_on (b:Nat):isV (.obj b) .none = some false:=rfl
theorem iv_bb (a b:Bool):isV (.bool a) (.bool b) = some (a == b):=rfl
theorem iv_sb (a:List Nat) (b:Bool):isV (.str a) (.bool b) = some false:=rfl
theorem iv_tt (a b:String):isV (.top (.type a)) (.top (.type b)) = some (a == b):=rfl
theorem in_str (c:Nat) (l:List Nat):inV H (.str [c]) (.str l) = some (l.contains c):=rfl
theorem t_none:zeq H .none = some false:=rfl
theorem t_bool (b:Bool):zeq H (.bool b) = some b:=rfl
theorem t_int (i:Int):zeq H (.int i) = some (i != 0):=rfl
theorem t_str (l:List Nat):zeq H (.str l) = some (!l.isEmpty):=rfl
theorem b_int (a b:Int):binM .Add (.int a) (.int b) = some (.int (a + b)):=rfl
theorem b_fd (a b:Int):binM .FloorDiv (.int a) (.int b) = if 0 < b∧b≤1000 then some (.int (a / b)) else none:=rfl
theorem b_md (a b:Int):binM .Mod (.int a) (.int b) = if 0 < b∧b≤1000 then some (.int (a % b)) else none:=rfl
theorem b_str (a b:List Nat):binM .Add (.str a) (.str b) = if a.length + b.length≤cap then some (.str (a++b)) else none:=rfl
theorem z0q (a:Int):unM H .USub (.int a) = some (.int (-a)):=rfl
theorem u_not (v:V):unM H .Not v = (zeq H v).map fun b=>.bool (!b):=rfl
theorem k_none:zky .none = some .none:=rfl
theorem k_bool (b:Bool):zky (.bool b) = some (.bool b):=rfl
theorem k_int (b:Int):zky (.int b) = some (.int b):=rfl
theorem k_str (s:Str):zky (.str s) = strV s:=rfl
end
section
variable {P:Prg} {d:Nat} {H:Hp} {Q:V→Hp→Prop} {E:EK→Hp→Prop} (as:List V)
theorem wb_int:@zh3 P d ⟨Q⟩ ⟨E⟩ as H (.type "int") = @optI _ ⟨@zd5 ⟨Q⟩⟩ (cInt H as):=rfl
theorem wb_type:@zh3 P d ⟨Q⟩ ⟨E⟩ as H (.type "type") = @optI _ ⟨@zd5 ⟨Q⟩⟩ (cType H as):=rfl
theorem z5i:@zh3 P d ⟨Q⟩ ⟨E⟩ as H (.type "collections.deque") = @optI _ ⟨@zd5 ⟨Q⟩⟩ (zxt H as):=rfl
theorem z5h:@zh3 P d ⟨Q⟩ ⟨E⟩ as H (.type "range") = @optI _ ⟨@zd5 ⟨Q⟩⟩ (zxq H as):=rfl
theorem wb_chr:@zh3 P d ⟨Q⟩ ⟨E⟩ as H (.builtin "chr") = @optI _ ⟨@zd5 ⟨Q⟩⟩ (cChr H as):=rfl
theorem wb_ord:@zh3 P d ⟨Q⟩ ⟨E⟩ as H (.builtin "ord") = @optI _ ⟨@zd5 ⟨Q⟩⟩ (cOrd H as):=rfl
theorem wb_len:@zh3 P d ⟨Q⟩ ⟨E⟩ as H (.builtin "len") = @optI _ ⟨@zd5 ⟨Q⟩⟩ (cLen H as):=rfl
theorem wb_isi:@zh3 P d ⟨Q⟩ ⟨E⟩ as H (.builtin "isinstance") = @optI _ ⟨@zd5 ⟨Q⟩⟩ (zxr H as):=rfl
theorem wb_sum:@zh3 P d ⟨Q⟩ ⟨E⟩ as H (.builtin "sum") = @optI _ ⟨@zd5 ⟨Q⟩⟩ (cSum H as):=rfl
end
theorem isVal_v:z29 (some (.top (.type "ValueError"))) = some ():=rfl
theorem z7t:zrz (some (.top (.type "StopIteration"))) = some ():=rfl
section
variable {P:Prg} {H:Hp}
theorem z2d (l:List Nat) (x:Str):methM P H (.str l) x = none:=rfl
theorem z2e (l:List Nat) (x:Str):zcd H (.str l) x = zm6 x:=rfl
theorem z3j:zm6 "rstrip" = some "str.rstrip" := rfl
theorem z4q (as:List V):zax H "str.rstrip" as = zod H as:=rfl
theorem z71:zm6 "lower" = some "str.lower" := rfl
theorem z9f (as:List V):zax H "str.lower" as = zrp H as:=rfl
theorem zop:zm6 "splitlines" = some "str.splitlines" := rfl
theorem zo1 (as:List V):zax H "str.splitlines" as = zee H as:=rfl
theorem zu1:zm6 "endswith" = some "str.endswith" := rfl
theorem zvj (as:List V):zax H "str.endswith" as = zgt H as:=rfl
theorem id_find:zm6 "find" = some "str.find" := rfl
theorem bi_find (as:List V):zax H "str.find" as = z7h H as:=rfl
theorem id_join:zm6 "join" = some "str.join" := rfl
theorem bi_join (as:List V):zax H "str.join" as = z2i H as:=rfl
theorem zbp:zkk "append" = some "list.append" := rfl
theorem zk1 (as:List V):zax H "list.append" as = mAppend H as:=rfl
theorem id_pop:zkk "pop" = some "list.pop" := rfl
theorem bi_pop (as:List V):zax H "list.pop" as = mPop H as:=rfl
theorem zr1:zkk "extend" = some "list.extend" := rfl
theorem z4r (as:List V):zax H "list.extend" as = mExtend H as:=rfl
end
theorem upd_hit (m:Lo) (x:Str) (v:V):upd m x v x = some v:=if_pos rfl
theorem upd_miss (m:Lo) (x y:Str) (v:V) (h:¬ y = x):upd m x v y = m y:=if_neg h
theorem lk_hit (r:List (Str×V)) (x:Str) (v:V):lk ((x,v)::r) x = some v:=if_pos rfl
theorem lk_miss (r:List (Str×V)) (x y:Str) (v:V) (h:¬ x = y):lk ((x,v)::r) y = lk r y:=if_neg h
section
variable {P:Prg} {sc:Scope}
theorem nm_loc (m:Lo) (x:Str) (h:kd sc x = some .local):zac P sc m x = m x:=congrArg (zyt _ _) h
theorem nm_cell (m:Lo) (x:Str) (h:kd sc x = some .cell):zac P sc m x = m x:=congrArg (zyt _ _) h
theorem nm_glob (m:Lo) (x:Str) (h:kd sc x = some .globalImplicit):zac P sc m x = P.glob x:=congrArg (zyt _ _) h
end
noncomputable def NMR:=And.intro @upd_hit <| And.intro @lk_hit <| And.intro @upd_miss <| And.intro @lk_miss <| And.intro @nm_loc <| And.intro @nm_cell @nm_glob
theorem uh_acts (m:Lo) (v:V):upd m "acts" v "acts" = some v:=rfl
theorem uh_c (m:Lo) (v:V):upd m "c" v "c" = some v:=rfl
theorem uh_cut (m:Lo) (v:V):upd m "cut" v "cut" = some v:=rfl
theorem zxz (m:Lo) (v:V):upd m "decoded" v "decoded" = some v:=rfl
theorem z9z (m:Lo) (v:V):upd m "end" v "end" = some v:=rfl
theorem uh_i (m:Lo) (v:V):upd m "i" v "i" = some v:=rfl
theorem ztc (m:Lo) (v:V):upd m "instream" v "instream" = some v:=rfl
theorem uh_k (m:Lo) (v:V):upd m "k" v "k" = some v:=rfl
theorem uh_kind (m:Lo) (v:V):upd m "kind" v "kind" = some v:=rfl
theorem uh_lex (m:Lo) (v:V):upd m "lex" v "lex" = some v:=rfl
theorem uh_line (m:Lo) (v:V):upd m "line" v "line" = some v:=rfl
theorem uh_n (m:Lo) (v:V):upd m "n" v "n" = some v:=rfl
theorem zhk (m:Lo) (v:V):upd m "newline" v "newline" = some v:=rfl
theorem ztb (m:Lo) (v:V):upd m "nextchar" v "nextchar" = some v:=rfl
theorem z5o (m:Lo) (v:V):upd m "noted" v "noted" = some v:=rfl
theorem z0p (m:Lo) (v:V):upd m "number" v "number" = some v:=rfl
theorem zfz (m:Lo) (v:V):upd m "punctuation_chars" v "punctuation_chars" = some v:=rfl
theorem z9y (m:Lo) (v:V):upd m "raw" v "raw" = some v:=rfl
theorem uh_rest (m:Lo) (v:V):upd m "rest" v "rest" = some v:=rfl
theorem z0o (m:Lo) (v:V):upd m "result" v "result" = some v:=rfl
theorem z0n (m:Lo) (v:V):upd m "said" v "said" = some v:=rfl
theorem zv6 (m:Lo) (v:V):upd m "shell" v "shell" = some v:=rfl
theorem zv5 (m:Lo) (v:V):upd m "shown" v "shown" = some v:=rfl
theorem zmv (m:Lo) (v:V):upd m "sign" v "sign" = some v:=rfl
theorem z0m (m:Lo) (v:V):upd m "size" v "size" = some v:=rfl
theorem zv4 (m:Lo) (v:V):upd m "start" v "start" = some v:=rfl
theorem z0l (m:Lo) (v:V):upd m "stop" v "stop" = some v:=rfl
theorem z5n (m:Lo) (v:V):upd m "token" v "token" = some v:=rfl
theorem uh_word (m:Lo) (v:V):upd m "word" v "word" = some v:=rfl
theorem z5m (m:Lo) (v:V):upd m "words" v "words" = some v:=rfl
theorem zwb (m:Lo) (v:V):upd m "acts" v "k" = m "k" := rfl
theorem ztu (m:Lo) (v:V):upd m "acts" v "mark" = m "mark" := rfl
theorem zp6 (m:Lo) (v:V):upd m "acts" v "noted" = m "noted" := rfl
theorem zjx (m:Lo) (v:V):upd m "acts" v "said" = m "said" := rfl
theorem zie (m:Lo) (v:V):upd m "acts" v "shell" = m "shell" := rfl
theorem zjw (m:Lo) (v:V):upd m "acts" v "sign" = m "sign" := rfl
theorem zid (m:Lo) (v:V):upd m "acts" v "signs" = m "signs" := rfl
theorem ztt (m:Lo) (v:V):upd m "acts" v "word" = m "word" := rfl
theorem zp5 (m:Lo) (v:V):upd m "acts" v "words" = m "words" := rfl
theorem zts (m:Lo) (v:V):upd m "c" v "decoded" = m "decoded" := rfl
theorem u_c_eol (m:Lo) (v:V):upd m "c" v "eol" = m "eol" := rfl
theorem u_c_i (m:Lo) (v:V):upd m "c" v "i" = m "i" := rfl
theorem z5v (m:Lo) (v:V):upd m "c" v "line" = m "line" := rfl
theorem u_c_n (m:Lo) (v:V):upd m "c" v "n" = m "n" := rfl
theorem ztr (m:Lo) (v:V):upd m "cut" v "limit" = m "limit" := rfl
theorem zx8 (m:Lo) (v:V):upd m "cut" v "self" = m "self" := rfl
theorem ztq (m:Lo) (v:V):upd m "cut" v "start" = m "start" := rfl
theorem zx7 (m:Lo) (v:V):upd m "cut" v "stop" = m "stop" := rfl
theorem zhn (m:Lo) (v:V):upd m "decoded" v "encoded" = m "encoded" := rfl
theorem zm2 (m:Lo) (v:V):upd m "decoded" v "eol" = m "eol" := rfl
theorem ztp (m:Lo) (v:V):upd m "decoded" v "i" = m "i" := rfl
theorem zto (m:Lo) (v:V):upd m "decoded" v "n" = m "n" := rfl
theorem z0u (m:Lo) (v:V):upd m "end" v "cut" = m "cut" := rfl
theorem zx6 (m:Lo) (v:V):upd m "end" v "kind" = m "kind" := rfl
theorem zx5 (m:Lo) (v:V):upd m "end" v "rest" = m "rest" := rfl
theorem zx4 (m:Lo) (v:V):upd m "end" v "self" = m "self" := rfl
theorem ztn (m:Lo) (v:V):upd m "end" v "start" = m "start" := rfl
theorem zx3 (m:Lo) (v:V):upd m "end" v "stop" = m "stop" := rfl
theorem ztm (m:Lo) (v:V):upd m "end" v "units" = m "units" := rfl
theorem zeb (m:Lo) (v:V):upd m "escapedstate" v "nextchar" = m "nextchar" := rfl
theorem zf0 (m:Lo) (v:V):upd m "escapedstate" v "self" = m "self" := rfl
theorem ztl (m:Lo) (v:V):upd m "i" v "decoded" = m "decoded" := rfl
theorem u_i_end (m:Lo) (v:V):upd m "i" v "end" = m "end" := rfl
theorem u_i_eol (m:Lo) (v:V):upd m "i" v "eol" = m "eol" := rfl
theorem z5u (m:Lo) (v:V):upd m "i" v "line" = m "line" := rfl
theorem u_i_n (m:Lo) (v:V):upd m "i" v "n" = m "n" := rfl
theorem z5t (m:Lo) (v:V):upd m "i" v "self" = m "self" := rfl
theorem z0t (m:Lo) (v:V):upd m "i" v "start" = m "start" := rfl
theorem z5s (m:Lo) (v:V):upd m "i" v "stop" = m "stop" := rfl
theorem zhm (m:Lo) (v:V):upd m "instream" v "infile" = m "infile" := rfl
theorem zio (m:Lo) (v:V):upd m "instream" v "posix" = m "posix" := rfl
theorem zc5 (m:Lo) (v:V):upd m "instream" v "punctuation_chars" = m "punctuation_chars" := rfl
theorem zjv (m:Lo) (v:V):upd m "instream" v "self" = m "self" := rfl
theorem zwa (m:Lo) (v:V):upd m "k" v "acts" = m "acts" := rfl
theorem z5r (m:Lo) (v:V):upd m "k" v "mark" = m "mark" := rfl
theorem z0s (m:Lo) (v:V):upd m "k" v "noted" = m "noted" := rfl
theorem zv9 (m:Lo) (v:V):upd m "k" v "said" = m "said" := rfl
theorem zp4 (m:Lo) (v:V):upd m "k" v "shell" = m "shell" := rfl
theorem zv8 (m:Lo) (v:V):upd m "k" v "sign" = m "sign" := rfl
theorem zp3 (m:Lo) (v:V):upd m "k" v "signs" = m "signs" := rfl
theorem z5q (m:Lo) (v:V):upd m "k" v "word" = m "word" := rfl
theorem z0r (m:Lo) (v:V):upd m "k" v "words" = m "words" := rfl
theorem zp2 (m:Lo) (v:V):upd m "kept" v "units" = m "units" := rfl
theorem zm1 (m:Lo) (v:V):upd m "kind" v "number" = m "number" := rfl
theorem zp1 (m:Lo) (v:V):upd m "kind" v "units" = m "units" := rfl
theorem zlb (m:Lo) (v:V):upd m "lex" v "comments" = m "comments" := rfl
theorem zla (m:Lo) (v:V):upd m "line" v "decoded" = m "decoded" := rfl
theorem zx2 (m:Lo) (v:V):upd m "line" v "eol" = m "eol" := rfl
theorem zm0 (m:Lo) (v:V):upd m "newline" v "cut" = m "cut" := rfl
theorem ztk (m:Lo) (v:V):upd m "newline" v "s" = m "s" := rfl
theorem zdo (m:Lo) (v:V):upd m "newline" v "self" = m "self" := rfl
theorem zju (m:Lo) (v:V):upd m "newline" v "start" = m "start" := rfl
theorem zk9 (m:Lo) (v:V):upd m "newline" v "stop" = m "stop" := rfl
theorem zjt (m:Lo) (v:V):upd m "nextchar" v "self" = m "self" := rfl
theorem zk8 (m:Lo) (v:V):upd m "number" v "units" = m "units" := rfl
theorem zea (m:Lo) (v:V):upd m "punctuation_chars" v "self" = m "self" := rfl
theorem zhl (m:Lo) (v:V):upd m "quoted" v "nextchar" = m "nextchar" := rfl
theorem zmz (m:Lo) (v:V):upd m "quoted" v "self" = m "self" := rfl
theorem zx1 (m:Lo) (v:V):upd m "raw" v "self" = m "self" := rfl
theorem ztj (m:Lo) (v:V):upd m "raw" v "shown" = m "shown" := rfl
theorem zx0 (m:Lo) (v:V):upd m "raw" v "sign" = m "sign" := rfl
theorem zti (m:Lo) (v:V):upd m "rest" v "kind" = m "kind" := rfl
theorem zp0 (m:Lo) (v:V):upd m "rest" v "units" = m "units" := rfl
theorem zjs (m:Lo) (v:V):upd m "result" v "quoted" = m "quoted" := rfl
theorem zmy (m:Lo) (v:V):upd m "result" v "self" = m "self" := rfl
theorem zic (m:Lo) (v:V):upd m "said" v "shell" = m "shell" := rfl
theorem zjr (m:Lo) (v:V):upd m "said" v "sign" = m "sign" := rfl
theorem zth (m:Lo) (v:V):upd m "said" v "word" = m "word" := rfl
theorem zpz (m:Lo) (v:V):upd m "said" v "words" = m "words" := rfl
theorem zmx (m:Lo) (v:V):upd m "shell" v "noted" = m "noted" := rfl
theorem zpy (m:Lo) (v:V):upd m "shown" v "kind" = m "kind" := rfl
theorem zib (m:Lo) (v:V):upd m "shown" v "sign" = m "sign" := rfl
theorem zgg (m:Lo) (v:V):upd m "shown" v "units" = m "units" := rfl
theorem zv7 (m:Lo) (v:V):upd m "sign" v "k" = m "k" := rfl
theorem ztg (m:Lo) (v:V):upd m "sign" v "kind" = m "kind" := rfl
theorem ztf (m:Lo) (v:V):upd m "sign" v "mark" = m "mark" := rfl
theorem zpx (m:Lo) (v:V):upd m "sign" v "noted" = m "noted" := rfl
theorem zjq (m:Lo) (v:V):upd m "sign" v "said" = m "said" := rfl
theorem zia (m:Lo) (v:V):upd m "sign" v "shell" = m "shell" := rfl
theorem zh9 (m:Lo) (v:V):upd m "sign" v "shown" = m "shown" := rfl
theorem zh8 (m:Lo) (v:V):upd m "sign" v "signs" = m "signs" := rfl
theorem zh7 (m:Lo) (v:V):upd m "sign" v "units" = m "units" := rfl
theorem zte (m:Lo) (v:V):upd m "sign" v "word" = m "word" := rfl
theorem zpw (m:Lo) (v:V):upd m "sign" v "words" = m "words" := rfl
theorem zjp (m:Lo) (v:V):upd m "size" v "self" = m "self" := rfl
theorem zmw (m:Lo) (v:V):upd m "start" v "limit" = m "limit" := rfl
theorem zh6 (m:Lo) (v:V):upd m "start" v "self" = m "self" := rfl
theorem zpv (m:Lo) (v:V):upd m "start" v "size" = m "size" := rfl
theorem zpu (m:Lo) (v:V):upd m "stop" v "limit" = m "limit" := rfl
theorem zjo (m:Lo) (v:V):upd m "stop" v "self" = m "self" := rfl
theorem ztd (m:Lo) (v:V):upd m "stop" v "size" = m "size" := rfl
theorem zh5 (m:Lo) (v:V):upd m "stop" v "start" = m "start" := rfl
theorem zpt (m:Lo) (v:V):upd m "token" v "self" = m "self" := rfl
theorem zjn (m:Lo) (v:V):upd m "units" v "numbers" = m "numbers" := rfl
theorem z5p (m:Lo) (v:V):upd m "word" v "k" = m "k" := rfl
theorem i_c (r:List (Str×V)) (v:V):lk (("c",v)::r) "c" = some v:=rfl
theorem zzk (r:List (Str×V)) (v:V):lk (("comments",v)::r) "comments" = some v:=rfl
theorem z3n (r:List (Str×V)) (v:V):lk (("encoded",v)::r) "encoded" = some v:=rfl
theorem z72 (r:List (Str×V)) (v:V):lk (("infile",v)::r) "infile" = some v:=rfl
theorem zlr (r:List (Str×V)) (v:V):lk (("initial_value",v)::r) "initial_value" = some v:=rfl
theorem zzj (r:List (Str×V)) (v:V):lk (("instream",v)::r) "instream" = some v:=rfl
theorem i_limit (r:List (Str×V)) (v:V):lk (("limit",v)::r) "limit" = some v:=rfl
theorem i_n (r:List (Str×V)) (v:V):lk (("n",v)::r) "n" = some v:=rfl
theorem zkq (r:List (Str×V)) (v:V):lk (("newline",v)::r) "newline" = some v:=rfl
theorem z3m (r:List (Str×V)) (v:V):lk (("numbers",v)::r) "numbers" = some v:=rfl
theorem z3l (r:List (Str×V)) (v:V):lk (("posix",v)::r) "posix" = some v:=rfl
theorem zg6 (r:List (Str×V)) (v:V):lk (("punctuation_chars",v)::r) "punctuation_chars" = some v:=rfl
theorem i_s (r:List (Str×V)) (v:V):lk (("s",v)::r) "s" = some v:=rfl
theorem zeo (r:List (Str×V)) (v:V):lk (("self",v)::r) "self" = some v:=rfl
theorem i_size (r:List (Str×V)) (v:V):lk (("size",v)::r) "size" = some v:=rfl
theorem z3k (r:List (Str×V)) (v:V):lk (("units",v)::r) "units" = some v:=rfl
theorem ziz (r:List (Str×V)) (v:V):lk (("comments",v)::r) "posix" = lk r "posix" := rfl
theorem zdw (r:List (Str×V)) (v:V):lk (("infile",v)::r) "punctuation_chars" = lk r "punctuation_chars" := rfl
theorem zes (r:List (Str×V)) (v:V):lk (("initial_value",v)::r) "newline" = lk r "newline" := rfl
theorem zh1 (r:List (Str×V)) (v:V):lk (("instream",v)::r) "infile" = lk r "infile" := rfl
theorem ziy (r:List (Str×V)) (v:V):lk (("instream",v)::r) "posix" = lk r "posix" := rfl
theorem zde (r:List (Str×V)) (v:V):lk (("instream",v)::r) "punctuation_chars" = lk r "punctuation_chars" := rfl
theorem zlq (r:List (Str×V)) (v:V):lk (("posix",v)::r) "infile" = lk r "infile" := rfl
theorem zd6 (r:List (Str×V)) (v:V):lk (("posix",v)::r) "punctuation_chars" = lk r "punctuation_chars" := rfl
theorem zry (r:List (Str×V)) (v:V):lk (("s",v)::r) "comments" = lk r "comments" := rfl
theorem z25 (r:List (Str×V)) (v:V):lk (("s",v)::r) "posix" = lk r "posix" := rfl
theorem zok (r:List (Str×V)) (v:V):lk (("self",v)::r) "infile" = lk r "infile" := rfl
theorem zf6 (r:List (Str×V)) (v:V):lk (("self",v)::r) "initial_value" = lk r "initial_value" := rfl
theorem zkp (r:List (Str×V)) (v:V):lk (("self",v)::r) "instream" = lk r "instream" := rfl
theorem zrx (r:List (Str×V)) (v:V):lk (("self",v)::r) "limit" = lk r "limit" := rfl
theorem zdv (r:List (Str×V)) (v:V):lk (("self",v)::r) "newline" = lk r "newline" := rfl
theorem zrw (r:List (Str×V)) (v:V):lk (("self",v)::r) "posix" = lk r "posix" := rfl
theorem zek (r:List (Str×V)) (v:V):lk (("self",v)::r) "punctuation_chars" = lk r "punctuation_chars" := rfl
theorem z7r (r:List (Str×V)) (v:V):lk (("self",v)::r) "s" = lk r "s" := rfl
theorem zko (r:List (Str×V)) (v:V):lk (("self",v)::r) "size" = lk r "size" := rfl
theorem zuj (P:Prg) (m:Lo):zac P zcl m "s" = m "s" := rfl
theorem znx (P:Prg) (m:Lo):zac P zcl m "chr" = P.glob "chr" := rfl
theorem znw (P:Prg) (m:Lo):zac P zcl m "int" = P.glob "int" := rfl
theorem z2b (P:Prg) (m:Lo):zac P zdg m "c" = m "c" := rfl
theorem zhw (P:Prg) (m:Lo):zac P zdg m "_QUOPRI_MAP" = P.glob "_QUOPRI_MAP" := rfl
theorem zur (P:Prg) (m:Lo):zac P zdg m "ord" = P.glob "ord" := rfl
theorem z4v:localB zdg "c" = true:=rfl
theorem ziw (P:Prg) (m:Lo):zac P zad m "encoded" = m "encoded" := rfl
theorem zrl (P:Prg) (m:Lo):zac P zad m "eol" = m "eol" := rfl
theorem zix (P:Prg) (m:Lo):zac P zad m "decoded" = m "decoded" := rfl
theorem zob (P:Prg) (m:Lo):zac P zad m "line" = m "line" := rfl
theorem zy1 (P:Prg) (m:Lo):zac P zad m "i" = m "i" := rfl
theorem zy0 (P:Prg) (m:Lo):zac P zad m "n" = m "n" := rfl
theorem zy2 (P:Prg) (m:Lo):zac P zad m "c" = m "c" := rfl
theorem zrk (P:Prg) (m:Lo):zac P zad m "len" = P.glob "len" := rfl
theorem zgr (P:Prg) (m:Lo):zac P zad m "hexdigits" = P.glob "hexdigits" := rfl
theorem ziv (P:Prg) (m:Lo):zac P zad m "unquote" = P.glob "unquote" := rfl
theorem zi5:localB zad "decoded" = true:=rfl
theorem zpe:localB zad "line" = true:=rfl
theorem zz7:localB zad "i" = true:=rfl
theorem zz6:localB zad "n" = true:=rfl
theorem zz8:localB zad "c" = true:=rfl
theorem z2c (P:Prg) (m:Lo):zac P zcb m "n" = m "n" := rfl
theorem zrj (P:Prg) (m:Lo):zac P zcb m "type" = P.glob "type" := rfl
theorem zuy (P:Prg) (m:Lo):zac P zcb m "int" = P.glob "int" := rfl
theorem z4w:localB zcb "n" = true:=rfl
theorem zq9 (P:Prg) (m:Lo):zac P zbt m "self" = m "self" := rfl
theorem zfq (P:Prg) (m:Lo):zac P zbt m "initial_value" = m "initial_value" := rfl
theorem zkg (P:Prg) (m:Lo):zac P zbt m "newline" = m "newline" := rfl
theorem zq8 (P:Prg) (m:Lo):zac P zbt m "type" = P.glob "type" := rfl
theorem zun (P:Prg) (m:Lo):zac P zbt m "str" = P.glob "str" := rfl
theorem zk2:localB zbt "newline" = true:=rfl
theorem zhv (P:Prg) (m:Lo):zac P za9 m "self" = m "self" := rfl
theorem zli (P:Prg) (m:Lo):zac P za9 m "s" = m "s" := rfl
theorem zfp (P:Prg) (m:Lo):zac P za9 m "newline" = m "newline" := rfl
theorem zft:localB za9 "newline" = true:=rfl
theorem zrm (P:Prg) (m:Lo):zac P zi9 m "self" = m "self" := rfl
theorem zuw (P:Prg) (m:Lo):zac P za0 m "self" = m "self" := rfl
theorem zri (P:Prg) (m:Lo):zac P za0 m "limit" = m "limit" := rfl
theorem zrh (P:Prg) (m:Lo):zac P za0 m "start" = m "start" := rfl
theorem zuv (P:Prg) (m:Lo):zac P za0 m "stop" = m "stop" := rfl
theorem zyz (P:Prg) (m:Lo):zac P za0 m "cut" = m "cut" := rfl
theorem zlm (P:Prg) (m:Lo):zac P za0 m "newline" = m "newline" := rfl
theorem z68 (P:Prg) (m:Lo):zac P za0 m "i" = m "i" := rfl
theorem zyy (P:Prg) (m:Lo):zac P za0 m "end" = m "end" := rfl
theorem zyx (P:Prg) (m:Lo):zac P za0 m "len" = P.glob "len" := rfl
theorem zsy:localB za0 "start" = true:=rfl
theorem zvr:localB za0 "stop" = true:=rfl
theorem zz5:localB za0 "cut" = true:=rfl
theorem zlx:localB za0 "newline" = true:=rfl
theorem z9q:localB za0 "i" = true:=rfl
theorem zz4:localB za0 "end" = true:=rfl
theorem zuq (P:Prg) (m:Lo):zac P zb4 m "self" = m "self" := rfl
theorem zup (P:Prg) (m:Lo):zac P zb4 m "size" = m "size" := rfl
theorem zra (P:Prg) (m:Lo):zac P zb4 m "start" = m "start" := rfl
theorem zuo (P:Prg) (m:Lo):zac P zb4 m "stop" = m "stop" := rfl
theorem zrb (P:Prg) (m:Lo):zac P zb4 m "_index" = P.glob "_index" := rfl
theorem zyu (P:Prg) (m:Lo):zac P zb4 m "len" = P.glob "len" := rfl
theorem zvo:localB zb4 "size" = true:=rfl
theorem zsv:localB zb4 "start" = true:=rfl
theorem zvn:localB zb4 "stop" = true:=rfl
theorem zki (P:Prg) (m:Lo):zac P zbw m "self" = m "self" := rfl
theorem zkh (P:Prg) (m:Lo):zac P zbw m "size" = m "size" := rfl
theorem zis (P:Prg) (m:Lo):zac P zbw m "_index" = P.glob "_index" := rfl
theorem zk3:localB zbw "size" = true:=rfl
theorem zrg (P:Prg) (m:Lo):zac P zah m "self" = m "self" := rfl
theorem zit (P:Prg) (m:Lo):zac P zah m "instream" = m "instream" := rfl
theorem zll (P:Prg) (m:Lo):zac P zah m "infile" = m "infile" := rfl
theorem zn9 (P:Prg) (m:Lo):zac P zah m "posix" = m "posix" := rfl
theorem zd2 (P:Prg) (m:Lo):zac P zah m "punctuation_chars" = m "punctuation_chars" := rfl
theorem zgq (P:Prg) (m:Lo):zac P zah m "isinstance" = P.glob "isinstance" := rfl
theorem zuu (P:Prg) (m:Lo):zac P zah m "str" = P.glob "str" := rfl
theorem ziu (P:Prg) (m:Lo):zac P zah m "StringIO" = P.glob "StringIO" := rfl
theorem zoa (P:Prg) (m:Lo):zac P zah m "deque" = P.glob "deque" := rfl
theorem zi4:localB zah "instream" = true:=rfl
theorem zd9:localB zah "punctuation_chars" = true:=rfl
theorem zrd (P:Prg) (m:Lo):zac P znb m "self" = m "self" := rfl
theorem zkj (P:Prg) (m:Lo):zac P zay m "self" = m "self" := rfl
theorem zln (P:Prg) (m:Lo):zac P zay m "raw" = m "raw" := rfl
theorem zly:localB zay "raw" = true:=rfl
theorem zir (P:Prg) (m:Lo):zac P zab m "self" = m "self" := rfl
theorem zgp (P:Prg) (m:Lo):zac P zab m "quoted" = m "quoted" := rfl
theorem zd1 (P:Prg) (m:Lo):zac P zab m "escapedstate" = m "escapedstate" := rfl
theorem zfr (P:Prg) (m:Lo):zac P zab m "nextchar" = m "nextchar" := rfl
theorem zgo (P:Prg) (m:Lo):zac P zab m "result" = m "result" := rfl
theorem zer (P:Prg) (m:Lo):zac P zab m "ValueError" = P.glob "ValueError" := rfl
theorem zhf:localB zab "quoted" = true:=rfl
theorem zd8:localB zab "escapedstate" = true:=rfl
theorem zfu:localB zab "nextchar" = true:=rfl
theorem zhe:localB zab "result" = true:=rfl
theorem zux (P:Prg) (m:Lo):zac P zt3 m "self" = m "self" := rfl
theorem zyw (P:Prg) (m:Lo):zac P zig m "self" = m "self" := rfl
theorem zut (P:Prg) (m:Lo):zac P zig m "token" = m "token" := rfl
theorem zf5 (P:Prg) (m:Lo):zac P zig m "StopIteration" = P.glob "StopIteration" := rfl
theorem zvq:localB zig "token" = true:=rfl
theorem z2a (P:Prg) (m:Lo):zac P zbk m "s" = m "s" := rfl
theorem ziq (P:Prg) (m:Lo):zac P zbk m "comments" = m "comments" := rfl
theorem zn2 (P:Prg) (m:Lo):zac P zbk m "posix" = m "posix" := rfl
theorem zum (P:Prg) (m:Lo):zac P zbk m "lex" = m "lex" := rfl
theorem zn1 (P:Prg) (m:Lo):zac P zbk m "shlex" = P.glob "shlex" := rfl
theorem zq7 (P:Prg) (m:Lo):zac P zbk m "list" = P.glob "list" := rfl
theorem zvm:localB zbk "lex" = true:=rfl
theorem zkf (P:Prg) (m:Lo):zac P zak m "numbers" = m "numbers" := rfl
theorem zny (P:Prg) (m:Lo):zac P zak m "units" = m "units" := rfl
theorem zlh (P:Prg) (m:Lo):zac P zak m "number" = m "number" := rfl
theorem zq6 (P:Prg) (m:Lo):zac P zak m "kind" = m "kind" := rfl
theorem zq5 (P:Prg) (m:Lo):zac P zak m "rest" = m "rest" := rfl
theorem zuk (P:Prg) (m:Lo):zac P zak m "end" = m "end" := rfl
theorem zq4 (P:Prg) (m:Lo):zac P zak m "sign" = m "sign" := rfl
theorem znz (P:Prg) (m:Lo):zac P zak m "shown" = m "shown" := rfl
theorem zul (P:Prg) (m:Lo):zac P zak m "chr" = P.glob "chr" := rfl
theorem zn0 (P:Prg) (m:Lo):zac P zak m "quote" = P.glob "quote" := rfl
theorem zo7:localB zak "units" = true:=rfl
theorem zlv:localB zak "number" = true:=rfl
theorem zsu:localB zak "kind" = true:=rfl
theorem zst:localB zak "rest" = true:=rfl
theorem zvl:localB zak "end" = true:=rfl
theorem zss:localB zak "sign" = true:=rfl
theorem zo8:localB zak "shown" = true:=rfl
theorem zn7 (P:Prg) (m:Lo):zac P zap m "units" = m "units" := rfl
theorem zrf (P:Prg) (m:Lo):zac P zap m "kept" = m "kept" := rfl
theorem zn8 (P:Prg) (m:Lo):zac P zap m "shown" = m "shown" := rfl
theorem zre (P:Prg) (m:Lo):zac P zap m "sign" = m "sign" := rfl
theorem zus (P:Prg) (m:Lo):zac P zap m "len" = P.glob "len" := rfl
theorem zpc:localB zap "units" = true:=rfl
theorem zsx:localB zap "kept" = true:=rfl
theorem zpd:localB zap "shown" = true:=rfl
theorem zsw:localB zap "sign" = true:=rfl
theorem zvp:localB zap "raw" = true:=rfl
theorem zlj (P:Prg) (m:Lo):zac P zai m "signs" = m "signs" := rfl
theorem zyv (P:Prg) (m:Lo):zac P zai m "k" = m "k" := rfl
theorem zn5 (P:Prg) (m:Lo):zac P zai m "mark" = m "mark" := rfl
theorem zlk (P:Prg) (m:Lo):zac P zai m "shell" = m "shell" := rfl
theorem zn4 (P:Prg) (m:Lo):zac P zai m "said" = m "said" := rfl
theorem zn3 (P:Prg) (m:Lo):zac P zai m "sign" = m "sign" := rfl
theorem zn6 (P:Prg) (m:Lo):zac P zai m "acts" = m "acts" := rfl
theorem zrc (P:Prg) (m:Lo):zac P zai m "len" = P.glob "len" := rfl
theorem zz3:localB zai "k" = true:=rfl
theorem zlw:localB zai "shell" = true:=rfl
theorem zpa:localB zai "said" = true:=rfl
theorem zo9:localB zai "sign" = true:=rfl
theorem zpb:localB zai "acts" = true:=rfl
theorem znt (P:Prg) (m:Lo):zac P zae m "signs" = m "signs" := rfl
theorem znv (P:Prg) (m:Lo):zac P zae m "noted" = m "noted" := rfl
theorem znu (P:Prg) (m:Lo):zac P zae m "shell" = m "shell" := rfl
theorem zns (P:Prg) (m:Lo):zac P zae m "words" = m "words" := rfl
theorem zq0 (P:Prg) (m:Lo):zac P zae m "word" = m "word" := rfl
theorem z19 (P:Prg) (m:Lo):zac P zae m "k" = m "k" := rfl
theorem zq1 (P:Prg) (m:Lo):zac P zae m "sign" = m "sign" := rfl
theorem zq3 (P:Prg) (m:Lo):zac P zae m "acts" = m "acts" := rfl
theorem zq2 (P:Prg) (m:Lo):zac P zae m "said" = m "said" := rfl
theorem zui (P:Prg) (m:Lo):zac P zae m "len" = P.glob "len" := rfl
theorem zhu (P:Prg) (m:Lo):zac P zae m "_law_quoted" = P.glob "_law_quoted" := rfl
theorem zo6:localB zae "noted" = true:=rfl
theorem zo5:localB zae "shell" = true:=rfl
theorem zo4:localB zae "words" = true:=rfl
theorem zso:localB zae "word" = true:=rfl
theorem z4u:localB zae "k" = true:=rfl
theorem zsp:localB zae "sign" = true:=rfl
theorem zsr:localB zae "acts" = true:=rfl
theorem zsq:localB zae "said" = true:=rfl
theorem zjm (m:Lo) (v:V):upd m "self" v "self" = some v:=rfl
theorem zc7 {m:Lo} {x:Str} {v:V} (h:m x = some v):∃ m0,m = upd m0 x v:=⟨m,funext fun y=>by
 unfold upd
 by_cases e:y = x
 ·rw [if_pos e,e,h]
 ·rw [if_neg e]⟩
theorem band_t (b:Bool):(true && b) = b:=rfl
theorem band_f (b:Bool):(false && b) = false:=rfl
theorem bor_t (b:Bool):(true || b) = true:=rfl
theorem bor_f (b:Bool):(false || b) = b:=rfl
theorem bnot_t:(!true) = false:=rfl
theorem bnot_f:(!false) = true:=rfl
structure Gl (K:Wd):Prop where
 hexdigits:(prg K).glob "hexdigits" = some (.str HEX)
 unquote:(prg K).glob "unquote" = some (.top (.ref 62))
 chr:(prg K).glob "chr" = some (.top (.builtin "chr"))
 len:(prg K).glob "len" = some (.top (.builtin "len"))
 int:(prg K).glob "int" = some (.top (.type "int"))
 bool:(prg K).glob "bool" = some (.top (.type "bool"))
 str:(prg K).glob "str" = some (.top (.type "str"))
 type:(prg K).glob "type" = some (.top (.type "type"))
 list:(prg K).glob "list" = some (.top (.type "list"))
 ord:(prg K).glob "ord" = some (.top (.builtin "ord"))
 isinstance:(prg K).glob "isinstance" = some (.top (.builtin "isinstance"))
 map:(prg K).glob "_QUOPRI_MAP" = some (.top (.ref 42))
 index:(prg K).glob "_index" = some (.top (.ref 96))
 deque:(prg K).glob "deque" = some (.top (.type "collections.deque"))
 stringIO:(prg K).glob "StringIO" = some (.top (.ref 630))
 shlex:(prg K).glob "shlex" = some (.top (.ref 765))
 quote:(prg K).glob "quote" = some (.top (.ref 69))
 quoted:(prg K).glob "_law_quoted" = some (.top (.ref 796))
 valueError:(prg K).glob "ValueError" = some (.top (.type "ValueError"))
 stop:(prg K).glob "StopIteration" = some (.top (.type "StopIteration"))
theorem zks (K:Wd):(prg K).glob "hexdigits" = some (.str HEX):=rfl
theorem z3r (K:Wd):(prg K).glob "unquote" = some (.top (.ref 62)):=rfl
theorem g_chr (K:Wd):(prg K).glob "chr" = some (.top (.builtin "chr")):=rfl
theorem zlt (K:Wd):(prg K).glob "len" = some (.top (.builtin "len")):=rfl
theorem g_int (K:Wd):(prg K).glob "int" = some (.top (.type "int")):=rfl
theorem g_bool (K:Wd):(prg K).glob "bool" = some (.top (.type "bool")):=rfl
theorem g_str (K:Wd):(prg K).glob "str" = some (.top (.type "str")):=rfl
theorem g_type (K:Wd):(prg K).glob "type" = some (.top (.type "type")):=rfl
theorem g_list (K:Wd):(prg K).glob "list" = some (.top (.type "list")):=rfl
theorem g_ord (K:Wd):(prg K).glob "ord" = some (.top (.builtin "ord")):=rfl
theorem zr4 (K:Wd):(prg K).glob "isinstance" = some (.top (.builtin "isinstance")):=rfl
theorem g_map (K:Wd):(prg K).glob "_QUOPRI_MAP" = some (.top (.ref 42)):=rfl
theorem z3t (K:Wd):(prg K).glob "_index" = some (.top (.ref 96)):=rfl
theorem z3u (K:Wd):(prg K).glob "deque" = some (.top (.type "collections.deque")):=rfl
theorem zzq (K:Wd):(prg K).glob "StringIO" = some (.top (.ref 630)):=rfl
theorem g_shlex (K:Wd):(prg K).glob "shlex" = some (.top (.ref 765)):=rfl
theorem z3s (K:Wd):(prg K).glob "quote" = some (.top (.ref 69)):=rfl
theorem zxe (K:Wd):(prg K).glob "_law_quoted" = some (.top (.ref 796)):=rfl
theorem zim (K:Wd):(prg K).glob "ValueError" = some (.top (.type "ValueError")):=rfl
theorem g_stop (K:Wd):(prg K).glob "StopIteration" = some (.top (.type "StopIteration")):=rfl
theorem okf_b (P:Prg) (n:String):okF P (.top (.builtin n)) = true:=rfl
theorem okf_t (P:Prg) (n:String):okF P (.top (.type n)) = true:=rfl
theorem okf_62 (K:Wd):okF (prg K) (.top (.ref 62)) = true:=rfl
theorem okf_69 (K:Wd):okF (prg K) (.top (.ref 69)) = true:=rfl
theorem okf_82 (K:Wd):okF (prg K) (.top (.ref 82)) = true:=rfl
theorem okf_96 (K:Wd):okF (prg K) (.top (.ref 96)) = true:=rfl
theorem okf_765 (K:Wd):okF (prg K) (.top (.ref 765)) = true:=rfl
theorem okf_630 (K:Wd):okF (prg K) (.top (.ref 630)) = true:=rfl
theorem okf_777 (K:Wd):okF (prg K) (.top (.ref 777)) = true:=rfl
theorem okf_784 (K:Wd):okF (prg K) (.top (.ref 784)) = true:=rfl
theorem okf_789 (K:Wd):okF (prg K) (.top (.ref 789)) = true:=rfl
theorem okf_796 (K:Wd):okF (prg K) (.top (.ref 796)) = true:=rfl
theorem okf_803 (K:Wd):okF (prg K) (.top (.ref 803)) = true:=rfl
theorem hexIn (c:Nat):HEX.contains c = (hexOf c).isSome:=by
 by_cases h:c < 103
 ·have:∀ c:Fin 103,HEX.contains c.val = (hexOf c.val).isSome:=by decide +kernel
  exact this ⟨c,h⟩
 ·have h1:HEX.contains c = false:=by
   rw [← Bool.not_eq_true,List.contains_iff_mem]
   intro hm
   exact h ((by decide:∀ x∈HEX,x < 103) c hm)
  rw [h1]
  unfold hexOf
  rw [if_neg (by lia),if_neg (by lia),if_neg (by lia)]
  rfl
theorem str0:strV "" = some (.str []):=rfl
theorem str1:strV "=" = some (.str [61]):=rfl
theorem str2:strV "\n" = some (.str [10]):=rfl
theorem str3:strV "\r\n" = some (.str [13,10]):=rfl
theorem str4:strV " " = some (.str [32]):=rfl
theorem str5:strV "a" = some (.str [97]):=rfl
theorem str6:strV "c" = some (.str [99]):=rfl
theorem str7:strV "'\"" = some (.str [39,34]):=rfl
theorem str8:strV "\\" = some (.str [92]):=rfl
theorem str9:strV "\"" = some (.str [34]):=rfl
theorem str10:strV "'" = some (.str [39]):=rfl
theorem str11:strV "#" = some (.str [35]):=rfl
theorem str12:strV " \t\r\n" = some (.str [32,9,13,10]):=rfl
theorem str13:strV "\t" = some (.str [9]):=rfl
theorem str14:strV "." = some (.str [46]):=rfl
theorem str15:strV "abcdfeghijklmnopqrstuvwxyzABCDEFGHIJKLMNOPQRSTUVWXYZ0123456789_" = some (.str [97,98,99,100,102,101,103,104,105,106,107,108,109,110,111,112,113,114,115,116,117,118,119,120,121,122,65,66,67,68,69,70,71,72,73,74,75,76,77,78,79,80,81,82,83,84,85,86,87,88,89,90,48,49,50,51,52,53,54,55,56,57,95]):=(by kernel_rfl)
theorem str16:strV "ßàáâãäåæçèéêëìíîïðñòóôõöøùúûüýþÿÀÁÂÃÄÅÆÇÈÉÊËÌÍÎÏÐÑÒÓÔÕÖØÙÚÛÜÝÞ" = some (.str [223,224,225,226,227,228,229,230,231,232,233,234,235,236,237,238,239,240,241,242,243,244,245,246,248,249,250,251,252,253,254,255,192,193,194,195,196,197,198,199,200,201,202,203,204,205,206,207,208,209,210,211,212,213,214,216,217,218,219,220,221,222]):=(by kernel_rfl)
theorem str17:strV "=20" = some (.str [61,50,48]):=rfl
theorem str18:strV "=09" = some (.str [61,48,57]):=rfl
theorem str19:strV "aF4é" = some (.str [97,70,52,233]):=rfl
theorem str20:strV "'\"\\ \n#=\t" = some (.str [39,34,92,32,10,35,61,9]):=(by kernel_rfl)
theorem str21:strV "\x0b" = some (.str [11]):=rfl
theorem str22:strV "\x0c" = some (.str [12]):=rfl
theorem str23:strV "\x1c" = some (.str [28]):=rfl
theorem str24:strV "\x85" = some (.str [133]):=rfl
theorem str25:strV "\u2028" = some (.str [8232]):=rfl
theorem str26:strV " \t\n\x0b\x0c\x1c\x85\u2028" = some (.str [32,9,10,11,12,28,133,8232]):=(by kernel_rfl)
theorem str27:strV "z" = some (.str [122]):=rfl
theorem str28:strV "\r" = some (.str [13]):=rfl
theorem str29:strV "();<>|&" = some (.str [40,41,59,60,62,124,38]):=rfl
theorem str30:strV "StringIO.read of a size that is no exact int" = some (.str [83,116,114,105,110,103,73,79,46,114,101,97,100,32,111,102,32,97,32,115,105,122,101,32,116,104,97,116,32,105,115,32,110,111,32,101,120,97,99,116,32,105,110,116]):=(by kernel_rfl)
theorem str31:strV "StringIO.readline of a size that is no exact int" = some (.str [83,116,114,105,110,103,73,79,46,114,101,97,100,108,105,110,101,32,111,102,32,97,32,115,105,122,101,32,116,104,97,116,32,105,115,32,110,111,32,101,120,97,99,116,32,105,110,116]):=(by kernel_rfl)
set_option compiler.extract_closed false in
local macro_rules | `(tactic| open_k with [$ts,*])=>do
 let pr (x:String):=`(Lean.Parser.Tactic.simpLemma| ↓ $(Lean.mkIdent x.toName):term)
 let po (x:String):=`(Lean.Parser.Tactic.simpLemma| $(Lean.mkIdent x.toName):term)
 let ws (f:String→Lean.MacroM (Lean.TSyntax `Lean.Parser.Tactic.simpLemma)) (l:String):=(l.splitOn " " |>.filter (· ≠ "")).mapM f
 let xs ← ws pr "wb_int wb_type z5i z5h wb_chr wb_ord wb_len wb_isi wb_sum q_cR q_cL q_uQ q_uT q_uS q_uE q_uEs q_uTa q_uTo q_uXs q_kAt q_kBool q_kTb q_kPair q_kCall z6x q_kMeth q_kHand q_kMF q_kRepl q_kC2 q_kC1 q_kK3 q_kK2 q_kK1 q_kS3 q_kS2 q_kS1 q_kT3 q_kT2 q_kT1 q_kB2 q_kB1 q_kA2 q_kA1 q_kO2 q_kO1 q_kM2 q_kM1 q_kN2 q_kN1 q_kU q_kI1 q_kLs q_kTp q_kE2 q_kE1 q_kV q_kNot q_kW2 q_kW1 q_kTa q_kTo q_kA5 q_kA4 q_kA3 q_kSN q_kT4 q_kG3 q_kG2 q_kG1 q_uG q_kH2 q_kH1 q_kX q_kR q_kIf q_kF1 q_kT5 zt7 zt8 zub zua r_meth0 r_meth1 r_meth3 r_attr r_const r_name r_bin r_and r_or r_un r_ife r_list r_tuple r_cmp r_repl r_call r_callk r_slice r_step zyk zld zt6 znk zyl z6t z6s z6w z1p znm zlf z1r zle zyo zqm zqn zt9 z1q zym znl zyn r_t_not r_t_and r_t_or r_t_cmp z6q zql znj z6r zni z6p z1m z6o z1l z6l z6k z1k z6m r_x_ret z6j r_x_set r_x_unp r_x_aug z6n r_x_if z1j r_x_for r_x_val z6i z6h z1i z1n z6v z1o z6u q_kNo q_uF zs5 zpq zmr zms zpo zpn zaz zon zr0 z11 z70 z3h"
 let ys ← ws po "zvh cEq_int cEq_ns cEq_sn cEq_nn cNe_str cNe_int cLt cLe cGt cGe cIs cIsNot cIn cNotIn iv_nn iv_bn iv_in iv_sn iv_on iv_bb iv_sb iv_tt in_str t_none t_bool t_int t_str b_int b_fd b_md b_str z0q u_not k_none k_bool k_int k_str iC_ iT_ iS_ zlg zf4 zf3 zgn nS_ ci_Name zvg zsi ci_Call zsh z84 zzz zz0 z4i ci_List z82 z83 zvf bm_Name zvi zsm bm_Call zsl z9d zz1 z9c bm_List isVal_v z7t prgK z2d z2e okM Nat.reduceBEq Nat.reduceAdd Nat.reduceLT Int.reduceLE Int.reduceLT Nat.zero_add List.length_nil List.length_cons if_true if_false decide_true decide_false String.reduceEq zdi zat not_false_eq_true not_true_eq_false List.all_cons List.all_nil Bool.and_true Bool.and_false Bool.or_false Bool.or_true Option.bind_some Option.map_some Option.isNone_none Option.isNone_some reduceCtorEq z3j z4q z71 z9f zop zo1 zu1 zvj id_find bi_find id_join bi_join zbp zk1 id_pop bi_pop zr1 z4r str0 str1 str2 str3 str4 str5 str6 str7 str8 str9 str10 str11 str12 str13 str14 str15 str16 str17 str18 str19 str20 str21 str22 str23 str24 str25 str26 str27 str28 str29 str30 str31 band_t band_f bor_t bor_f bnot_t bnot_f cond_true cond_false Nat.reduceSub okf_b okf_t okf_62 okf_69 okf_82 okf_96 okf_765 okf_630 okf_777 okf_784 okf_789 okf_796 okf_803"
 let tb := "zmf:zuj znx znw i_s:;zw2:z2b zhw zur uh_c i_c:z4v;zal:ziw zrl zix zob zy1 zy0 zy2 zrk zgr ziv uh_c zxz uh_i uh_line uh_n zts u_c_eol u_c_i z5v u_c_n zhn zm2 ztp zto ztl u_i_eol z5u u_i_n zla zx2 i_c z3n i_n:zi5 zpe zz7 zz6 zz8;zw5:z2c zrj zuy uh_n i_n:z4w;zfm:zbh zbi zq9 zfq zkg zq8 zun zhk zdo zlr zkq zeo zes zf6 zdv:zk2 zc2 zl5 zl4 sp_ zfj zhq zhp zck;zg4:zbh zbi zhv zli zfp zhk ztk zdo zkq i_s zeo zdv z7r:zft zc2 zl5 zl4 sp_ zfj zhq zhp zck;zw6:zbh zbi zrm zeo:zc2 zl5 zl4 sp_ zfj zhq zhp zck;ze8:zbh zbi zuw zri zrh zuv zyz zlm z68 zyy zyx uh_cut z9z uh_i zhk zv4 z0l ztr zx8 ztq zx7 z0u zx4 ztn zx3 u_i_end z5t z0t z5s zm0 zdo zju zk9 zmw zh6 zpu zjo zh5 i_limit zkq zeo zrx zdv:zsy zvr zz5 zlx z9q zz4 zc2 zl5 zl4 sp_ zfj zhq zhp zck;zdu:zbh zbi zuq zup zra zuo zrb zyu z0m zv4 z0l zjp zh6 zpv zjo ztd zh5 zeo i_size zko:zvo zsv zvn zc2 zl5 zl4 sp_ zfj zhq zhp zck;zej:zbh zbi zki zkh zis z0m zjp zeo i_size zko:zk3 zc2 zl5 zl4 sp_ zfj zhq zhp zck;zaq:zrg zit zll zn9 zd2 zgq zuu ziu zoa ztc zfz zhm zio zc5 zjv zea z72 zzj z3l zg6 zeo zdw zh1 ziy zde zlq zd6 zok zkp zrw zek:zi4 zd9;zw3:zbh zbi zjm zrd zeo:zdd zg2 zch zcu zcg zbb ze5 ze7 zbo zdc ze6 zg3 zg1 zcv ze4 za7 ze2 ze3 zrv zda zgx zcf zcr zce zba zez ze1 zbn zc9 ze0 zgy zgv zcs zey za6 zgw zrs z2j zdb zct;zby:zbh zbi zjm zkj zln z9y zx1 zeo:zly zdd zg2 zch zcu zcg zbb ze5 ze7 zbo zdc ze6 zg3 zg1 zcv ze4 za7 zrv zda zgx zcf zcr zce zba zez ze1 zbn zc9 ze0 zgy zgv zcs zey za6 zgw zrs z2j zdb zct ze2 ze3 zwi zwh zwk zwj zm8 zoh zog zoj zoi zjf;zaa:zbh zbi zjm zir zgp zd1 zfr zgo zer ztb z0o zeb zf0 zjt zhl zmz zjs zmy zeo:zhf zd8 zfu zhe zdd zg2 zch zcu zcg zbb ze5 ze7 zbo zdc ze6 zg3 zg1 zcv ze4 za7 zrv zda zgx zcf zcr zce zba zez ze1 zbn zc9 ze0 zgy zgv zcs zey za6 zgw zrs z2j zdb zct ze2 ze3 zwi zwh zwk zwj zm8 zoh zog zoj zoi zjf;z23:zbh zbi zjm zux zeo:zdd zg2 zch zcu zcg zbb ze5 ze7 zbo zdc ze6 zg3 zg1 zcv ze4 za7 zrv zda zgx zcf zcr zce zba zez ze1 zbn zc9 ze0 zgy zgv zcs zey za6 zgw zrs z2j zdb zct ze2 ze3 zwi zwh zwk zwj zm8 zoh zog zoj zoi zjf;zw4:zbh zbi zjm zyw zut zf5 z5n zpt zeo:zvq zdd zg2 zch zcu zcg zbb ze5 ze7 zbo zdc ze6 zg3 zg1 zcv ze4 za7 zrv zda zgx zcf zcr zce zba zez ze1 zbn zc9 ze0 zgy zgv zcs zey za6 zgw zrs z2j zdb zct ze2 ze3 zwi zwh zwk zwj zm8 zoh zog zoj zoi zjf;zei:z2a ziq zn2 zum zn1 zq7 uh_lex zlb zzk z3l i_s ziz zry z25:zvm;zaw:zkf zny zlh zq6 zq5 zuk zq4 znz zul zn0 z9z uh_kind z0p uh_rest zv5 zmv zx6 zx5 ztm zm1 zp1 zk8 zti zp0 zpy zib zgg ztg zh9 zh7 zjn z3m z3k:zo7 zlv zsu zst zvl zss zo8;zcz:zn7 zrf zn8 zre zus z9y zv5 zmv zp2 ztj zx0 zib zgg zh9 zh7 z3k:zpc zsx zpd zsw zvp;zan:zlj zyv zn5 zlk zn4 zn3 zn6 zrc uh_acts uh_k z0n zv6 zmv zwb ztu zjx zie zjw zid zwa z5r zv9 zp4 zv8 zp3 zic zjr zv7 ztf zjq zia zh8:zz3 zlw zpa zo9 zpb;kd_words:znt znv znu zns zq0 z19 zq1 zq3 zq2 zui zhu uh_acts uh_k z5o z0n zv6 zmv uh_word z5m zwb zp6 zjx zie zjw zid ztt zp5 zwa z0s zv9 zp4 zv8 zp3 z5q z0r zic zjr zth zpz zmx zv7 zpx zjq zia zh8 zte zpw z5p:zo6 zo5 zo4 zso z4u zsp zsr zsq;zbg:NMR:localB zeg zbg;z22:NMR:localB zeg z22;z21:NMR:localB zeg z21;z20:NMR:localB zeg z20;z2z:NMR:localB zeg z2z;z2y:NMR:localB zeg z2y;z2x:NMR:localB zeg z2x".splitOn ";" |>.map (·.splitOn ":")
 let zs ← ts.getElems.toList.mapM fun (x:Lean.TSyntax `term)=>do
  match tb.find? (·.head? == some x.raw.getId.toString) with
  | some [_,a,b]=>return (← ws pr a)++(← ws po b)
  | _=>match (x:Lean.TSyntax `term) with
    | `(↑$y)=>return [← `(Lean.Parser.Tactic.simpLemma| ↓ $y:term)]
    | _=>return [← `(Lean.Parser.Tactic.simpLemma| $x:term)]
 `(tactic| simp only [$((xs++ys++zs.flatten).toArray),*])
theorem rfl_:(0:Nat) = 0:=rfl
section
variable {K:Wd} (G:Gl K)
include G
variable {H:Hp} {Q:V→Hp→Prop} {S:Fl×Lo→Hp→Prop} {E:EK→Hp→Prop}
theorem zxy (d a b x y:Nat) (ha:hexOf a = some x) (hb:hexOf b = some y) (h:Q (.str [16 * x + y]) H):
  @WpI _ ⟨Q⟩ ⟨E⟩ (call (prg K) (d + 1) (.top (.ref 62)) [.str [61,a,b]] [] []) H:=by
 refine zxx ?_
 refine zaj rfl ?_
 have e1:cut [61,a,b] (clampI 1 3) (clampI 3 3) = [a,b]:=rfl
 have hx:=(zg7 ha).2.2.1
 have hy:=(zg7 hb).2.2.1
 have e2:(0≤((16 * x + y:Nat):Int)∧((16 * x + y:Nat):Int) < 256) = True:=eq_true (by lia)
 open_k with [zmf,g_chr,g_int,cutM,zdf,e1,zd7,zxs,z9b,ha,hb,z4n,e2,Int.toNat_natCast]
 exact h
end
noncomputable def zcq (s:Stmt):Expr:=(sV s).2.2.1
noncomputable def zas (s:Stmt):List Stmt:=(sV s).1
noncomputable def zg8 (s:Stmt):Expr:=(sV s).2.2.1
section
variable {P:Prg} {d:Nat} {sc:Scope} {m:Lo} {H:Hp} {T:Inhabited (Bool→Hp→Prop)} {E:Inhabited (EK→Hp→Prop)}
end
theorem eq1 (a b:Nat):(([a]:List Nat) == [b]) = decide (a = b):=by
 show (decide (a = b) && true) = _
 exact Bool.and_true _
theorem z01 {K:Wd} {H:Hp} {l:List Nat} {i c:Nat} (h:l[i]? = some c):subM K.F H (.str l) (.int (i:Int)) = some (.str [c]):=by
 have hi:i < l.length:=(List.getElem?_eq_some_iff.mp h).1
 have:idx (i:Int) l.length = some i:=by unfold idx; rw [if_pos ⟨Int.natCast_nonneg _,Int.ofNat_lt.mpr hi⟩]; rfl
 simp only [z51,zm5,this,Option.bind_some,h,Option.map_some]
theorem zmm (i n:Nat):clampI (i:Int) n = min i n:=by
 unfold clampI; rw [if_neg (Int.not_lt.mpr (Int.natCast_nonneg _))]; rfl
theorem zfn (H:Hp) (l:List Nat):cLen H [.str l] = some (.int l.length,H):=rfl
theorem z7y (a b:Nat):decide ((a:Int) < (b:Int)) = decide (a < b):=decide_eq_decide.mpr Int.ofNat_lt
theorem intLe (a b:Nat):decide ((a:Int)≤(b:Int)) = decide (a≤b):=decide_eq_decide.mpr Int.ofNat_le
noncomputable def zml:Stmt:=nthS (zar zdm) 2
noncomputable def zcp:Stmt:=nthS (zas zml) 4
structure DL (m:Lo) (enc l D:List Nat) (i:Nat):Prop where
 enc:m "encoded" = some (.str enc)
 eol:m "eol" = some (.str [10])
 line:m "line" = some (.str l)
 n:m "n" = some (.int l.length)
 i:m "i" = some (.int i)
 dec:m "decoded" = some (.str D)
noncomputable def tailE (l:List Nat):List Nat:=if l.isEmpty then [] else zbq l
theorem zcm {P:Prg} {H:Hp} {n:Nat} {xs:List V} {x:Str} (h:H[n]? = some (.list xs)):methM P H (.obj n) x = none:=by
 show onIn _ H[n]? = _
 rw [h]; rfl
theorem zb3 {H:Hp} {n:Nat} {xs:List V} {x:Str} (h:H[n]? = some (.list xs)):zcd H (.obj n) x = zkk x:=by
 show onLs _ H[n]? = _
 rw [h]; rfl
theorem zwl {H:Hp} {n:Nat} {xs:List V} (h:H[n]? = some (.list xs)):srcM H (.obj n) = some (.list n):=by
 show srcO n H[n]? = _
 rw [h]; rfl
theorem need_l {H:Hp} {n:Nat} {xs:List V} (h:H[n]? = some (.list xs)):zfl H (.obj n) = some ():=by
 show onLs _ H[n]? = _
 rw [h]; rfl
theorem zel {H:Hp} {n i:Nat} {xs:List V} (h:H[n]? = some (.list xs)):itemAt H (.list n) i = some xs[i]?:=by
 show onLs _ H[n]? = _
 rw [h]; rfl
theorem cutM_l {H:Hp} {n:Nat} {xs:List V} {lo hi:V} (h:H[n]? = some (.list xs)):cutM H (.obj n) lo hi = (zdf 0 xs.length lo).bind fun a=>(zdf xs.length xs.length hi).map fun b=>(.obj H.length,H++[.list (cut xs a b)]):=by
 show onLs _ H[n]? = _
 rw [h]; rfl
theorem zol {H:Hp} {n j:Nat} {xs:List V} (h:H[n]? = some (.list xs)):z26 H (.obj n) j = some xs[j]?:=by
 show onLs _ H[n]? = _
 rw [h]; rfl
theorem zna {c:Nat} {r:List Nat} (h:¬ (c = 61∧r = [])) (h2:∀ a b r',c = 61→r = a::b::r'→((hexOf a).isSome && (hexOf b).isSome) = false):zbq (c::r) = c::zbq r:=by
 by_cases hc:c = 61
 ·subst hc
  cases r with
  | nil=>exact absurd ⟨rfl,rfl⟩ h
  | cons a r=>cases r with
    | nil=>rfl
    | cons b r=>rw [zqd,if_neg (by rw [h2 a b r rfl rfl]; exact Bool.false_ne_true)]
 ·exact zhr hc r
section
variable {K:Wd} (G:Gl K)
theorem cap_1 {n:Nat} (h:n≤90001):(n + 1≤cap) = True:=eq_true (Nat.le_trans (Nat.succ_le_succ h) (by decide))
theorem z86 {n i i' a b:Nat} (h:a + 2 * (n - i)≤90000) (h1:i < i') (h2:i'≤n) (h3:b≤a + 2):b + 2 * (n - i')≤90000:=by
 have z:n - i' + 1≤n - i:=Nat.sub_lt_sub_left (Nat.lt_of_lt_of_le h1 h2) h1
 have y:a + 2 * (n - i') + 2≤a + 2 * (n - i):=Nat.add_le_add_left (Nat.mul_le_mul_left 2 z) a
 exact Nat.le_trans (Nat.add_le_add_right h3 _) (Nat.le_trans (Nat.le_of_eq (Nat.add_right_comm a 2 _)) (Nat.le_trans y h))
theorem zwc {n i i' k:Nat} (h:n - i≤k + 1) (h1:i < i'):n - i'≤k:=
 Nat.sub_le_iff_le_add.mpr (Nat.le_trans (Nat.sub_le_iff_le_add.mp h) (Nat.le_trans (Nat.le_of_eq (Nat.add_assoc k 1 i)) (Nat.add_le_add_left (Nat.le_trans (Nat.le_of_eq (Nat.add_comm 1 i)) h1) k)))
theorem len_1 (D:List Nat) (c:Nat):(D++[c]).length≤D.length + 2:=by rw [List.length_append]; exact Nat.le_succ _
theorem len_2 (D:List Nat) (a b:Nat):(D++[a]++[b]).length≤D.length + 2:=by rw [List.length_append,List.length_append]; exact Nat.le_refl _
theorem z8s {l r:List Nat} {n a b:Nat} (h:l.drop n = a::b::r):n + 1 < l.length:=by
 have:=congrArg List.length h
 rw [List.length_drop] at this
 rw [Nat.add_comm]
 exact Nat.add_lt_of_lt_sub (by rw [this]; exact Nat.succ_lt_succ (Nat.succ_pos _))
theorem eq_z {a:Int} {i n:Nat} (h:a = ((i:Nat):Int)):(a = (n:Int)) = (i = n):=by rw [h]; exact propext Int.natCast_inj
theorem lt_z {a:Int} {i n:Nat} (h:a = ((i:Nat):Int)):(a < (n:Int)) = (i < n):=by rw [h]; exact propext Int.ofNat_lt
include G
theorem zsc (d:Nat) (enc l:List Nat) (hlen:l.length≤1000):∀ (k i:Nat) (m:Lo) (D:List Nat) (H:Hp) (S:Fl×Lo→Hp→Prop) (E:EK→Hp→Prop),l.length - i≤k→i≤l.length→DL m enc l D i→D.length + 2 * (l.length - i)≤90000→
  (∀ m',DL m' enc l (D++tailE (l.drop i)) l.length→S (.next,m') H)→@WpI _ ⟨S⟩ ⟨E⟩ (whl (prg K) (d + 1) zad m (zcq zcp) (zas zcp)) H:=by
  intro k
  induction k using Nat.strongRecOn with
  | ind k ih=>
  intro i m D H S E hk hi L hcap hS
  refine wl_while ?_
  refine wi_tcmp rfl ?_
  obtain ⟨hE,hO,hL,hN,hI,hD⟩:=L
  open_k with [zal,hI,hN,z7y]
  refine zc0 (fun hlt=>?_) (fun hge=>?_)
  ·cases k with
   | zero=>exact absurd hk (Nat.not_le_of_lt (Nat.sub_pos_of_lt hlt))
   | succ k=>
   obtain ⟨c,r,hdrop⟩:∃ c r,l.drop i = c::r:=⟨l[i],l.drop (i + 1),List.drop_eq_getElem_cons hlt⟩
   have h0:l[i]? = some c:=by have:=congrArg (fun x:List Nat=>x[0]?) hdrop; simpa using this
   have hr:l.drop (i + 1) = r:=by rw [← List.drop_drop,hdrop]; rfl
   have close:∀ (m':Lo) (D':List Nat) (i':Nat),i < i'→i'≤l.length→DL m' enc l D' i'→D'++tailE (l.drop i') = D++tailE (l.drop i)→D'.length≤D.length + 2→
     @WpI _ ⟨S⟩ ⟨E⟩ (whl (prg K) (d + 1) zad m' (zcq zcp) (zas zcp)) H:=fun m' D' i' h1 h2 h3 h4 h5=>
    ih k (Nat.lt_succ_self k) i' m' D' H S E (zwc hk h1) h2 h3 (z86 hcap h1 h2 h5) (fun m'' hm=>hS m'' (h4 ▸ hm))
   have ht:tailE (l.drop i) = zbq (c::r):=by rw [hdrop]; rfl
   have hdl:D.length≤90000:=Nat.le_trans (Nat.le_add_right _ _) hcap
   have capc:=cap_1 (Nat.le_succ_of_le hdl)
   have cap2:∀ x:Nat,((D++[x]).length + 1≤cap) = True:=fun x=>cap_1 (by rw [List.length_append]; exact Nat.succ_le_succ hdl)
   have e1:((i:Int) + 1 = (l.length:Int)) = (i + 1 = l.length):=eq_z rfl
   have e2:((i:Int) + 2 < (l.length:Int)) = (i + 2 < l.length):=lt_z rfl
   have e3:((i:Int) + 3 = (l.length:Int)) = (i + 3 = l.length):=eq_z rfl
   have noR (h:i + 1≠l.length) (e:r = []):False:=h (Nat.le_antisymm hlt (List.drop_eq_nil_iff.mp (hr.trans e)))
   refine zaj rfl ?_
   open_k with [zal,hI,hL,z01 h0,eq1]
   have one:∀ m1:Lo,DL m1 enc l (D++[c]) (i + 1)→¬ (c = 61∧r = [])→(∀ a b r',c = 61→r = a::b::r'→((hexOf a).isSome && (hexOf b).isSome) = false)→i + 1≠l.length→@WpI _ ⟨S⟩ ⟨E⟩ (whl (prg K) (d + 1) zad m1 (zcq zcp) (zas zcp)) H:=fun m1 h1 h2 h3 h4=>by
    refine close m1 _ (i + 1) (Nat.lt_succ_self _) hlt h1 ?_ (len_1 _ _)
    rw [ht,zna h2 h3,hr,List.append_assoc]
    cases r with
    | nil=>exact (noR h4 rfl).elim
    | cons _ _=>rfl
   have oneEnd:∀ m1:Lo,DL m1 enc l (D++[c]++[10]) (i + 1)→¬ (c = 61∧r = [])→(∀ a b r',c = 61→r = a::b::r'→((hexOf a).isSome && (hexOf b).isSome) = false)→i + 1 = l.length→@WpI _ ⟨S⟩ ⟨E⟩ (whl (prg K) (d + 1) zad m1 (zcq zcp) (zas zcp)) H:=fun m1 h1 h2 h3 h4=>by
    refine close m1 _ (i + 1) (Nat.lt_succ_self _) hlt h1 ?_ (len_2 _ _ _)
    have hr0:r = []:=by rw [← hr,h4,List.drop_length]
    rw [ht,zna h2 h3,hr,hr0]
    exact (List.append_nil _).trans (List.append_assoc ..)
   refine ifI_split (fun hc=>?_) (fun hc=>?_)
   ·have hc':c≠61:=bne_iff_ne.mp hc
    open_k with [zal,hI,hL,hD,hO,hN,capc,e1]
    refine zc0 (fun hz=>?_) (fun hz=>?_)
    ·open_k with [zal,hO,cap2]
     exact oneEnd _ ⟨(by kernel_rfl:_ = _).trans hE,(by kernel_rfl:_ = _).trans hO,(by kernel_rfl:_ = _).trans hL,(by kernel_rfl:_ = _).trans hN,by kernel_rfl,by kernel_rfl⟩ (fun q=>hc' q.1) (fun _ _ _ q _=>absurd q hc') hz
    ·open_k with [rfl_]
     exact one _ ⟨(by kernel_rfl:_ = _).trans hE,(by kernel_rfl:_ = _).trans hO,(by kernel_rfl:_ = _).trans hL,(by kernel_rfl:_ = _).trans hN,by kernel_rfl,by kernel_rfl⟩ (fun q=>hc' q.1) (fun _ _ _ q _=>absurd q hc') hz
   ·have hc':c = 61:=bne_eq_false_iff_eq.mp hc
    subst hc'
    open_k with [zal,hI,hL,hD,hO,hN,e1]
    refine zc0 (fun hz=>?_) (fun hz=>?_)
    ·open_k with [zal,hI]
     have hr0:r = []:=by rw [← hr,hz,List.drop_length]
     refine close _ D (i + 1) (Nat.lt_succ_self _) hlt ⟨(by kernel_rfl:_ = _).trans hE,(by kernel_rfl:_ = _).trans hO,(by kernel_rfl:_ = _).trans hL,(by kernel_rfl:_ = _).trans hN,by kernel_rfl,(by kernel_rfl:_ = _).trans hD⟩ ?_ (Nat.le_add_right _ _)
     rw [ht,hr,hr0]; rfl
    ·open_k with [zal,hI,hN,e2]
     refine zc0 (fun h2=>?_) (fun h2=>?_)
     ·obtain ⟨a,b,r',hr'⟩:∃ a b r',r = a::b::r':=⟨l[i + 1]'(Nat.lt_of_succ_lt h2),l[i + 2],l.drop (i + 3),by rw [← hr,List.drop_eq_getElem_cons (Nat.lt_of_succ_lt h2),List.drop_eq_getElem_cons h2]⟩
      subst hr'
      have ha:l[i + 1]? = some a:=by have:=congrArg (fun x:List Nat=>x[0]?) hr; simpa using this
      have hb:l[i + 2]? = some b:=by have:=congrArg (fun x:List Nat=>x[1]?) hr; simpa using this
      have sa:subM K.F H (.str l) (.int ((i:Int) + 1)) = some (.str [a]):=z01 (i:=i + 1) ha
      have sb:subM K.F H (.str l) (.int ((i:Int) + 2)) = some (.str [b]):=z01 (i:=i + 2) hb
      have sc:cutM H (.str l) (.int (i:Int)) (.int ((i:Int) + 3)) = some (.str [61,a,b],H):=by
       have q:clampI ((i:Int) + 3) l.length = min (i + 3) l.length:=zmm (i + 3) l.length
       simp only [cutM,zdf,Option.bind_some,Option.map_some,q,zmm,cut]
       rw [Nat.min_eq_left hi,Nat.min_eq_left (show i + 3≤l.length from h2),List.drop_take,hdrop,Nat.add_sub_cancel_left]
       rfl
      have nope:((hexOf a).isSome && (hexOf b).isSome) = false→@WpI _ ⟨S⟩ ⟨E⟩ (whl (prg K) (d + 1) zad (upd (upd (upd m "c" (.str [61])) "decoded" (.str (D++[61]))) "i" (.int ((i:Int) + 1))) (zcq zcp) (zas zcp)) H:=fun hn=>
       one _ ⟨(by kernel_rfl:_ = _).trans hE,(by kernel_rfl:_ = _).trans hO,(by kernel_rfl:_ = _).trans hL,(by kernel_rfl:_ = _).trans hN,by kernel_rfl,by kernel_rfl⟩ (fun q=>by cases q.2) (fun a' b' r2 _ q=>by cases q; exact hn) hz
      open_k with [zal,hL,hI,sa,sb,zks,hexIn]
      refine ifI_split (fun hxa=>?_) (fun hxa=>?_)
      ·open_k with [zal,hL,hI,sb,zks,hexIn]
       refine ifI_split (fun hxb=>?_) (fun hxb=>?_)
       ·obtain ⟨x,ha'⟩:=Option.isSome_iff_exists.mp hxa
        obtain ⟨y,hb'⟩:=Option.isSome_iff_exists.mp hxb
        open_k with [zal,hD,hL,hI,sc,z3r]
        refine zxy G d a b x y ha' hb' ?_
        have v:zbq (61::a::b::r') = (16 * x + y)::zbq r':=by
         rw [zqd,if_pos (by rw [ha',hb']; rfl),ha',hb']; rfl
        have hr2:l.drop (i + 3) = r':=by rw [← List.drop_drop,hdrop]; rfl
        open_k with [zal,hI,hN,capc,e3]
        refine zc0 (fun h4=>?_) (fun h4=>?_)
        ·open_k with [zal,hO,cap2]
         refine close _ (D++[16 * x + y]++[10]) (i + 3) (Nat.lt_add_of_pos_right (by decide)) h2 ⟨(by kernel_rfl:_ = _).trans hE,(by kernel_rfl:_ = _).trans hO,(by kernel_rfl:_ = _).trans hL,(by kernel_rfl:_ = _).trans hN,by kernel_rfl,by kernel_rfl⟩ ?_ (len_2 _ _ _)
         have hr0:r' = []:=by rw [← hr2,h4,List.drop_length]
         rw [ht,v,hr2,hr0]
         exact (List.append_nil _).trans (List.append_assoc ..)
        ·open_k with [rfl_]
         refine close _ (D++[16 * x + y]) (i + 3) (Nat.lt_add_of_pos_right (by decide)) h2 ⟨(by kernel_rfl:_ = _).trans hE,(by kernel_rfl:_ = _).trans hO,(by kernel_rfl:_ = _).trans hL,(by kernel_rfl:_ = _).trans hN,by kernel_rfl,by kernel_rfl⟩ ?_ (len_1 _ _)
         rw [ht,v,hr2]
         cases r' with
         | nil=>exact (h4 (Nat.le_antisymm h2 (List.drop_eq_nil_iff.mp hr2))).elim
         | cons _ _=>exact List.append_assoc ..
       ·open_k with [zal,hD,hI,capc,e1,hN,hz]
        exact nope (by rw [hxb,Bool.and_false])
      ·open_k with [zal,hD,hI,capc,e1,hN,hz]
       exact nope (by rw [hxa,Bool.false_and])
     ·open_k with [zal,hL,hI,hD,capc,e1,hN,hz]
      refine one _ ⟨(by kernel_rfl:_ = _).trans hE,(by kernel_rfl:_ = _).trans hO,(by kernel_rfl:_ = _).trans hL,(by kernel_rfl:_ = _).trans hN,by kernel_rfl,by kernel_rfl⟩ (fun q=>?_) (fun a' b' r2 _ q=>?_) hz
      ·exact noR hz q.2
      ·exact absurd (z8s (hr.trans q)) h2
  ·have:i = l.length:=Nat.le_antisymm hi (Nat.le_of_not_lt hge)
   subst this
   refine hS m ⟨hE,hO,hL,hN,hI,?_⟩
   rw [List.drop_length]
   exact hD.trans (congrArg (fun z=>some (V.str z)) (List.append_nil D).symm)
end
noncomputable def Grow (H H':Hp):Prop:=∃ T,H' = H++T
theorem z0z {X:List (List Nat)} {cur:List Nat} {m k:Nat} (h:m < k) (x:(X.map fun x=>x.length + 1).sum≤0 + m + 1):((cur::X).map fun x=>x.length + 1).sum≤cur.length + k + 1:=by
 rw [List.map_cons,List.sum_cons,Nat.add_assoc,Nat.add_assoc]
 refine Nat.add_le_add_left ?_ _
 rw [Nat.add_comm 1]
 rw [Nat.zero_add] at x
 exact Nat.succ_le_succ (Nat.le_trans x h)
theorem zkl (l:List Nat):∀ (cur:List Nat),((linesL cur l).map fun x=>x.length + 1).sum≤cur.length + l.length + 1:=by
 induction h:l.length using Nat.strongRecOn generalizing l with
 | _ n ih=>
 intro cur
 subst h
 cases l with
 | nil=>
   rw [zgz]
   cases cur with
   | nil=>exact Nat.zero_le _
   | cons a r=>exact Nat.le_refl _
 | cons c r=>
   have one:=ih r.length (Nat.lt_succ_self _) r rfl
   have plain (h:∀ r',c = 13→r = 10::r'→False):((linesL cur (c::r)).map fun x=>x.length + 1).sum≤cur.length + (c::r).length + 1:=by
    rw [zh0 _ _ _ h]
    by_cases q:isNl c = true
    ·rw [if_pos q]; exact z0z (Nat.lt_succ_self _) (one [])
    ·rw [if_neg q]
     have:=one (cur++[c])
     rw [List.length_append,Nat.add_assoc cur.length,Nat.add_comm [c].length] at this
     exact this
   by_cases q:c = 13
   ·cases r with
    | nil=>exact plain fun _ _ e=>nomatch e
    | cons b r=>
      by_cases q2:b = 10
      ·subst q; subst q2
       rw [zhz]
       exact z0z (Nat.lt_succ_of_lt (Nat.lt_succ_self _)) (ih r.length (Nat.lt_succ_of_lt (Nat.lt_succ_self _)) r rfl [])
      ·exact plain fun _ _ e=>q2 (List.cons.inj e).1
   ·exact plain fun _ e _=>q e
theorem zj4 (l:List Nat):(za4 l).length≤l.length:=by
 unfold za4
 rw [List.length_reverse]
 have:=(List.dropWhile_sublist (l:=l.reverse) isSp).length_le
 simpa using this
theorem zqe (n:Nat):∀ (l:List Nat),l.length≤n→(zbq l).length≤l.length + 1:=by
 induction n using Nat.strongRecOn with
 | _ n ih=>
 intro l h
 cases l with
 | nil=>exact Nat.le_refl _
 | cons c r=>
   by_cases h1:c = 61∧r = []
   ·obtain ⟨rfl,rfl⟩:=h1; exact Nat.zero_le _
   ·by_cases h2:∀ a b r',c = 61→r = a::b::r'→((hexOf a).isSome && (hexOf b).isSome) = false
    ·rw [zna h1 h2]; exact Nat.succ_le_succ (ih r.length h r (Nat.le_refl _))
    ·simp only [Classical.not_forall] at h2
     obtain ⟨a,b,r',rfl,rfl,q⟩:=h2
     rw [zqd,if_pos (Bool.not_eq_false _ ▸ q)]
     exact Nat.succ_le_succ (Nat.le_trans (ih r'.length (Nat.le_trans (Nat.le_add_right _ 2) h) r' (Nat.le_refl _)) (Nat.le_add_right _ 2))
theorem z87 {D s r x R:Nat} (h:D + 2 * (x + 1 + R)≤80000) (hs:s≤r + 1) (hx:r≤x):D + s + 2 * R≤80000:=by lia
theorem cap_in {D r x R:Nat} (h:D + 2 * (x + 1 + R)≤80000) (hx:r≤x):D + 2 * (r - 0)≤90000:=by lia
section
variable {K:Wd} (G:Gl K)
include G
structure DO (m:Lo) (enc D:List Nat):Prop where
 enc:m "encoded" = some (.str enc)
 eol:m "eol" = some (.str [10])
 dec:m "decoded" = some (.str D)
theorem zsb (d n:Nat) (enc:List Nat) (Ls:List (List Nat)):∀ (k j:Nat) (m:Lo) (D:List Nat) (H:Hp) (S:Fl×Lo→Hp→Prop) (E:EK→Hp→Prop),Ls.length - j≤k→j≤Ls.length→DO m enc D→H[n]? = some (.list (Ls.map .str))→
  (∀ x∈Ls,x.length≤1000)→D.length + 2 * ((Ls.drop j).map fun x=>x.length + 1).sum≤80000→
  (∀ m',DO m' enc (D++linesD (Ls.drop j))→S (.next,m') H)→@WpI _ ⟨S⟩ ⟨E⟩ (frl (prg K) (d + 1) zad m (zg8 zml) (zas zml) (.obj n) j) H:=by
  intro k
  induction k using Nat.strongRecOn with
  | ind k ih=>
  intro j m D H S E hk hj L hn hlen hcap hS
  refine wl_for ?_
  obtain ⟨hE,hO,hD⟩:=L
  have hit:z26 H (.obj n) j = some ((Ls[j]?).map .str):=(zol hn).trans (congrArg some List.getElem?_map)
  rw [hit,zaz]
  by_cases hlt:j < Ls.length
  ·cases k with
   | zero=>exact absurd (Nat.le_zero.mp hk) (Nat.sub_ne_zero_of_lt hlt)
   | succ k=>
   have h0:Ls[j]? = some Ls[j]:=List.getElem?_eq_getElem hlt
   have hdrop:Ls.drop j = Ls[j]::Ls.drop (j + 1):=List.drop_eq_getElem_cons hlt
   have hx:=hlen Ls[j] (List.getElem_mem _)
   generalize Ls[j] = x at h0 hdrop hx
   rw [h0,Option.map_some,zg5]
   have hlenx:=zj4 x
   rw [hdrop,List.map_cons,List.sum_cons] at hcap
   have hs:=zqe _ (za4 x) (Nat.le_refl _)
   have close:∀ (m':Lo),DO m' enc (D++zbq (za4 x))→@WpI _ ⟨S⟩ ⟨E⟩ (frl (prg K) (d + 1) zad m' (zg8 zml) (zas zml) (.obj n) (j + 1)) H:=fun m' h=>
    ih k (Nat.lt_succ_self k) (j + 1) m' _ H S E (zwc hk (Nat.lt_succ_self j)) hlt h hn hlen (by rw [List.length_append]; exact z87 hcap hs hlenx) (fun m'' hm=>hS m'' (by rw [hdrop,zeh,← List.append_assoc]; exact hm))
   have ha:assignM zad m H (zg8 zml) (.str x) = some (upd m "line" (.str x)):=by
    show (if localB zad "line" = true then some (upd m "line" (.str x)) else none:Option Lo) = _
    rw [if_pos (by kernel_rfl)]
   rw [ha,zaz]
   refine zaj rfl ?_
   open_k with [zal,zy7]
   refine ifI_split (fun hemp=>?_) (fun hemp=>?_)
   ·have h0:za4 x = []:=by simpa using hemp
    have c1:(D.length + 1≤cap) = True:=cap_1 (Nat.le_trans (Nat.le_trans (Nat.le_add_right _ _) hcap) (by decide))
    open_k with [zal,hD,hO,c1]
    exact close _ ⟨(by kernel_rfl:_ = _).trans hE,(by kernel_rfl:_ = _).trans hO,by rw [h0]; kernel_rfl⟩
   ·open_k with [zal,zfn,zlt]
    refine zsc G d enc (za4 x) (Nat.le_trans hlenx hx) _ 0 _ D H _ E (Nat.le_refl _) (Nat.zero_le _) ⟨(by kernel_rfl:_ = _).trans hE,(by kernel_rfl:_ = _).trans hO,by kernel_rfl,by kernel_rfl,by kernel_rfl,(by kernel_rfl:_ = _).trans hD⟩ (cap_in hcap hlenx) (fun m' hm=>?_)
    open_k with [rfl_]
    have:tailE (List.drop 0 (za4 x)) = zbq (za4 x):=by
     rw [List.drop_zero]
     cases hq:za4 x with
     | nil=>rw [hq] at hemp; cases hemp
     | cons _ _=>rfl
    rw [this] at hm
    exact close _ ⟨hm.enc,hm.eol,hm.dec⟩
  ·have hge:=Nat.le_of_not_lt hlt
   have h0:Ls[j]? = none:=List.getElem?_eq_none hge
   rw [h0]
   have hd:Ls.drop j = []:=List.drop_eq_nil_of_le hge
   rw [hd] at hS
   exact hS m ⟨hE,hO,hD.trans (congrArg (fun z=>some (V.str z)) (List.append_nil D).symm)⟩
end
theorem z18 (m:Nat):(-1:Int) + ((m + 1:Nat):Int) = (m:Int):=by rw [show ((m + 1:Nat):Int) = 1 + (m:Int) from Int.add_comm m 1]; exact Int.neg_add_cancel_left 1 m
theorem z4g (n:Nat):clampI (-1) n = n - 1:=by
 cases n with
 | zero=>rfl
 | succ m=>show ((-1:Int) + ((m + 1:Nat):Int)).toNat = m; rw [z18]; rfl
theorem zxm (H:Hp) (l:List Nat):cutM H (.str l) .none (.int (-1)) = some (.str l.dropLast,H):=by
 show some (V.str (cut l 0 (clampI (-1) l.length)),H) = _
 rw [z4g,cut,List.drop_zero,List.dropLast_eq_take]
theorem z3i {n:Nat} (h:0 < n):idx (-1) n = some (n - 1):=by
 cases n with
 | zero=>cases h
 | succ m=>unfold idx; rw [if_neg (fun h=>absurd h.1 (by decide)),z18,if_pos ⟨by decide,Int.natCast_nonneg _⟩]; rfl
theorem z50 {K:Wd} {H:Hp} {l:List Nat} {c:Nat} (h:l.getLast? = some c):subM K.F H (.str l) (.int (-1)) = some (.str [c]):=by
 have hne:l≠[]:=fun e=>by subst e; cases h
 have hc:l[l.length - 1]? = some c:=by rw [← List.getLast?_eq_getElem?,h]
 rw [zm5,z3i (List.length_pos_iff.mpr hne),Option.bind_some,hc]; rfl
theorem le_sum {l:List Nat} {x:Nat} (h:x∈l):x≤l.sum:=by
 induction l with
 | nil=>cases h
 | cons y l ih=>
   rw [List.sum_cons]
   rcases List.mem_cons.mp h with rfl | h
   ·exact Nat.le_add_right _ _
   ·exact Nat.le_trans (ih h) (Nat.le_add_left _ _)
section
variable {K:Wd} (G:Gl K)
include G
theorem zsa (d:Nat) (l:List Nat) (hl:l.length≤1000) (H:Hp) (Q:V→Hp→Prop) (E:EK→Hp→Prop) (h:∀ H',Grow H H'→Q (.str (decL l)) H'):
  @WpI _ ⟨Q⟩ ⟨E⟩ (call (prg K) (d + 2) (.top (.ref 82)) [.str l] [] []) H:=by
 refine z0g ?_
 refine zaj rfl ?_
 open_k with [zal]
 refine ifI_split (fun hemp=>?_) (fun hemp=>?_)
 ·have:l = []:=by simpa using hemp
  subst this
  open_k with [zal]
  exact h H ⟨[],(List.append_nil H).symm⟩
 ·have hne:l≠[]:=fun e=>by subst e; cases hemp
  obtain ⟨c,hc⟩:∃ c,l.getLast? = some c:=⟨_,List.getLast?_eq_some_getLast hne⟩
  have c0:(l.length < cap) = True:=eq_true (Nat.lt_of_le_of_lt hl (by decide))
  have hnew:(H++[O.list ((linesL [] l).map .str)])[H.length]? = some (.list ((linesL [] l).map .str)):=List.getElem?_concat_length
  have hneed:zfl (H++[O.list ((linesL [] l).map .str)]) (.obj H.length) = some ():=by show onLs _ _ = _; rw [hnew]; rfl
  have hsz:=zkl l []
  have hsz:((linesL [] l).map fun x=>x.length + 1).sum≤1001:=Nat.le_trans hsz (Nat.succ_le_succ (Nat.le_trans (Nat.le_of_eq (Nat.zero_add _)) hl))
  open_k with [zal,zlp,c0,hneed]
  refine zsb G d H.length l (linesL [] l) _ 0 _ [] _ _ E (Nat.le_refl _) (Nat.zero_le _) ⟨by kernel_rfl,by kernel_rfl,by kernel_rfl⟩ hnew (fun x hx=>?_) (Nat.le_trans (Nat.le_of_eq (Nat.zero_add _)) (Nat.le_trans (Nat.mul_le_mul_left 2 hsz) (by decide))) (fun m' hm=>?_)
  ·have:x.length + 1≤((linesL [] l).map fun x=>x.length + 1).sum:=le_sum (List.mem_map_of_mem hx)
   exact Nat.le_of_succ_le_succ (Nat.le_trans this hsz)
  ·obtain ⟨hE,hO,hD⟩:=hm
   have gr:Grow H (H++[O.list ((linesL [] l).map .str)]):=⟨_,rfl⟩
   simp only [List.nil_append,List.drop_zero] at hD
   open_k with [zal,hE,hD,hO,z0q,z50 hc,zij]
   have e1:(([13,10]:List Nat).contains c) = (l.getLast? == some 13 || l.getLast? == some 10):=by
    rw [hc]
    by_cases h1:c = 13
    ·subst h1; rfl
    ·by_cases h2:c = 10
     ·subst h2; rfl
     ·simp [h1,h2]
   rw [e1]
   refine ifI_split (fun hx=>?_) (fun hx=>?_)
   ·open_k with [zal,hD,hO,zij]
    refine ifI_split (fun hy=>?_) (fun hy=>?_)
    ·open_k with [zal,hD,hO,zlt,zfn,z0q,Int.natCast_one,zxm]
     have:decL l = (linesD (linesL [] l)).dropLast:=by unfold decL; rw [if_pos ⟨(Bool.not_eq_true' _).mp hx,hy⟩]
     rw [← this]
     exact h _ gr
    ·open_k with [zal,hD]
     have:decL l = linesD (linesL [] l):=by unfold decL; rw [if_neg (fun q=>by rw [hy] at q; cases q.2)]
     rw [← this]
     exact h _ gr
   ·open_k with [zal,hD]
    have:decL l = linesD (linesL [] l):=by unfold decL; rw [if_neg (fun q=>by rw [q.1] at hx; cases hx)]
    rw [← this]
    exact h _ gr
end
noncomputable def Stay (H H':Hp) (ks:List Nat):Prop:=H.length≤H'.length∧∀ j,j < H.length→j ∉ ks→H'[j]? = H[j]?
theorem Stay.refl (H:Hp) (ks:List Nat):Stay H H ks:=⟨Nat.le_refl _,fun _ _ _=>rfl⟩
theorem Stay.trans {H H1 H2:Hp} {ks:List Nat} (a:Stay H H1 ks) (b:Stay H1 H2 ks):Stay H H2 ks:=
 ⟨Nat.le_trans a.1 b.1,fun j h n=>(b.2 j (Nat.lt_of_lt_of_le h a.1) n).trans (a.2 j h n)⟩
theorem Stay.sub {H H1:Hp} {ks ls:List Nat} (a:Stay H H1 ks) (h:∀ k∈ks,k∈ls):Stay H H1 ls:=⟨a.1,fun j hj n=>a.2 j hj fun m=>n (h j m)⟩
theorem Stay.grow {H:Hp} (T:List O) (ks:List Nat):Stay H (H++T) ks:=⟨by rw [List.length_append]; exact Nat.le_add_right _ _,fun j hj _=>List.getElem?_append_left hj⟩
theorem Stay.set {H:Hp} {k:Nat} (o:O) {ks:List Nat} (h:k∈ks):Stay H (H.set k o) ks:=⟨Nat.le_of_eq List.length_set.symm,fun j _ n=>List.getElem?_set_ne (by intro e; subst e; exact n h)⟩
theorem Grow.stay {H H':Hp} (g:Grow H H') (ks:List Nat):Stay H H' ks:=by obtain ⟨T,rfl⟩:=g; exact Stay.grow T ks
theorem Stay.at {H H':Hp} {ks:List Nat} (a:Stay H H' ks) {j:Nat} {o:O} (h:H[j]? = some o) (n:j ∉ ks):H'[j]? = some o:=(a.2 j (List.getElem?_eq_some_iff.mp h).1 n).trans h
theorem nm0 {a:Nat}:a ∉ ([]:List Nat):=List.not_mem_nil
theorem nm1 {a b:Nat} (h:a≠b):a ∉ [b]:=fun m=>h (List.mem_singleton.mp m)
theorem Stay.fresh {H H1 H2:Hp} {ks ls:List Nat} (s:Stay H H1 ls) (t:Stay H1 H2 ks) (h:∀ k∈ks,H.length≤k):Stay H H2 ls:=
 ⟨Nat.le_trans s.1 t.1,fun j hj n=>(t.2 j (Nat.lt_of_lt_of_le hj s.1) fun m=>Nat.lt_irrefl j (Nat.lt_of_lt_of_le hj (h j m))).trans (s.2 j hj n)⟩
theorem zfa {α:Type} {l:List α} {i:Nat} {x:α} {r:List α} (h:l.drop i = x::r):l[i]? = some x:=by
 have:=List.getElem?_drop (xs:=l) (i:=i) (j:=0)
 rw [h] at this
 exact this.symm
theorem zf8 {α:Type} {l:List α} {i:Nat} {x:α} {r:List α} (h:l.drop i = x::r):l.drop (i + 1) = r:=by rw [← List.drop_drop,h]; rfl
theorem le1 {n:Nat}:∀ k∈[n],n≤k:=fun _ m=>Nat.le_of_eq (List.mem_singleton.mp m).symm
theorem Stay.new {H H2:Hp} {T:List O} {ls:List Nat} (t:Stay (H++T) H2 [H.length]):Stay H H2 ls:=(Stay.grow T ls).fresh t le1
noncomputable def sioF (buf:List Nat) (pos:Nat):List (Str×V):=[("_StringIO__newline",.str [10]),("_StringIO__buf",.str buf),("_StringIO__pos",.int pos)]
theorem z6y (b p) (q:Nat):put (sioF b p) "_StringIO__pos" (.int q) = sioF b q:=by kernel_rfl
section
variable {K:Wd} {H:Hp} {k:Nat} {buf:List Nat} {pos:Nat}
theorem z7b {P:Prg} {n:Nat} {C:Addr} {fs:List (Str×V)} {x:Str} {o:Option Addr} (h:H[n]? = some (.inst C fs)) (e:(lk fs x).isNone = true) (d:P.meth C x = o):methM P H (.obj n) x = o:=by
 show onIn _ H[n]? = _
 rw [h]; exact (if_pos e).trans d
noncomputable def zuz (P:Prg) (x:Str) (C:Addr) (fs:List (Str×V)):Option Addr:=if (lk fs x).isNone then P.meth C x else none
noncomputable def attrS (P:Prg) (d:Nat) (C:Addr) (fs:List (Str×V)) (n:Nat) (x:Str) [Q:Kt V] (H:Hp):Option Addr→Prop
 | some f=>@WpI _ ⟨@zzf Q⟩ ⟨kNo⟩ (call P d (.top (.ref f)) [.obj n] [] []) H
 | none=>@optN _ ⟨@kAt H Q⟩ (zbz P x C fs)
theorem zbh {P:Prg} {d:Nat} {C:Addr} {fs:List (Str×V)} {n:Nat} {x:Str} {Q:V→Hp→Prop} (f:Addr):@attrS P d C fs n x ⟨Q⟩ H (some f) = @WpI _ ⟨@zzf ⟨Q⟩⟩ ⟨kNo⟩ (call P d (.top (.ref f)) [.obj n] [] []) H:=rfl
theorem zbi {P:Prg} {d:Nat} {C:Addr} {fs:List (Str×V)} {n:Nat} {x:Str} {Q:V→Hp→Prop}:@attrS P d C fs n x ⟨Q⟩ H none = @optN _ ⟨@kAt H ⟨Q⟩⟩ (zbz P x C fs):=rfl
theorem zam {P:Prg} {n:Nat} {C:Addr} {fs:List (Str×V)} (h:H[n]? = some (.inst C fs)):(∀ d x (Q:V→Hp→Prop),@kAF P d x ⟨Q⟩ (.obj n) H = @attrS P d C fs n x ⟨Q⟩ H (P.prop C x))∧(∀ x,attrM P H (.obj n) x = zbz P x C fs)∧(∀ x,propM P H (.obj n) x = P.prop C x)∧∀ x,methM P H (.obj n) x = zuz P x C fs:=by
 have e1:∀ x,attrM P H (.obj n) x = zbz P x C fs:=fun x=>by show onIn _ H[n]? = _; rw [h]; rfl
 have e2:∀ x,propM P H (.obj n) x = P.prop C x:=fun x=>by show onIn _ H[n]? = _; rw [h]; rfl
 refine ⟨fun d x Q=>?_,e1,e2,fun x=>by show onIn _ H[n]? = _; rw [h]; rfl⟩
 rw [q_kAF,e2]
 cases P.prop C x with
 | some f=>rfl
 | none=>
   show @optI _ ⟨@kAt H ⟨Q⟩⟩ (attrM P H (.obj n) x) = @optN _ ⟨@kAt H ⟨Q⟩⟩ _
   rw [e1]
   cases zbz P x C fs with
   | none=>exact propext ⟨fun h=>@optI.out _ ⟨@kAt H ⟨Q⟩⟩ _ h,fun h=>@optI.mk _ ⟨@kAt H ⟨Q⟩⟩ _ h⟩
   | some v=>exact zaz v _
theorem zj2 {P:Prg} {n:Nat} {C:Addr} {fs:List (Str×V)} {x:Str} {v:V} (h:H[n]? = some (.inst C fs)) (d:P.datt C x = true) (l:fs.length < 100):zbs P H (.obj n) x v = some (H.set n (.inst C (put fs x v))):=by
 show onIn _ H[n]? = _
 rw [h]; exact if_pos (by rw [d,decide_eq_true l]; rfl)
theorem zdp {P:Prg} {R:Hp→Prop} {n:Nat} {C:Addr} {fs:List (Str×V)} {x:Str} {v:V} (h:H[n]? = some (.inst C fs)) (d:P.datt C x = true) (l:fs.length < 100)
  (hq:∀ H',H'[n]? = some (.inst C (put fs x v))→Stay H H' [n]→R H'):@optI _ ⟨R⟩ (zbs P H (.obj n) x v):=by
 rw [zj2 h d l,zaz]
 exact hq _ (by rw [List.getElem?_set_self (List.getElem?_eq_some_iff.mp h).1]) (Stay.set _ (.head _))
theorem zc2:zbz (prg K) "_StringIO__newline" 630 (sioF buf pos) = some (.str [10]):=rfl
theorem zl5:zbz (prg K) "_StringIO__buf" 630 (sioF buf pos) = some (.str buf):=rfl
theorem zl4:zbz (prg K) "_StringIO__pos" 630 (sioF buf pos) = some (.int pos):=rfl
theorem sp_ (x:Str):(prg K).prop 630 x = none:=rfl
theorem zfj:zuz (prg K) "_StringIO__check" 630 (sioF buf pos) = some 414:=rfl
theorem zhq:zuz (prg K) "_StringIO__line" 630 (sioF buf pos) = some 428:=rfl
theorem zhp:zuz (prg K) "read" 630 (sioF buf pos) = some 576:=rfl
theorem zck:zuz (prg K) "readline" 630 (sioF buf pos) = some 584:=rfl
theorem zm9 {R:Hp→Prop} (h:H[k]? = some (.inst 630 (sioF buf pos))) (q:Nat) (hq:∀ H',H'[k]? = some (.inst 630 (sioF buf q))→Stay H H' [k]→R H'):@optI _ ⟨R⟩ (zbs (prg K) H (.obj k) "_StringIO__pos" (.int q)):=by
 rw [zj2 h (by kernel_rfl) (Nat.le_of_ble_eq_true (by kernel_rfl)),zaz,z6y]
 refine hq _ ?_ (Stay.set _ (.head _))
 rw [List.getElem?_set_self (List.getElem?_eq_some_iff.mp h).1]
end
theorem z4j (H:Hp) (i:Int):cType H [.int i] = some (.top (.type "int"),H):=rfl
section
variable {K:Wd} (G:Gl K)
include G
theorem zxa (d:Nat) (i:Int) (w:V) (hi:-10≤i∧i≤10) (H:Hp) (Q:V→Hp→Prop) (E:EK→Hp→Prop) (h:Q (.int i) H):@WpI _ ⟨Q⟩ ⟨E⟩ (call (prg K) (d + 1) (.top (.ref 96)) [.int i,w] [] []) H:=by
 refine z5f ?_
 refine zaj rfl ?_
 have e1:(1099511627776 < i) = False:=eq_false (Int.not_lt.mpr (Int.le_trans hi.2 (by decide)))
 have e2:(i < -1099511627776) = False:=eq_false (Int.not_lt.mpr (Int.le_trans (by decide) hi.1))
 open_k with [zw5,g_type,g_int,g_bool,z4j,zxs,e1,e2,beq_self_eq_true]
 exact h
omit G in
theorem zxp (d:Nat) {k:Nat} {buf:List Nat} {pos:Nat} (H:Hp) (hk:H[k]? = some (.inst 630 (sioF buf pos))) (Q:V→Hp→Prop) (E:EK→Hp→Prop) (h:Q .none H):@WpI _ ⟨Q⟩ ⟨E⟩ (call (prg K) (d + 1) (.top (.ref 414)) [.obj k] [] []) H:=by
 refine z5g ?_
 refine zaj rfl ?_
 have A:=zam (P:=prg K) hk
 open_k with [zw6,↑A]
 exact h
omit G in
theorem z4b (H:Hp) (l:List Nat) (i j:Nat):cutM H (.str l) (.int (i:Int)) (.int (j:Int)) = some (.str (cut l (min i l.length) (min j l.length)),H):=by
 show some (V.str (cut l (clampI i l.length) (clampI j l.length)),H) = _
 rw [zmm,zmm]
omit G in
theorem z4a (H:Hp) {l:List Nat} {i:Nat} (h:i < l.length):cutM H (.str l) (.int (i:Int)) (.int ((i + 1:Nat):Int)) = some (.str [l[i]],H):=by
 rw [z4b,Nat.min_eq_left (Nat.le_of_lt h),Nat.min_eq_left h,cut,List.drop_take,List.drop_eq_getElem_cons h,show i.succ - i = 1 from Nat.add_sub_cancel_left i 1]
 rfl
theorem read_ok (d:Nat) {k:Nat} {buf:List Nat} {pos:Nat} (H:Hp) (hk:H[k]? = some (.inst 630 (sioF buf pos))) (Q:V→Hp→Prop) (E:EK→Hp→Prop)
  (h0:buf.drop pos = []→Q (.str []) H) (h1:∀ c r,buf.drop pos = c::r→∀ H',H'[k]? = some (.inst 630 (sioF buf (pos + 1)))→Stay H H' [k]→Q (.str [c]) H'):
  @WpI _ ⟨Q⟩ ⟨E⟩ (call (prg K) (d + 2) (.top (.ref 576)) [.obj k,.int 1] [] []) H:=by
 refine wc_read ?_
 refine zaj rfl ?_
 have A:=zam (P:=prg K) hk
 open_k with [zdu,↑A,z3t]
 refine zxa G (d + 0) 1 _ (by decide) H _ E ?_
 open_k with [zdu,↑A]
 refine zxp (d + 0) H hk _ E ?_
 open_k with [zdu,↑A,zlt,zfn,intLe]
 refine zc0 (fun h=>?_) (fun h=>?_)
 ·open_k with [zdu]
  exact h0 (List.drop_eq_nil_of_le h)
 ·have hlt:pos < buf.length:=Nat.lt_of_not_le h
  have hd:=List.drop_eq_getElem_cons hlt
  have e0:(0:Int)≤1:=by decide
  have e1:((pos:Int) + 1 < (buf.length:Int)) = (pos + 1 < buf.length):=lt_z (i:=pos + 1) rfl
  open_k with [zdu,e0,e1]
  refine zc0 (fun h=>?_) (fun h=>?_)
  ·open_k with [zdu,↑A]
   refine zm9 hk (pos + 1) (fun H' hk' st=>?_)
   have A':=zam (P:=prg K) hk'
   have e2:(pos:Int) + 1 = ((pos + 1:Nat):Int):=rfl
   open_k with [zdu,↑A',e2,z4a _ hlt]
   exact h1 _ _ hd H' hk' st
  ·have e2:(buf.length:Int) = ((pos + 1:Nat):Int):=congrArg Int.ofNat (Nat.le_antisymm (Nat.le_of_not_lt h) hlt)
   open_k with [zdu,↑A,e2]
   refine zm9 hk (pos + 1) (fun H' hk' st=>?_)
   have A':=zam (P:=prg K) hk'
   open_k with [zdu,↑A',e2,z4a _ hlt]
   exact h1 _ _ hd H' hk' st
noncomputable def zbc:List Nat→List Nat
 | []=>[]
 | c::r=>if c = 10 then r else zbc r
omit G in
theorem dropLine_c (c:Nat) (r:List Nat):zbc (c::r) = if c = 10 then r else zbc r:=rfl
omit G in
theorem z31 (l:List Nat):∀ (k:Nat),(findL 10 l k = -1∧zbc l = [])∨∃ j,findL 10 l k = ((k + j:Nat):Int)∧j < l.length∧l.drop (j + 1) = zbc l:=by
 induction l with
 | nil=>exact fun k=>.inl ⟨rfl,rfl⟩
 | cons c r ih=>
   intro k
   rw [findL_c,dropLine_c]
   by_cases h:c = 10
   ·rw [if_pos h,if_pos h]
    exact .inr ⟨0,rfl,Nat.succ_pos _,rfl⟩
   ·rw [if_neg h,if_neg h]
    rcases ih (k + 1) with ⟨a,b⟩ | ⟨j,a,b,c⟩
    ·exact .inl ⟨a,b⟩
    ·exact .inr ⟨j + 1,a.trans (congrArg Int.ofNat (Nat.add_right_comm k 1 j)),Nat.succ_lt_succ b,c⟩
theorem line_ok (d:Nat) {k:Nat} {buf:List Nat} {pos:Nat} (H:Hp) (hk:H[k]? = some (.inst 630 (sioF buf pos))) (hp:pos≤buf.length) (Q:V→Hp→Prop) (E:EK→Hp→Prop)
  (h1:∀ v p',pos≤p'→p'≤buf.length→buf.drop p' = zbc (buf.drop pos)→∀ H',H'[k]? = some (.inst 630 (sioF buf p'))→Stay H H' [k]→Q (.str v) H'):
  @WpI _ ⟨Q⟩ ⟨E⟩ (call (prg K) (d + 1) (.top (.ref 428)) [.obj k,.int (-1)] [] []) H:=by
 refine wc_line ?_
 refine zaj rfl ?_
 have A:=zam (P:=prg K) hk
 open_k with [ze8,↑A,zlt,zfn,intLe]
 refine zc0 (fun h=>?_) (fun h=>?_)
 ·open_k with [ze8]
  have hd:buf.drop pos = []:=List.drop_eq_nil_of_le h
  exact h1 [] pos (Nat.le_refl _) hp (by rw [hd]; rfl) H hk (Stay.refl _ _)
 ·have e0:((0:Int)≤-1) = False:=eq_false (by decide)
  have e1:(([10]:List Nat) == []) = false:=rfl
  have e2:((0:Int)≤(pos:Int)∧True) = True:=eq_true ⟨Int.natCast_nonneg _,trivial⟩
  open_k with [ze8,↑A,e0,e1,z7g,e2,Int.toNat_natCast]
  rcases z31 (buf.drop pos) pos with ⟨f1,f2⟩ | ⟨j,f1,f2,f3⟩
  ·open_k with [f1,e0,ze8]
   refine zm9 hk buf.length (fun H' hk' st=>?_)
   have A':=zam (P:=prg K) hk'
   open_k with [ze8,↑A',z4b]
   exact h1 _ buf.length hp (Nat.le_refl _) (by rw [f2,List.drop_length]) H' hk' st
  ·rw [List.length_drop] at f2
   have e3:((0:Int)≤((pos + j:Nat):Int)) = True:=eq_true (Int.natCast_nonneg _)
   have e4:((pos + j:Nat):Int) + 1 = ((pos + j + 1:Nat):Int):=rfl
   have e5:((1:Nat):Int) = 1:=rfl
   open_k with [f1,e3,ze8,zlt,zfn,e5,e4,↑A]
   refine zm9 hk (pos + j + 1) (fun H' hk' st=>?_)
   have A':=zam (P:=prg K) hk'
   open_k with [ze8,↑A',e5,e4,z4b]
   exact h1 _ (pos + j + 1) (Nat.le_trans (Nat.le_add_right _ j) (Nat.le_succ _)) (Nat.add_comm pos j ▸ Nat.add_lt_of_lt_sub f2) (by rw [← f3,List.drop_drop]; rfl) H' hk' st
theorem zj6 (d:Nat) {k:Nat} {buf:List Nat} {pos:Nat} (H:Hp) (hk:H[k]? = some (.inst 630 (sioF buf pos))) (hp:pos≤buf.length) (Q:V→Hp→Prop) (E:EK→Hp→Prop)
  (h1:∀ v p',pos≤p'→p'≤buf.length→buf.drop p' = zbc (buf.drop pos)→∀ H',H'[k]? = some (.inst 630 (sioF buf p'))→Stay H H' [k]→Q (.str v) H'):
  @WpI _ ⟨Q⟩ ⟨E⟩ (call (prg K) (d + 2) (.top (.ref 584)) [.obj k] [] []) H:=by
 refine zs6 ?_
 refine zaj rfl ?_
 have A:=zam (P:=prg K) hk
 open_k with [zej,↑A,z3t]
 refine zxa G d (-1) _ (by decide) H _ E ?_
 open_k with [zej,↑A]
 refine zxp d H hk _ E ?_
 open_k with [zej,↑A]
 refine line_ok G d H hk hp _ E (fun v p' a b c H' e f=>?_)
 open_k with [rfl_]
 exact h1 v p' a b c H' e f
omit G in
theorem zm3 (d:Nat) {k:Nat} (v:List Nat) {pos:Nat} (H:Hp) (hk:H[k]? = some (.inst 630 (sioF [] pos))) (Q:V→Hp→Prop) (E:EK→Hp→Prop) (h:Q (.str v) H):@WpI _ ⟨Q⟩ ⟨E⟩ (call (prg K) (d + 1) (.top (.ref 407)) [.obj k,.str v] [] []) H:=by
 refine zmt ?_
 refine zaj rfl ?_
 have A:=zam (P:=prg K) hk
 have e1:(([10]:List Nat) == [13]) = false:=rfl
 have e2:(([10]:List Nat) == [13,10]) = false:=rfl
 open_k with [zg4,↑A,e1,e2]
 exact h
theorem z57 (d:Nat) {k:Nat} (v:List Nat) (H:Hp) (hk:H[k]? = some (.inst 630 [])) (Q:V→Hp→Prop) (E:EK→Hp→Prop) (h:∀ H',H'[k]? = some (.inst 630 (sioF v 0))→Stay H H' [k]→Q .none H'):
  @WpI _ ⟨Q⟩ ⟨E⟩ (call (prg K) (d + 2) (.top (.ref 400)) [.obj k,.str v] [] []) H:=by
 refine z5a ?_
 refine zaj rfl ?_
 have ct:∀ H l,cType H [.str l] = some (.top (.type "str"),H):=fun _ _=>rfl
 have e1:(([10]:List Nat) == []) = false:=rfl
 have e2:(([10]:List Nat) == [10]) = true:=rfl
 open_k with [zfm,g_type,g_str,ct,beq_self_eq_true,e1,e2]
 refine zdp hk (by kernel_rfl) (by decide) (fun H1 k1 s1=>?_)
 have k1:H1[k]? = some (.inst 630 [("_StringIO__newline",.str [10])]):=k1
 open_k with [zfm]
 refine zdp k1 (by kernel_rfl) (Nat.le_of_ble_eq_true (by kernel_rfl)) (fun H2 k2 s2=>?_)
 have k2:H2[k]? = some (.inst 630 [("_StringIO__newline",.str [10]),("_StringIO__buf",.str [])]):=k2.trans (by kernel_rfl)
 open_k with [zfm]
 refine zdp k2 (by kernel_rfl) (Nat.le_of_ble_eq_true (by kernel_rfl)) (fun H3 k3 s3=>?_)
 have k3:H3[k]? = some (.inst 630 (sioF [] 0)):=k3.trans (by kernel_rfl)
 have m3:methM (prg K) H3 (.obj k) "_StringIO__translated" = some 407:=z7b k3 (by kernel_rfl) (zcw K)
 open_k with [zfm,m3]
 refine zm3 d v H3 k3 _ E ?_
 open_k with [zfm]
 refine zdp k3 (by kernel_rfl) (Nat.le_of_ble_eq_true (by kernel_rfl)) (fun H4 k4 s4=>?_)
 open_k with [rfl_]
 exact h H4 (k4.trans (by kernel_rfl)) (s1.trans (s2.trans (s3.trans s4)))
end
structure LK where
 k:Nat
 posix:Bool
 com:List Nat
 wc:List Nat
 pb:Nat
 fs:Nat
noncomputable def LK.eof (L:LK):V:=if L.posix then .none else .str []
noncomputable def lexF (L:LK) (st:V) (ln:Int) (tok:List Nat):List (Str×V):=[("instream",.obj L.k),("infile",.none),("posix",.bool L.posix),("eof",L.eof),("commenters",.str L.com),("wordchars",.str L.wc),("whitespace",.str [32,9,13,10]),
 ("whitespace_split",.bool true),("quotes",.str [39,34]),("escape",.str [92]),("escapedquotes",.str [34]),("state",st),("pushback",.obj L.pb),("lineno",.int ln),("debug",.int 0),("token",.str tok),("filestack",.obj L.fs),("source",.none),("_punctuation_chars",.str [])]
theorem zof (L st ln tok):(lexF L st ln tok).length < 100:=Nat.le_of_ble_eq_true (by kernel_rfl)
theorem z8r (L:LK):zi1 L.eof = true:=by unfold LK.eof; split <;> rfl
section
variable {K:Wd} {H:Hp} {n:Nat} {L:LK} {st:V} {ln:Int} {tok:List Nat}
theorem zdd:zbz (prg K) "instream" 765 (lexF L st ln tok) = some (.obj L.k):=rfl
theorem zg2:zbz (prg K) "posix" 765 (lexF L st ln tok) = some (.bool L.posix):=rfl
theorem zch:zbz (prg K) "commenters" 765 (lexF L st ln tok) = some (.str L.com):=rfl
theorem zcu:zbz (prg K) "wordchars" 765 (lexF L st ln tok) = some (.str L.wc):=rfl
theorem zcg:zbz (prg K) "whitespace" 765 (lexF L st ln tok) = some (.str [32,9,13,10]):=rfl
theorem zbb:zbz (prg K) "whitespace_split" 765 (lexF L st ln tok) = some (.bool true):=rfl
theorem ze5:zbz (prg K) "quotes" 765 (lexF L st ln tok) = some (.str [39,34]):=rfl
theorem ze7:zbz (prg K) "escape" 765 (lexF L st ln tok) = some (.str [92]):=rfl
theorem zbo:zbz (prg K) "escapedquotes" 765 (lexF L st ln tok) = some (.str [34]):=rfl
theorem zdc:zbz (prg K) "pushback" 765 (lexF L st ln tok) = some (.obj L.pb):=rfl
theorem ze6:zbz (prg K) "lineno" 765 (lexF L st ln tok) = some (.int ln):=rfl
theorem zg3:zbz (prg K) "debug" 765 (lexF L st ln tok) = some (.int 0):=rfl
theorem zg1:zbz (prg K) "token" 765 (lexF L st ln tok) = some (.str tok):=rfl
theorem zcv:zbz (prg K) "filestack" 765 (lexF L st ln tok) = some (.obj L.fs):=rfl
theorem ze4:zbz (prg K) "source" 765 (lexF L st ln tok) = some (.none):=rfl
theorem za7:zbz (prg K) "_punctuation_chars" 765 (lexF L st ln tok) = some (.str []):=rfl
theorem ze2 (l:List Nat):zbz (prg K) "state" 765 (lexF L (.str l) ln tok) = some (.str l):=rfl
theorem ze3:zbz (prg K) "state" 765 (lexF L .none ln tok) = some .none:=rfl
theorem zrv:zbz (prg K) "eof" 765 (lexF L st ln tok) = some L.eof:=by
 show (if zi1 L.eof then some L.eof else none) = some L.eof
 rw [if_pos (z8r L)]
theorem zda:(prg K).prop 765 "instream" = none:=rfl
theorem zgx:(prg K).prop 765 "posix" = none:=rfl
theorem zcf:(prg K).prop 765 "commenters" = none:=rfl
theorem zcr:(prg K).prop 765 "wordchars" = none:=rfl
theorem zce:(prg K).prop 765 "whitespace" = none:=rfl
theorem zba:(prg K).prop 765 "whitespace_split" = none:=rfl
theorem zez:(prg K).prop 765 "quotes" = none:=rfl
theorem ze1:(prg K).prop 765 "escape" = none:=rfl
theorem zbn:(prg K).prop 765 "escapedquotes" = none:=rfl
theorem zc9:(prg K).prop 765 "pushback" = none:=rfl
theorem ze0:(prg K).prop 765 "lineno" = none:=rfl
theorem zgy:(prg K).prop 765 "debug" = none:=rfl
theorem zgv:(prg K).prop 765 "token" = none:=rfl
theorem zcs:(prg K).prop 765 "filestack" = none:=rfl
theorem zey:(prg K).prop 765 "source" = none:=rfl
theorem za6:(prg K).prop 765 "_punctuation_chars" = none:=rfl
theorem zgw:(prg K).prop 765 "state" = none:=rfl
theorem zrs:(prg K).prop 765 "eof" = none:=rfl
theorem z2j:(prg K).prop 765 "punctuation_chars" = some 696:=rfl
theorem zdb:zuz (prg K) "get_token" 765 (lexF L st ln tok) = some 726:=rfl
theorem zct:zuz (prg K) "read_token" 765 (lexF L st ln tok) = some 733:=rfl
structure Lx (H:Hp) (n:Nat) (L:LK) (st:V) (ln:Int) (tok buf:List Nat) (pos:Nat):Prop where
 lex:H[n]? = some (.inst 765 (lexF L st ln tok))
 sio:H[L.k]? = some (.inst 630 (sioF buf pos))
 pb:H[L.pb]? = some .deque
 fs:H[L.fs]? = some .deque
 ne:n≠L.k
 n1:L.pb≠n∧L.pb≠L.k
 n2:L.fs≠n∧L.fs≠L.k
variable {buf:List Nat} {pos:Nat} {R:Hp→Prop}
theorem Lx.setState (X:Lx H n L st ln tok buf pos) (v:V) (h:∀ H',Lx H' n L v ln tok buf pos→Stay H H' [n,L.k]→R H'):@optI _ ⟨R⟩ (zbs (prg K) H (.obj n) "state" v):=by
 refine zdp X.lex (by kernel_rfl) (zof _ _ _ _) (fun H' e s=>h H' ⟨?_,s.at X.sio ?_,s.at X.pb ?_,s.at X.fs ?_,X.ne,X.n1,X.n2⟩ (s.sub (by simp)))
 ·exact e.trans (by kernel_rfl)
 ·simpa using X.ne.symm
 ·simpa using X.n1.1
 ·simpa using X.n2.1
theorem Lx.setTok (X:Lx H n L st ln tok buf pos) (v:List Nat) (h:∀ H',Lx H' n L st ln v buf pos→Stay H H' [n,L.k]→R H'):@optI _ ⟨R⟩ (zbs (prg K) H (.obj n) "token" (.str v)):=by
 refine zdp X.lex (by kernel_rfl) (zof _ _ _ _) (fun H' e s=>h H' ⟨?_,s.at X.sio ?_,s.at X.pb ?_,s.at X.fs ?_,X.ne,X.n1,X.n2⟩ (s.sub (by simp)))
 ·exact e.trans (by kernel_rfl)
 ·simpa using X.ne.symm
 ·simpa using X.n1.1
 ·simpa using X.n2.1
theorem Lx.setLn (X:Lx H n L st ln tok buf pos) (v:Int) (h:∀ H',Lx H' n L st v tok buf pos→Stay H H' [n,L.k]→R H'):@optI _ ⟨R⟩ (zbs (prg K) H (.obj n) "lineno" (.int v)):=by
 refine zdp X.lex (by kernel_rfl) (zof _ _ _ _) (fun H' e s=>h H' ⟨?_,s.at X.sio ?_,s.at X.pb ?_,s.at X.fs ?_,X.ne,X.n1,X.n2⟩ (s.sub (by simp)))
 ·exact e.trans (by kernel_rfl)
 ·simpa using X.ne.symm
 ·simpa using X.n1.1
 ·simpa using X.n2.1
theorem Lx.stream {H':Hp} {pos':Nat} (X:Lx H n L st ln tok buf pos) (e:H'[L.k]? = some (.inst 630 (sioF buf pos'))) (s:Stay H H' [L.k]):Lx H' n L st ln tok buf pos':=
 ⟨s.at X.lex (by simpa using X.ne),e,s.at X.pb (by simpa using X.n1.2),s.at X.fs (by simpa using X.n2.2),X.ne,X.n1,X.n2⟩
theorem Lx.grow (X:Lx H n L st ln tok buf pos) (T:List O):Lx (H++T) n L st ln tok buf pos:=
 have s:=Stay.grow (H:=H) T []
 ⟨s.at X.lex (nm0),s.at X.sio (nm0),s.at X.pb (nm0),s.at X.fs (nm0),X.ne,X.n1,X.n2⟩
theorem Lx.methSio (X:Lx H n L st ln tok buf pos):methM (prg K) H (.obj L.k) "read" = some 576∧methM (prg K) H (.obj L.k) "readline" = some 584:=⟨(zam X.sio).2.2.2 _,(zam X.sio).2.2.2 _⟩
theorem Lx.truths (X:Lx H n L st ln tok buf pos):zeq H (.obj L.pb) = some false∧zeq H (.obj L.fs) = some false:=by simp only [z0v,X.pb,X.fs,and_self]
end
section
variable {K:Wd}
theorem zgl (d:Nat) {n:Nat} {L:LK} {st:V} {ln:Int} {tok:List Nat} (H:Hp) (X:H[n]? = some (.inst 765 (lexF L st ln tok))) (Q:V→Hp→Prop) (E:EK→Hp→Prop) (h:Q (.str []) H):@WpI _ ⟨Q⟩ ⟨E⟩ (call (prg K) (d + 1) (.top (.ref 696)) [.obj n] [] []) H:=by
 refine z5c ?_
 refine zaj rfl ?_
 have A:=zam (P:=prg K) X
 open_k with [zw3,↑A]
 exact h
end
inductive LSt where
 | non | sp | wd | qu (q:Nat) | es
inductive LOut where
 | again (st:LSt) (esc:Nat) (qd:Bool) (tok l:List Nat)
 | stop (st:LSt) (qd:Bool) (tok l:List Nat)
 | raise
noncomputable def ofEsc (e:Nat):LSt:=if e = 97 then .wd else .qu e
section
variable (com wc:List Nat) (posix:Bool)
noncomputable def zca:LSt→Nat→Bool→List Nat→List Nat→LOut
 | .non,_,qd,_,l=>.stop .non qd [] l
 | .sp,_,qd,tok,[]=>.stop .non qd tok []
 | .sp,esc,qd,tok,c::r=>
   if ([32,9,13,10]:List Nat).contains c then (if !tok.isEmpty || posix && qd then .stop .sp qd tok r else .again .sp esc qd tok r)
   else if com.contains c then .again .sp esc qd tok (zbc r)
   else if posix && ([92]:List Nat).contains c then .again .es 97 qd tok r
   else if wc.contains c then .again .wd esc qd [c] r
   else if ([39,34]:List Nat).contains c then (if !posix then .again (.qu c) esc qd [c] r else .again (.qu c) esc qd tok r)
   else .again .wd esc qd [c] r
 | .qu _,_,_,_,[]=>.raise
 | .qu q,esc,_,tok,c::r=>
   if c = q then (if !posix then .stop .sp true (tok++[c]) r else .again .wd esc true tok r)
   else if posix && (([92]:List Nat).contains c && ([34]:List Nat).contains q) then .again .es q true tok r
   else .again (.qu q) esc true (tok++[c]) r
 | .es,_,_,_,[]=>.raise
 | .es,esc,qd,tok,c::r=>.again (ofEsc esc) esc qd ((if ([39,34]:List Nat).contains esc && (!decide (c = 92) && !decide (c = esc)) then tok++[92] else tok)++[c]) r
 | .wd,_,qd,tok,[]=>.stop .non qd tok []
 | .wd,esc,qd,tok,c::r=>
   if ([32,9,13,10]:List Nat).contains c then (if !tok.isEmpty || posix && qd then .stop .sp qd tok r else .again .sp esc qd tok r)
   else if com.contains c then (if posix then (if !tok.isEmpty || posix && qd then .stop .sp qd tok (zbc r) else .again .sp esc qd tok (zbc r)) else .again .wd esc qd tok (zbc r))
   else if posix && ([39,34]:List Nat).contains c then .again (.qu c) esc qd tok r
   else if posix && ([92]:List Nat).contains c then .again .es 97 qd tok r
   else .again .wd esc qd (tok++[c]) r
end
noncomputable abbrev ky:Nat→Option Nat:=fun c=>some c
noncomputable def cont (noted shell:Bool):LSt→Nat→List Nat→List Nat→List (List Nat)→Option (List (List Nat))
 | .non,_,_,_,ws=>some ws
 | .sp,_,_,l,ws=>runF noted shell ky .out ws none l
 | .wd,_,tok,l,ws=>runF noted shell ky .out ws (some tok) l
 | .qu q,_,tok,l,ws=>runF noted shell ky (.quo q) ws (some tok) l
 | .es,esc,tok,l,ws=>if esc = 97 then runF noted shell ky .out ws (some tok) (92::l) else runF noted shell ky (.quo esc) ws (some tok) (92::l)
noncomputable def isEof (posix qd:Bool) (tok:List Nat):Bool:=tok.isEmpty && !(posix && qd)
noncomputable def zg9 (noted shell qd:Bool) (tok l:List Nat) (ws:List (List Nat)):Option (List (List Nat)):=
 if isEof shell qd tok then some ws else runF noted shell ky .out (ws++[tok]) none l
noncomputable def LInv (shell:Bool):LSt→Nat→Bool→List Nat→List Nat→Prop
 | .non,_,qd,_,l=>qd = false∧l = []
 | .sp,_,qd,tok,_=>qd = false∧tok = []
 | .wd,_,qd,tok,_=>tok≠[]∨(shell = true∧qd = true)
 | .qu q,_,_,tok,_=>(q = 39∨q = 34)∧(tok≠[]∨shell = true)
 | .es,esc,qd,_,_=>shell = true∧(esc = 97∨(esc = 34∧qd = true))
theorem zin (l:List Nat):(zbc l).length≤l.length:=by
 induction l with
 | nil=>exact Nat.le_refl _
 | cons c r ih=>
   rw [dropLine_c]
   by_cases h:c = 10
   ·rw [if_pos h]; exact Nat.le_succ _
   ·rw [if_neg h]; exact Nat.le_succ_of_le ih
theorem zqg {noted shell:Bool} (l:List Nat) (ws:List (List Nat)) (w:Option (List Nat)):runF noted shell ky .com ws w l = runF noted shell ky .out ws w (zbc l):=by
 induction l with
 | nil=>rfl
 | cons c r ih=>
   rw [zne,dropLine_c]
   by_cases h:c = 10
   ·rw [if_pos (by rw [h]),if_pos h]
   ·rw [if_neg (fun e=>h (Option.some.inj e)),if_neg h,ih]
theorem wsk (c:Nat):isWs (ky c) = ([32,9,13,10]:List Nat).contains c:=by
 show (((c == 32 || c == 9) || c == 13) || c == 10) = (c == 32 || (c == 9 || (c == 13 || (c == 10 || false))))
 rw [Bool.or_false,Bool.or_assoc,Bool.or_assoc]
theorem qk (c:Nat):isQ (ky c) = ([39,34]:List Nat).contains c:=by
 show (c == 39 || c == 34) = (c == 39 || (c == 34 || false))
 rw [Bool.or_false]
section
variable {com wc:List Nat} {noted shell:Bool}
noncomputable def zs1 (noted shell:Bool) (st:LSt) (esc:Nat) (tok l:List Nat):LOut→Prop
 | .again st' esc' qd' tok' l'=>LInv shell st' esc' qd' tok' l'∧l'.length < l.length∧tok'.length + l'.length≤tok.length + l.length + 1∧∀ ws,cont noted shell st esc tok l ws = cont noted shell st' esc' tok' l' ws
 | .stop st' qd' tok' l'=>(st' = .sp∨(st' = .non∧l' = []))∧(l' = l∧st = .sp∨l'.length≤l.length)∧((∃ l0,st = .sp∧l0 = l)→isEof shell qd' tok' = true)∧tok'.length + l'.length≤tok.length + l.length + 1∧∀ ws,cont noted shell st esc tok l ws = zg9 noted shell qd' tok' l' ws
 | .raise=>∀ ws,cont noted shell st esc tok l ws = none
theorem z7v {qd:Bool} {tok:List Nat} (h:tok≠[]∨(shell = true∧qd = true)):isEof shell qd tok = false:=by
 unfold isEof
 rcases h with h | ⟨h1,h2⟩
 ·cases tok with
  | nil=>exact absurd rfl h
  | cons _ _=>rfl
 ·rw [h1,h2]; simp
theorem go_no {qd:Bool} {tok:List Nat} (h:tok≠[]∨(shell = true∧qd = true)):(!tok.isEmpty || shell && qd) = true:=by
 rcases h with h | ⟨h1,h2⟩
 ·cases tok with
  | nil=>exact absurd rfl h
  | cons _ _=>rfl
 ·rw [h1,h2]; simp
theorem zf7 {α:Type} {P:α→Prop} {b:Bool} {x y:α} (h1:b = true→P x) (h2:b = false→P y):P (if b = true then x else y):=by cases b; exact h2 rfl; exact h1 rfl
theorem ite_c {α:Type} {P:α→Prop} {p:Prop} [D:Decidable p] {x y:α} (h1:p→P x) (h2:¬p→P y):P (if p then x else y):=by cases D with | isTrue h=>exact h1 h | isFalse h=>exact h2 h
theorem zxh {qd:Bool} {tok l:List Nat} {ws:List (List Nat)} (h:tok≠[]∨(shell = true∧qd = true)):zg9 noted shell qd tok l ws = runF noted shell ky .out (ws++[tok]) none l:=by
 unfold zg9
 rw [z7v h]
 rfl
theorem zt1 {st:LSt} {esc:Nat} {qd:Bool} {tok l tok' l':List Nat} (hs:st = .sp→False) (hl:l'.length≤l.length) (ht:tok'.length + l'.length≤tok.length + l.length + 1) (e:∀ ws,cont noted shell st esc tok l ws = zg9 noted shell qd tok' l' ws):zs1 noted shell st esc tok l (.stop .sp qd tok' l'):=
 ⟨.inl rfl,.inr hl,fun ⟨_,e,_⟩=>(hs e).elim,ht,e⟩
section
variable {c:Nat} {r tok:List Nat} {ws:List (List Nat)} {w:Option (List Nat)} {st:LSt} {esc:Nat} {qd:Bool}
theorem zvb:(zbc r).length < (c::r).length:=Nat.lt_succ_of_le (zin r)
theorem le_1:tok.length + r.length≤tok.length + (c::r).length + 1:=Nat.le_succ_of_le (Nat.add_le_add_left (Nat.le_succ _) _)
theorem le_2:tok.length + (zbc r).length≤tok.length + (c::r).length + 1:=Nat.le_succ_of_le (Nat.add_le_add_left (Nat.le_succ_of_le (zin r)) _)
theorem le_3:(tok++[c]).length + r.length≤tok.length + (c::r).length + 1:=by rw [List.length_append]; exact Nat.le_succ_of_le (Nat.le_of_eq (Nat.succ_add_eq_add_succ _ _))
theorem sng (a:Nat):([a]:List Nat).contains c = decide (c = a):=by show (c == a || false) = _; rw [Bool.or_false]; rfl
theorem zws (h:([39,34]:List Nat).contains c = true):c = 39∨c = 34:=by simpa using h
theorem zmp (l:List Nat):l++[c]≠[]:=List.append_ne_nil_of_right_ne_nil _ (List.cons_ne_nil _ _)
theorem zv3 (h:([32,9,13,10]:List Nat).contains c = false):¬ isWs (ky c) = true:=by rw [wsk,h]; exact Bool.false_ne_true
theorem o_ws (h:([32,9,13,10]:List Nat).contains c = true):runF noted shell ky .out ws w (c::r) = runF noted shell ky .out (ws++w.toList) none r:=by rw [zec,if_pos (by rw [wsk]; exact h)]
theorem o_quo (hw:([32,9,13,10]:List Nat).contains c = false) (hc:¬ (ky c = some 35∧noted = true)) (hq:([39,34]:List Nat).contains c = true) (h:shell = true∨w.isNone = true):runF noted shell ky .out ws w (c::r) = if shell then runF noted shell ky (.quo c) ws (some (w.getD [])) r else runF noted shell ky (.quo c) ws (some [c]) r:=by
 rw [zec,if_neg (zv3 hw),if_neg hc,if_pos ⟨(qk c).trans hq,h⟩]
 rfl
theorem o_add (hw:([32,9,13,10]:List Nat).contains c = false) (hc:¬ (ky c = some 35∧noted = true)) (hq:¬ (([39,34]:List Nat).contains c = true∧(shell = true∨w.isNone = true))) (he:¬ (c = 92∧shell = true)):runF noted shell ky .out ws w (c::r) = runF noted shell ky .out ws (some (w.getD []++[c])) r:=by
 rw [zec,if_neg (zv3 hw),if_neg hc,if_neg (fun z=>hq ⟨(qk c).symm.trans z.1,z.2⟩),if_neg (fun z=>he ⟨Option.some.inj z.1,z.2⟩)]
theorem o_com (hw:([32,9,13,10]:List Nat).contains c = false) (hc:ky c = some 35∧noted = true):runF noted shell ky .out ws w (c::r) = if shell then runF noted shell ky .out (ws++w.toList) none (zbc r) else runF noted shell ky .out ws w (zbc r):=by
 rw [zec,if_neg (zv3 hw),if_pos hc,zqg,zqg]
theorem z63 (ws:List (List Nat)) (w:Option (List Nat)):runF noted true ky .out ws w (92::r) = (match r with
   | []=>none
   | y::r=>runF noted true ky .out ws (some (w.getD []++[y])) r):=by
 rw [zec,if_neg (zv3 rfl),if_neg (fun z=>absurd z.1 (by decide)),if_neg (fun z=>absurd z.1 (by decide)),if_pos ⟨rfl,rfl⟩]
 cases r <;> rfl
theorem es_in (h:(shell && ([92]:List Nat).contains c) = true):shell = true∧c = 92:=by
 rw [Bool.and_eq_true,sng,decide_eq_true_eq] at h
 exact h
theorem not_es (h:(shell && ([92]:List Nat).contains c) = false):¬ (c = 92∧shell = true):=fun ⟨a,b⟩=>by
 subst a b; cases h
theorem to_es (h:runF noted shell ky .out ws w (c::r) = cont noted shell st esc tok (c::r) ws) (e:shell = true∧c = 92) (hw:w.getD [] = tok):cont noted shell st esc tok (c::r) ws = cont noted shell .es 97 tok r ws:=by
 obtain ⟨rfl,rfl⟩:=e
 rw [← h,z63,hw]
 exact (z63 ws (some tok)).symm
theorem zbl {st':LSt} {esc':Nat} {qd':Bool} {tok' l' l:List Nat} (I:LInv shell st' esc' qd' tok' l') (h1:l'.length < l.length) (h2:tok'.length + l'.length≤tok.length + l.length + 1) (h3:∀ ws,cont noted shell st esc tok l ws = cont noted shell st' esc' tok' l' ws):zs1 noted shell st esc tok l (.again st' esc' qd' tok' l'):=⟨I,h1,h2,h3⟩
end
section
variable (hcom:∀ c,com.contains c = (decide (c = 35) && noted)) {esc:Nat} {qd:Bool} {tok:List Nat} {c:Nat} {r:List Nat}
include hcom
theorem com_in (h:com.contains c = true):ky c = some 35∧noted = true:=by
 rw [hcom,Bool.and_eq_true,decide_eq_true_eq] at h
 exact ⟨congrArg some h.1,h.2⟩
theorem zse (h:com.contains c = false):¬ (ky c = some 35∧noted = true):=fun ⟨a,b⟩=>by
 rw [hcom,Option.some.inj a,b] at h
 cases h
theorem stp_sp (hwc:wc.contains 39 = false∧wc.contains 34 = false):zs1 noted shell .sp esc [] (c::r) (zca com wc shell .sp esc false [] (c::r)):=by
 have wd (hw:([32,9,13,10]:List Nat).contains c = false) (hc:com.contains c = false) (he:(shell && ([92]:List Nat).contains c) = false) (hq:([39,34]:List Nat).contains c = false):zs1 noted shell .sp esc [] (c::r) (.again .wd esc false [c] r):=
  zbl (.inl (zmp [])) (Nat.lt_succ_self _) (le_3 (tok:=[])) (fun _=>o_add hw (zse hcom hc) (fun z=>Bool.false_ne_true (hq.symm.trans z.1)) (not_es he))
 unfold zca
 refine zf7 (fun hw=>?_) (fun hw=>?_)
 ·refine zf7 (fun h=>?_) (fun _=>?_)
  ·cases shell <;> cases h
  exact zbl ⟨rfl,rfl⟩ (Nat.lt_succ_self _) le_1 (fun ws=>(o_ws hw).trans (by rw [Option.toList_none,List.append_nil]; rfl))
 refine zf7 (fun hc=>?_) (fun hc=>?_)
 ·refine zbl ⟨rfl,rfl⟩ zvb le_2 (fun ws=>(o_com hw (com_in hcom hc)).trans ?_)
  rw [Option.toList_none,List.append_nil]
  cases shell <;> rfl
 refine zf7 (fun he=>?_) (fun he=>?_)
 ·have k:=es_in he
  exact zbl ⟨k.1,.inl rfl⟩ (Nat.lt_succ_self _) le_1 (fun ws=>to_es (w:=none) rfl k rfl)
 refine zf7 (fun hd=>?_) (fun _=>?_)
 ·refine wd hw hc he (Bool.eq_false_iff.mpr fun hq=>?_)
  rcases zws hq with rfl | rfl
  ·exact Bool.false_ne_true (hwc.1.symm.trans hd)
  ·exact Bool.false_ne_true (hwc.2.symm.trans hd)
 refine zf7 (fun hq=>?_) (fun hq=>wd hw hc he hq)
 cases shell with
 | true=>exact zbl ⟨zws hq,.inr rfl⟩ (Nat.lt_succ_self _) le_1 (fun ws=>o_quo hw (zse hcom hc) hq (.inl rfl))
 | false=>exact zbl ⟨zws hq,.inl (zmp [])⟩ (Nat.lt_succ_self _) (le_3 (tok:=[])) (fun ws=>o_quo hw (zse hcom hc) hq (.inr rfl))
theorem stp_wd (I:tok≠[]∨(shell = true∧qd = true)):zs1 noted shell .wd esc tok (c::r) (zca com wc shell .wd esc qd tok (c::r)):=by
 unfold zca
 have g:=go_no I
 have no {P:Prop} (h:(!tok.isEmpty || shell && qd) = false):P:=absurd (g.symm.trans h) (by decide)
 refine zf7 (fun hw=>zf7 (fun _=>?_) no) (fun hw=>?_)
 ·exact zt1 (fun e=>nomatch e) (Nat.le_succ _) le_1 (fun ws=>(o_ws hw).trans (zxh I).symm)
 refine zf7 (fun hc=>?_) (fun hc=>?_)
 ·have k (ws:List (List Nat)):=o_com (ws:=ws) (shell:=shell) (r:=r) (w:=some tok) (noted:=noted) hw (com_in hcom hc)
  refine zf7 (fun hs=>zf7 (fun _=>?_) no) (fun hs=>?_)
  ·exact zt1 (fun e=>nomatch e) (Nat.le_of_lt zvb) le_2 (fun ws=>((k ws).trans (if_pos hs)).trans (zxh I).symm)
  ·exact zbl I zvb le_2 (fun ws=>(k ws).trans (if_neg (by rw [hs]; exact Bool.false_ne_true)))
 refine zf7 (fun hq=>?_) (fun hq=>?_)
 ·rw [Bool.and_eq_true] at hq
  obtain ⟨rfl,hq⟩:=hq
  exact zbl ⟨zws hq,.inr rfl⟩ (Nat.lt_succ_self _) le_1 (fun ws=>o_quo hw (zse hcom hc) hq (.inl rfl))
 refine zf7 (fun he=>?_) (fun he=>?_)
 ·have k:=es_in he
  exact zbl ⟨k.1,.inl rfl⟩ (Nat.lt_succ_self _) le_1 (fun ws=>to_es (w:=some tok) rfl k rfl)
 ·refine zbl (.inl (zmp _)) (Nat.lt_succ_self _) le_3 (fun ws=>o_add hw (zse hcom hc) (fun z=>?_) (not_es he))
  rcases z.2 with e | e
  ·rw [e,z.1] at hq; cases hq
  ·cases e
end
theorem stp_qu {q:Nat} {esc:Nat} {qd:Bool} {tok:List Nat} {c:Nat} {r:List Nat} (hq:q = 39∨q = 34):zs1 noted shell (.qu q) esc tok (c::r) (zca com wc shell (.qu q) esc qd tok (c::r)):=by
 have key (ws:List (List Nat)):=zfk (noted:=noted) (shell:=shell) (key:=ky) q ws (some tok) c r
 unfold zca
 refine ite_c (fun hc=>?_) (fun hc=>?_)
 ·subst hc
  have k:=fun ws=>(key ws).trans (if_pos rfl)
  cases shell with
  | true=>exact zbl (.inr ⟨rfl,rfl⟩) (Nat.lt_succ_self _) le_1 k
  | false=>exact zt1 (fun e=>nomatch e) (Nat.le_succ _) le_3 (fun ws=>(k ws).trans (zxh (.inl (zmp _))).symm)
 have k:=fun ws=>(key ws).trans (if_neg (fun z=>hc (Option.some.inj z)))
 refine zf7 (fun he=>?_) (fun he=>?_)
 ·rw [Bool.and_eq_true,Bool.and_eq_true,sng,sng,decide_eq_true_eq,decide_eq_true_eq] at he
  obtain ⟨h1,rfl,rfl⟩:=he
  exact zbl ⟨h1,.inr ⟨rfl,rfl⟩⟩ (Nat.lt_succ_self _) le_1 (fun ws=>rfl)
 ·refine zbl ⟨hq,.inl (zmp _)⟩ (Nat.lt_succ_self _) le_3 (fun ws=>(k ws).trans (if_neg fun z=>?_))
  obtain ⟨z1,rfl,rfl⟩:=z
  rw [Option.some.inj z1] at he
  cases he
theorem stp_es {esc:Nat} {qd:Bool} {tok:List Nat} {c:Nat} {r:List Nat} (he:esc = 97∨(esc = 34∧qd = true)):zs1 noted true .es esc tok (c::r) (zca com wc true .es esc qd tok (c::r)):=by
 rcases he with rfl | ⟨rfl,rfl⟩
 ·exact zbl (.inl (zmp _)) (Nat.lt_succ_self _) le_3 (fun ws=>z63 ws (some tok))
 ·have k:=fun ws=>(zfk (noted:=noted) (shell:=true) (key:=ky) 34 ws (some tok) 92 (c::r)).trans ((if_neg (fun z=>absurd z (by decide))).trans (if_pos ⟨rfl,rfl,rfl⟩))
  refine zbl ⟨.inr rfl,.inr rfl⟩ (Nat.lt_succ_self _) ?_ (fun ws=>(k ws).trans ?_)
  ·exact zf7 (P:=fun x:List Nat=>(x++[c]).length + r.length≤_) (fun _=>by simp; lia) (fun _=>le_3)
  ·show (if ky c = some 34∨ky c = some 92 then runF noted true ky (.quo 34) ws (some (tok++[c])) r else runF noted true ky (.quo 34) ws (some (tok++[92])) (c::r)) = runF noted true ky (.quo 34) ws (some ((if (([39,34]:List Nat).contains 34 && (!decide (c = 92) && !decide (c = 34))) = true then tok++[92] else tok)++[c])) r
   by_cases h1:c = 34
   ·subst h1; rfl
   ·by_cases h2:c = 92
    ·subst h2; rfl
    ·rw [if_neg (fun z=>z.elim (fun e=>h1 (Option.some.inj e)) (fun e=>h2 (Option.some.inj e))),zfk,if_neg (fun e=>h1 (Option.some.inj e)),if_neg (fun e=>h2 (Option.some.inj e.1)),if_pos (by rw [decide_eq_false h1,decide_eq_false h2]; rfl)]
     rfl
theorem stp_ok (hcom:∀ c,com.contains c = (decide (c = 35) && noted)) (hwc:wc.contains 39 = false∧wc.contains 34 = false) (st:LSt) (esc:Nat) (qd:Bool) (tok l:List Nat) (I:LInv shell st esc qd tok l):
  zs1 noted shell st esc tok l (zca com wc shell st esc qd tok l):=by
 cases st with
 | non=>
   obtain ⟨rfl,rfl⟩:=I
   exact ⟨.inr ⟨rfl,rfl⟩,.inr (Nat.le_refl _),(fun ⟨_,e,_⟩=>nomatch e),Nat.zero_le _,fun ws=>by cases shell <;> rfl⟩
 | sp=>
   obtain ⟨rfl,rfl⟩:=I
   cases l with
   | nil=>exact ⟨.inr ⟨rfl,rfl⟩,.inr (Nat.le_refl _),(fun _=>by cases shell <;> rfl),Nat.zero_le _,fun ws=>by unfold zg9; cases shell <;> exact congrArg some (List.append_nil ws)⟩
   | cons c r=>exact stp_sp hcom hwc
 | qu q=>
   cases l with
   | nil=>intro ws; rfl
   | cons c r=>exact stp_qu I.1
 | es=>
   obtain ⟨rfl,he⟩:=I
   cases l with
   | nil=>
     intro ws
     rcases he with rfl | ⟨rfl,_⟩
     ·exact z63 ws (some tok)
     ·exact (zfk (noted:=noted) (shell:=true) (key:=ky) 34 ws (some tok) 92 []).trans ((if_neg (fun z=>absurd z (by decide))).trans (if_pos ⟨rfl,rfl,rfl⟩))
   | cons c r=>exact stp_es he
 | wd=>
   have I:tok≠[]∨(shell = true∧qd = true):=I
   cases l with
   | nil=>exact ⟨.inr ⟨rfl,rfl⟩,.inr (Nat.le_refl _),(fun ⟨_,e,_⟩=>nomatch e),Nat.le_succ _,fun ws=>(zxh (l:=[]) I ▸ congrArg some (List.append_nil (ws++[tok])).symm:some (ws++[tok]) = _)⟩
   | cons c r=>exact stp_wd hcom I
end
noncomputable def tlS:List Stmt→Nat→List Stmt
 | l,0=>l
 | _::r,n + 1=>tlS r n
 | [],_=>[]
noncomputable def zcc:Stmt:=nthS (zar zbe) 2
noncomputable def stV:LSt→V
 | .non=>.none
 | .sp=>.str [32]
 | .wd=>.str [97]
 | .qu q=>.str [q]
 | .es=>.str [92]
theorem zm8:stV .non = .none:=rfl
theorem zwi:stV .sp = .str [32]:=rfl
theorem zwh:stV .wd = .str [97]:=rfl
theorem zwk:stV .es = .str [92]:=rfl
theorem zwj (q:Nat):stV (.qu q) = .str [q]:=rfl
theorem zjf {K:Wd} {L:LK} {ln:Int} {tok:List Nat}:zbz (prg K) "state" 765 (lexF L (stV .non) ln tok) = some (.none):=rfl
theorem zoh {K:Wd} {L:LK} {ln:Int} {tok:List Nat}:zbz (prg K) "state" 765 (lexF L (stV .sp) ln tok) = some (.str [32]):=rfl
theorem zog {K:Wd} {L:LK} {ln:Int} {tok:List Nat}:zbz (prg K) "state" 765 (lexF L (stV .wd) ln tok) = some (.str [97]):=rfl
theorem zoj {K:Wd} {L:LK} {ln:Int} {tok:List Nat}:zbz (prg K) "state" 765 (lexF L (stV .es) ln tok) = some (.str [92]):=rfl
theorem zoi {K:Wd} {L:LK} {ln:Int} {tok:List Nat} (q:Nat):zbz (prg K) "state" 765 (lexF L (stV (.qu q)) ln tok) = some (.str [q]):=rfl
theorem in_new (H:Hp) (xs:List V) (l:List (List Nat)) {c:Nat} (h:strs? xs = some l):inV (H++[.tup xs]) (.str [c]) (.obj H.length) = some (l.contains [c]):=by
 show (z52 (H++[O.tup xs])[H.length]?).map (·.contains [c]) = _
 rw [List.getElem?_concat_length]
 show (strs? xs).map (·.contains [c]) = _
 rw [h]; rfl
structure Loc (m:Lo) (n:Nat) (qd:Bool) (esc:Nat):Prop where
 self:m "self" = some (.obj n)
 qd:m "quoted" = some (.bool qd)
 esc:m "escapedstate" = some (.str [esc])
structure Spot (H0:Hp) (m:Lo) (H:Hp) (n:Nat) (L:LK) (buf:List Nat) (st:LSt) (esc:Nat) (qd:Bool) (tok l:List Nat):Prop where
 lx:∃ ln pos,Lx H n L (stV st) ln tok buf pos∧pos≤buf.length∧buf.drop pos = l
 loc:Loc m n qd esc
 stay:Stay H0 H [n,L.k]
noncomputable def zbd (H0:Hp) (n:Nat) (L:LK) (buf:List Nat) (again:Lo→Hp→Prop) (S:Fl×Lo→Hp→Prop) (E:EK→Hp→Prop):LOut→Prop
 | .again st esc qd tok l=>∀ m' H',Spot H0 m' H' n L buf st esc qd tok l→again m' H'
 | .stop st qd tok l=>∀ m' H' esc,Spot H0 m' H' n L buf st esc qd tok l→S (.next,m') H'
 | .raise=>∀ H',Stay H0 H' [n,L.k]→E .val H'
section
variable {K:Wd} (G:Gl K)
include G
theorem rest_sp (d:Nat) {H0 H:Hp} {m:Lo} {n:Nat} {L:LK} {ln:Int} {tok buf:List Nat} {pos:Nat} {qd:Bool} {esc c:Nat} (X:Lx H n L (stV .sp) ln tok buf pos) (hp:pos≤buf.length) (hl:Loc m n qd esc) (hx:m "nextchar" = some (.str [c])) (hst:Stay H0 H [n,L.k])
  {S:Fl×Lo→Hp→Prop} {E:EK→Hp→Prop} {again:Lo→Hp→Prop} (hT:zbd H0 n L buf again S E (zca L.com L.wc L.posix .sp esc qd tok (c::buf.drop pos))):
  @WpI _ ⟨zep S again⟩ ⟨E⟩ (exs (prg K) (d + 2) zab m (tlS (zas zcc) 2)) H:=by
 obtain ⟨hs,hq,he⟩:=hl
 obtain ⟨m0,rfl⟩:=zc7 hs
 have A:=zam (P:=prg K) X.lex
 simp only [zca] at hT
 refine zaj rfl ?_
 have e1:(([32]:List Nat) == [32]) = true:=rfl
 open_k with [zaa,hx,↑A,e1,List.isEmpty_cons]
 have sp:∀ (m':Lo) (H':Hp) (ln':Int) (tok' l':List Nat) (st':LSt) (pos':Nat),Lx H' n L (stV st') ln' tok' buf pos'→pos'≤buf.length→buf.drop pos' = l'→Loc m' n qd esc→Stay H H' [n,L.k]→Spot H0 m' H' n L buf st' esc qd tok' l':=fun _ _ _ _ _ _ _ a b c d e=>⟨⟨_,_,a,b,c⟩,d,hst.trans e⟩
 refine ifI_split (fun h1=>?_) (fun h1=>?_)
 ·rw [if_pos h1] at hT
  open_k with [zaa,hx,hq,↑A]
  refine ifI_split (fun h2=>?_) (fun h2=>?_)
  ·rw [if_pos (by rw [h2]; rfl)] at hT
   open_k with [rfl_]
   exact hT _ _ esc (sp _ _ _ _ _ _ _ X hp rfl ⟨hs,hq,he⟩ (Stay.refl _ _))
  ·open_k with [zaa,hq,↑A]
   refine ifI_split (fun h3=>?_) (fun h3=>?_)
   ·open_k with [zaa,hq]
    refine ifI_split (fun h4=>?_) (fun h4=>?_)
    ·rw [if_pos (by rw [h2,h3,h4]; rfl)] at hT
     open_k with [rfl_]
     exact hT _ _ esc (sp _ _ _ _ _ _ _ X hp rfl ⟨hs,hq,he⟩ (Stay.refl _ _))
    ·rw [if_neg (by rw [h2,h3,h4]; exact Bool.false_ne_true)] at hT
     open_k with [rfl_]
     exact hT _ _ (sp _ _ _ _ _ _ _ X hp rfl ⟨hs,hq,he⟩ (Stay.refl _ _))
   ·rw [if_neg (by rw [h2,h3]; exact Bool.false_ne_true)] at hT
    open_k with [rfl_]
    exact hT _ _ (sp _ _ _ _ _ _ _ X hp rfl ⟨hs,hq,he⟩ (Stay.refl _ _))
 rw [if_neg (Bool.eq_false_iff.mp h1)] at hT
 open_k with [zaa,hx,↑A]
 refine ifI_split (fun h2=>?_) (fun h2=>?_)
 ·rw [if_pos h2] at hT
  open_k with [zaa,↑A,X.methSio]
  refine zj6 G d H X.sio hp _ E (fun v p' g1 g2 g3 H1 g4 g5=>?_)
  have X1:=X.stream g4 g5
  have A1:=zam (P:=prg K) X1.lex
  open_k with [zaa,↑A1]
  refine X1.setLn (ln + 1) (fun H2 X2 s2=>?_)
  open_k with [rfl_]
  exact hT _ _ (sp _ _ _ _ _ _ _ X2 g2 g3 ⟨hs,hq,he⟩ ((g5.sub (by simp)).trans s2))
 rw [if_neg (Bool.eq_false_iff.mp h2)] at hT
 open_k with [zaa,hx,↑A]
 have b92:([92]:List Nat).contains c = true→c = 92:=fun h=>List.mem_singleton.mp (List.contains_iff_mem.mp h)
 have bq:([39,34]:List Nat).contains c = true→True:=fun _=>trivial
 have pw:∀ (b:Bool),L.posix = b→(b && ([92]:List Nat).contains c) = false→∀ (Z:Prop),(zbd H0 n L buf again S E
  (if L.wc.contains c = true then LOut.again LSt.wd esc qd [c] (List.drop pos buf)
   else
    if ([39,34]:List Nat).contains c = true then
     if (!L.posix) = true then LOut.again (LSt.qu c) esc qd [c] (List.drop pos buf)
     else LOut.again (LSt.qu c) esc qd tok (List.drop pos buf)
    else LOut.again LSt.wd esc qd [c] (List.drop pos buf))→Z)→Z:=fun b e h Z k=>k (by rw [if_neg (by rw [e,h]; exact Bool.false_ne_true)] at hT; exact hT)
 have word:∀ (m':Lo),Loc m' n qd esc→m' "nextchar" = some (.str [c])→zbd H0 n L buf again S E (LOut.again LSt.wd esc qd [c] (List.drop pos buf))→∀ H' ln',Lx H' n L (.str [97]) ln' [c] buf pos→Stay H H' [n,L.k]→again m' H':=fun m' l1 l2 h H' ln' x s=>h _ _ (sp _ _ _ _ _ .wd _ x hp rfl l1 s)
 refine ifI_split (fun h3=>?_) (fun h3=>?_)
 ·open_k with [zaa,hx,↑A]
  refine ifI_split (fun h4=>?_) (fun h4=>?_)
  ·rw [if_pos (by rw [h3,h4]; rfl)] at hT
   have:=b92 h4
   subst this
   open_k with [zaa,hx]
   refine X.setState _ (fun H2 X2 s2=>?_)
   open_k with [rfl_]
   exact hT _ _ ⟨⟨_,_,X2,hp,rfl⟩,⟨(by kernel_rfl:_ = _).trans hs,(by kernel_rfl:_ = _).trans hq,by kernel_rfl⟩,hst.trans s2⟩
  ·refine pw _ h3 (by rw [h4]; rfl) _ (fun hT=>?_)
   open_k with [zaa,hx,↑A]
   refine ifI_split (fun h5=>?_) (fun h5=>?_)
   ·rw [if_pos h5] at hT
    open_k with [zaa,hx]
    refine X.setTok _ (fun H2 X2 s2=>?_)
    open_k with [zaa,hx]
    refine X2.setState _ (fun H3 X3 s3=>?_)
    open_k with [rfl_]
    exact word (upd m0 "self" (.obj n)) ⟨hs,hq,he⟩ hx hT H3 _ X3 (s2.trans s3)
   rw [if_neg (Bool.eq_false_iff.mp h5)] at hT
   open_k with [zaa,hx,↑A]
   refine zgl (d + 1) H X.lex _ _ ?_
   open_k with [zi1]
   refine ifI_split (fun h6=>?_) (fun h6=>?_)
   ·cases h6
   open_k with [zaa,hx,↑A]
   refine ifI_split (fun h7=>?_) (fun h7=>?_)
   ·rw [if_pos h7] at hT
    open_k with [zaa,hx,↑A,h3]
    rw [if_neg (by rw [h3]; exact Bool.false_ne_true)] at hT
    refine X.setState _ (fun H3 X3 s3=>?_)
    open_k with [rfl_]
    exact hT _ _ (sp _ _ _ _ _ (.qu c) _ X3 hp rfl ⟨hs,hq,he⟩ s3)
   rw [if_neg (Bool.eq_false_iff.mp h7)] at hT
   open_k with [zaa,hx,↑A]
   refine X.setTok _ (fun H2 X2 s2=>?_)
   open_k with [zaa,hx]
   refine X2.setState _ (fun H3 X3 s3=>?_)
   open_k with [rfl_]
   exact word (upd m0 "self" (.obj n)) ⟨hs,hq,he⟩ hx hT H3 _ X3 (s2.trans s3)
 ·refine pw _ h3 rfl _ (fun hT=>?_)
  open_k with [zaa,hx,↑A]
  refine ifI_split (fun h5=>?_) (fun h5=>?_)
  ·rw [if_pos h5] at hT
   open_k with [zaa,hx]
   refine X.setTok _ (fun H2 X2 s2=>?_)
   open_k with [zaa,hx]
   refine X2.setState _ (fun H3 X3 s3=>?_)
   open_k with [rfl_]
   exact word (upd m0 "self" (.obj n)) ⟨hs,hq,he⟩ hx hT H3 _ X3 (s2.trans s3)
  rw [if_neg (Bool.eq_false_iff.mp h5)] at hT
  open_k with [zaa,hx,↑A]
  refine zgl (d + 1) H X.lex _ _ ?_
  open_k with [zi1]
  refine ifI_split (fun h6=>?_) (fun h6=>?_)
  ·cases h6
  open_k with [zaa,hx,↑A]
  refine ifI_split (fun h7=>?_) (fun h7=>?_)
  ·rw [if_pos h7] at hT
   open_k with [zaa,hx,↑A,h3]
   rw [if_pos (by rw [h3]; rfl)] at hT
   refine X.setTok _ (fun H2 X2 s2=>?_)
   open_k with [zaa,hx]
   refine X2.setState _ (fun H3 X3 s3=>?_)
   open_k with [rfl_]
   exact hT _ _ (sp _ _ _ _ _ (.qu c) _ X3 hp rfl ⟨hs,hq,he⟩ (s2.trans s3))
  rw [if_neg (Bool.eq_false_iff.mp h7)] at hT
  open_k with [zaa,hx,↑A]
  refine X.setTok _ (fun H2 X2 s2=>?_)
  open_k with [zaa,hx]
  refine X2.setState _ (fun H3 X3 s3=>?_)
  open_k with [rfl_]
  exact word (upd m0 "self" (.obj n)) ⟨hs,hq,he⟩ hx hT H3 _ X3 (s2.trans s3)
theorem z6c (d:Nat) {H0 H:Hp} {m:Lo} {n:Nat} {L:LK} {ln:Int} {tok buf:List Nat} {pos:Nat} {qd:Bool} {esc:Nat} (X:Lx H n L (stV .sp) ln tok buf pos) (hp:pos≤buf.length) (hl:Loc m n qd esc) (hx:m "nextchar" = some (.str [])) (hst:Stay H0 H [n,L.k]) (hd:buf.drop pos = [])
  {S:Fl×Lo→Hp→Prop} {E:EK→Hp→Prop} {again:Lo→Hp→Prop} (hT:zbd H0 n L buf again S E (zca L.com L.wc L.posix .sp esc qd tok [])):
  @WpI _ ⟨zep S again⟩ ⟨E⟩ (exs (prg K) (d + 2) zab m (tlS (zas zcc) 2)) H:=by
 obtain ⟨hs,hq,he⟩:=hl
 obtain ⟨m0,rfl⟩:=zc7 hs
 have A:=zam (P:=prg K) X.lex
 simp only [zca] at hT
 have sp:∀ (m':Lo) (H':Hp) (ln':Int) (tok' l':List Nat) (st':LSt) (pos':Nat),Lx H' n L (stV st') ln' tok' buf pos'→pos'≤buf.length→buf.drop pos' = l'→Loc m' n qd esc→Stay H H' [n,L.k]→Spot H0 m' H' n L buf st' esc qd tok' l':=fun _ _ _ _ _ _ _ a b c d e=>⟨⟨_,_,a,b,c⟩,d,hst.trans e⟩
 refine zaj rfl ?_
 have e1:(([32]:List Nat) == [32]) = true:=rfl
 open_k with [zaa,hx,↑A,e1,List.isEmpty_nil]
 refine X.setState _ (fun H3 X3 s3=>?_)
 open_k with [rfl_]
 exact hT _ _ esc (sp _ _ _ _ _ .non _ X3 hp hd ⟨hs,hq,he⟩ s3)
theorem z6e (d:Nat) {H0 H:Hp} {m:Lo} {n:Nat} {L:LK} {ln:Int} {tok buf:List Nat} {pos:Nat} {qd:Bool} {esc:Nat} (X:Lx H n L (stV .non) ln tok buf pos) (hp:pos≤buf.length) (hl:Loc m n qd esc) (hx:m "nextchar" = some (.str [])) (hst:Stay H0 H [n,L.k]) (hd:buf.drop pos = [])
  {S:Fl×Lo→Hp→Prop} {E:EK→Hp→Prop} {again:Lo→Hp→Prop} (hT:zbd H0 n L buf again S E (zca L.com L.wc L.posix .non esc qd tok [])):
  @WpI _ ⟨zep S again⟩ ⟨E⟩ (exs (prg K) (d + 2) zab m (tlS (zas zcc) 2)) H:=by
 obtain ⟨hs,hq,he⟩:=hl
 obtain ⟨m0,rfl⟩:=zc7 hs
 have A:=zam (P:=prg K) X.lex
 simp only [zca] at hT
 have sp:∀ (m':Lo) (H':Hp) (ln':Int) (tok' l':List Nat) (st':LSt) (pos':Nat),Lx H' n L (stV st') ln' tok' buf pos'→pos'≤buf.length→buf.drop pos' = l'→Loc m' n qd esc→Stay H H' [n,L.k]→Spot H0 m' H' n L buf st' esc qd tok' l':=fun _ _ _ _ _ _ _ a b c d e=>⟨⟨_,_,a,b,c⟩,d,hst.trans e⟩
 refine zaj rfl ?_
 open_k with [zaa,hx,↑A]
 refine X.setTok _ (fun H3 X3 s3=>?_)
 open_k with [rfl_]
 exact hT _ _ esc (sp _ _ _ _ _ .non _ X3 hp hd ⟨hs,hq,he⟩ s3)
theorem z6d (d:Nat) {H0 H:Hp} {m:Lo} {n:Nat} {L:LK} {ln:Int} {tok buf:List Nat} {pos:Nat} {qd:Bool} {esc q:Nat} (X:Lx H n L (stV (.qu q)) ln tok buf pos) (hp:pos≤buf.length) (hl:Loc m n qd esc) (hx:m "nextchar" = some (.str [])) (hst:Stay H0 H [n,L.k]) (hqq:q = 39∨q = 34)
  {S:Fl×Lo→Hp→Prop} {E:EK→Hp→Prop} {again:Lo→Hp→Prop} (hT:zbd H0 n L buf again S E (zca L.com L.wc L.posix (.qu q) esc qd tok [])):
  @WpI _ ⟨zep S again⟩ ⟨E⟩ (exs (prg K) (d + 2) zab m (tlS (zas zcc) 2)) H:=by
 obtain ⟨hs,hq,he⟩:=hl
 obtain ⟨m0,rfl⟩:=zc7 hs
 have A:=zam (P:=prg K) X.lex
 simp only [zca] at hT
 have sp:∀ (m':Lo) (H':Hp) (ln':Int) (tok' l':List Nat) (st':LSt) (pos':Nat),Lx H' n L (stV st') ln' tok' buf pos'→pos'≤buf.length→buf.drop pos' = l'→Loc m' n qd esc→Stay H H' [n,L.k]→Spot H0 m' H' n L buf st' esc qd tok' l':=fun _ _ _ _ _ _ _ a b c d e=>⟨⟨_,_,a,b,c⟩,d,hst.trans e⟩
 refine zaj rfl ?_
 have e1:(([q]:List Nat) == [32]) = false:=by rcases hqq with rfl | rfl <;> rfl
 have e2:([39,34]:List Nat).contains q = true:=by rcases hqq with rfl | rfl <;> rfl
 open_k with [zaa,hx,↑A,e1,e2,List.isEmpty_nil,zim]
 exact hT H hst
theorem z6f (d:Nat) {H0 H:Hp} {m:Lo} {n:Nat} {L:LK} {ln:Int} {tok buf:List Nat} {pos:Nat} {qd:Bool} {esc:Nat} (X:Lx H n L (stV .es) ln tok buf pos) (hp:pos≤buf.length) (hl:Loc m n qd esc) (hx:m "nextchar" = some (.str [])) (hst:Stay H0 H [n,L.k])
  {S:Fl×Lo→Hp→Prop} {E:EK→Hp→Prop} {again:Lo→Hp→Prop} (hT:zbd H0 n L buf again S E (zca L.com L.wc L.posix .es esc qd tok [])):
  @WpI _ ⟨zep S again⟩ ⟨E⟩ (exs (prg K) (d + 2) zab m (tlS (zas zcc) 2)) H:=by
 obtain ⟨hs,hq,he⟩:=hl
 obtain ⟨m0,rfl⟩:=zc7 hs
 have A:=zam (P:=prg K) X.lex
 simp only [zca] at hT
 have sp:∀ (m':Lo) (H':Hp) (ln':Int) (tok' l':List Nat) (st':LSt) (pos':Nat),Lx H' n L (stV st') ln' tok' buf pos'→pos'≤buf.length→buf.drop pos' = l'→Loc m' n qd esc→Stay H H' [n,L.k]→Spot H0 m' H' n L buf st' esc qd tok' l':=fun _ _ _ _ _ _ _ a b c d e=>⟨⟨_,_,a,b,c⟩,d,hst.trans e⟩
 refine zaj rfl ?_
 have e1:(([92]:List Nat) == [32]) = false:=rfl
 have e2:([39,34]:List Nat).contains 92 = false:=rfl
 have e3:([92]:List Nat).contains 92 = true:=rfl
 open_k with [zaa,hx,↑A,e1,e2,e3,List.isEmpty_nil,zim]
 exact hT H hst
theorem rest_qu (d:Nat) {H0 H:Hp} {m:Lo} {n:Nat} {L:LK} {ln:Int} {tok buf:List Nat} {pos:Nat} {qd:Bool} {esc q c:Nat} (X:Lx H n L (stV (.qu q)) ln tok buf pos) (hp:pos≤buf.length) (hl:Loc m n qd esc) (hx:m "nextchar" = some (.str [c])) (hst:Stay H0 H [n,L.k]) (hqq:q = 39∨q = 34) (htok:tok.length≤90000)
  {S:Fl×Lo→Hp→Prop} {E:EK→Hp→Prop} {again:Lo→Hp→Prop} (hT:zbd H0 n L buf again S E (zca L.com L.wc L.posix (.qu q) esc qd tok (c::buf.drop pos))):
  @WpI _ ⟨zep S again⟩ ⟨E⟩ (exs (prg K) (d + 2) zab m (tlS (zas zcc) 2)) H:=by
 obtain ⟨hs,hq,he⟩:=hl
 obtain ⟨m0,rfl⟩:=zc7 hs
 have A:=zam (P:=prg K) X.lex
 simp only [zca] at hT
 have sp:∀ (m':Lo) (H':Hp) (ln':Int) (tok' l':List Nat) (st':LSt) (pos':Nat),Lx H' n L (stV st') ln' tok' buf pos'→pos'≤buf.length→buf.drop pos' = l'→Loc m' n qd esc→Stay H H' [n,L.k]→Spot H0 m' H' n L buf st' esc qd tok' l':=fun _ _ _ _ _ _ _ a b c d e=>⟨⟨_,_,a,b,c⟩,d,hst.trans e⟩
 refine zaj rfl ?_
 have e1:(([q]:List Nat) == [32]) = false:=by rcases hqq with rfl | rfl <;> rfl
 have e2:([39,34]:List Nat).contains q = true:=by rcases hqq with rfl | rfl <;> rfl
 have cp:(tok.length + 1≤cap) = True:=eq_true ((Nat.lt_of_le_of_lt (by assumption) (by decide)))
 have spq:∀ (m':Lo) (H':Hp) (ln':Int) (tok' l':List Nat) (st':LSt) (pos' esc':Nat),Lx H' n L (stV st') ln' tok' buf pos'→pos'≤buf.length→buf.drop pos' = l'→Loc m' n true esc'→Stay H H' [n,L.k]→Spot H0 m' H' n L buf st' esc' true tok' l':=fun _ _ _ _ _ _ _ _ a b c d e=>⟨⟨_,_,a,b,c⟩,d,hst.trans e⟩
 have lq:Loc (upd (upd m0 "self" (.obj n)) "quoted" (.bool true)) n true esc:=⟨(by kernel_rfl:_ = _).trans hs,by kernel_rfl,(by kernel_rfl:_ = _).trans he⟩
 have addTok:(hT':zbd H0 n L buf again S E (LOut.again (.qu q) esc true (tok++[c]) (buf.drop pos)))→∀ H2 ln',Lx H2 n L (.str [q]) ln' (tok++[c]) buf pos→Stay H H2 [n,L.k]→again (upd (upd m0 "self" (.obj n)) "quoted" (.bool true)) H2:=fun hT' H2 ln' X2 s2=>hT' _ _ (spq _ _ _ _ _ (.qu q) _ _ X2 hp rfl lq s2)
 open_k with [zaa,hx,↑A,e1,e2,List.isEmpty_cons,eq1]
 refine zc0 (fun h1=>?_) (fun h1=>?_)
 ·subst h1
  rw [if_pos rfl] at hT
  open_k with [zaa,↑A]
  refine ifI_split (fun h2=>?_) (fun h2=>?_)
  ·rw [if_pos h2] at hT
   open_k with [zaa,hx,↑A,cp]
   refine X.setTok _ (fun H2 X2 s2=>?_)
   open_k with [zaa]
   refine X2.setState _ (fun H3 X3 s3=>?_)
   open_k with [rfl_]
   exact hT _ _ esc (spq _ _ _ _ _ .sp _ _ X3 hp rfl lq (s2.trans s3))
  ·rw [if_neg (Bool.eq_false_iff.mp h2)] at hT
   open_k with [zaa]
   refine X.setState _ (fun H3 X3 s3=>?_)
   open_k with [rfl_]
   exact hT _ _ (spq _ _ _ _ _ .wd _ _ X3 hp rfl lq s3)
 ·rw [if_neg h1] at hT
  open_k with [zaa,hx,↑A]
  refine ifI_split (fun h2=>?_) (fun h2=>?_)
  ·open_k with [zaa,hx,↑A]
   refine ifI_split (fun h3=>?_) (fun h3=>?_)
   ·open_k with [zaa,hx,↑A]
    refine ifI_split (fun h4=>?_) (fun h4=>?_)
    ·rw [if_pos (by rw [h2,h3,h4]; rfl)] at hT
     have hc:c = 92:=List.mem_singleton.mp (List.contains_iff_mem.mp h3)
     subst hc
     open_k with [zaa,hx,↑A]
     refine X.setState _ (fun H3 X3 s3=>?_)
     open_k with [rfl_]
     exact hT _ _ (spq _ _ _ _ _ .es _ _ X3 hp rfl ⟨(by kernel_rfl:_ = _).trans hs,by kernel_rfl,by kernel_rfl⟩ s3)
    ·rw [if_neg (by rw [h2,h3,h4]; exact Bool.false_ne_true)] at hT
     open_k with [zaa,hx,↑A,cp]
     refine X.setTok _ (fun H2 X2 s2=>?_)
     open_k with [rfl_]
     exact addTok hT _ _ X2 s2
   ·rw [if_neg (by rw [h2,h3]; exact Bool.false_ne_true)] at hT
    open_k with [zaa,hx,↑A,cp]
    refine X.setTok _ (fun H2 X2 s2=>?_)
    open_k with [rfl_]
    exact addTok hT _ _ X2 s2
  ·rw [if_neg (by rw [h2]; exact Bool.false_ne_true)] at hT
   open_k with [zaa,hx,↑A,cp]
   refine X.setTok _ (fun H2 X2 s2=>?_)
   open_k with [rfl_]
   exact addTok hT _ _ X2 s2
theorem rest_es (d:Nat) {H0 H:Hp} {m:Lo} {n:Nat} {L:LK} {ln:Int} {tok buf:List Nat} {pos:Nat} {qd:Bool} {esc c:Nat} (X:Lx H n L (stV .es) ln tok buf pos) (hp:pos≤buf.length) (hl:Loc m n qd esc) (hx:m "nextchar" = some (.str [c])) (hst:Stay H0 H [n,L.k]) (hee:esc = 97∨esc = 34) (htok:tok.length≤90000)
  {S:Fl×Lo→Hp→Prop} {E:EK→Hp→Prop} {again:Lo→Hp→Prop} (hT:zbd H0 n L buf again S E (zca L.com L.wc L.posix .es esc qd tok (c::buf.drop pos))):
  @WpI _ ⟨zep S again⟩ ⟨E⟩ (exs (prg K) (d + 2) zab m (tlS (zas zcc) 2)) H:=by
 obtain ⟨hs,hq,he⟩:=hl
 obtain ⟨m0,rfl⟩:=zc7 hs
 have A:=zam (P:=prg K) X.lex
 simp only [zca] at hT
 have sp:∀ (m':Lo) (H':Hp) (ln':Int) (tok' l':List Nat) (st':LSt) (pos':Nat),Lx H' n L (stV st') ln' tok' buf pos'→pos'≤buf.length→buf.drop pos' = l'→Loc m' n qd esc→Stay H H' [n,L.k]→Spot H0 m' H' n L buf st' esc qd tok' l':=fun _ _ _ _ _ _ _ a b c d e=>⟨⟨_,_,a,b,c⟩,d,hst.trans e⟩
 refine zaj rfl ?_
 have e1:(([92]:List Nat) == [32]) = false:=rfl
 have e2:([39,34]:List Nat).contains 92 = false:=rfl
 have e3:([92]:List Nat).contains 92 = true:=rfl
 have cp:(tok.length + 1≤cap) = True:=eq_true ((Nat.lt_of_le_of_lt (by assumption) (by decide)))
 have cp2:((tok++[92]).length + 1≤cap) = True:=eq_true (by simp only [cap,List.length_append,List.length_singleton]; lia)
 have hv:V.str [esc] = stV (ofEsc esc):=by rcases hee with rfl | rfl <;> rfl
 have fin:∀ t',(if ([39,34]:List Nat).contains esc && (!decide (c = 92) && !decide (c = esc)) then tok++[92] else tok) = t'→∀ H2 ln',Lx H2 n L (.str [esc]) ln' (t'++[c]) buf pos→Stay H H2 [n,L.k]→again (upd m0 "self" (.obj n)) H2:=fun t' ht H2 ln' X2 s2=>by
  rw [ht] at hT
  exact hT _ _ (sp _ _ _ _ _ (ofEsc esc) _ (by rw [← hv]; exact X2) hp rfl ⟨hs,hq,he⟩ s2)
 open_k with [zaa,hx,he,↑A,e1,e2,e3,List.isEmpty_cons,eq1]
 refine ifI_split (fun h1=>?_) (fun h1=>?_)
 ·open_k with [zaa,hx,he,↑A,eq1]
  refine ifI_split (fun h2=>?_) (fun h2=>?_)
  ·open_k with [zaa,hx,he,↑A,eq1]
   refine ifI_split (fun h3=>?_) (fun h3=>?_)
   ·open_k with [zaa,hx,he,↑A,cp]
    refine X.setTok _ (fun H2 X2 s2=>?_)
    have A2:=zam (P:=prg K) X2.lex
    open_k with [zaa,hx,he,↑A2,cp2]
    refine X2.setTok _ (fun H3 X3 s3=>?_)
    open_k with [zaa,he]
    refine X3.setState _ (fun H4 X4 s4=>?_)
    open_k with [rfl_]
    exact fin (tok++[92]) (by rw [if_pos (by rw [h1,h2,h3]; rfl)]) _ _ X4 (s2.trans (s3.trans s4))
   ·open_k with [zaa,hx,he,↑A,cp]
    refine X.setTok _ (fun H3 X3 s3=>?_)
    open_k with [zaa,he]
    refine X3.setState _ (fun H4 X4 s4=>?_)
    open_k with [rfl_]
    exact fin tok (by rw [if_neg (by rw [h1,h2,h3]; exact Bool.false_ne_true)]) _ _ X4 (s3.trans s4)
  ·open_k with [zaa,hx,he,↑A,cp]
   refine X.setTok _ (fun H3 X3 s3=>?_)
   open_k with [zaa,he]
   refine X3.setState _ (fun H4 X4 s4=>?_)
   open_k with [rfl_]
   exact fin tok (by rw [if_neg (by rw [h1,h2]; exact Bool.false_ne_true)]) _ _ X4 (s3.trans s4)
 ·open_k with [zaa,hx,he,↑A,cp]
  refine X.setTok _ (fun H3 X3 s3=>?_)
  open_k with [zaa,he]
  refine X3.setState _ (fun H4 X4 s4=>?_)
  open_k with [rfl_]
  exact fin tok (by rw [if_neg (by rw [h1]; exact Bool.false_ne_true)]) _ _ X4 (s3.trans s4)
theorem z6b (d:Nat) {H0 H:Hp} {m:Lo} {n:Nat} {L:LK} {ln:Int} {tok buf:List Nat} {pos:Nat} {qd:Bool} {esc:Nat} (X:Lx H n L (stV .wd) ln tok buf pos) (hp:pos≤buf.length) (hl:Loc m n qd esc) (hx:m "nextchar" = some (.str [])) (hst:Stay H0 H [n,L.k]) (hd:buf.drop pos = [])
  {S:Fl×Lo→Hp→Prop} {E:EK→Hp→Prop} {again:Lo→Hp→Prop} (hT:zbd H0 n L buf again S E (zca L.com L.wc L.posix .wd esc qd tok [])):
  @WpI _ ⟨zep S again⟩ ⟨E⟩ (exs (prg K) (d + 2) zab m (tlS (zas zcc) 2)) H:=by
 obtain ⟨hs,hq,he⟩:=hl
 obtain ⟨m0,rfl⟩:=zc7 hs
 have A:=zam (P:=prg K) X.lex
 simp only [zca] at hT
 have sp:∀ (m':Lo) (H':Hp) (ln':Int) (tok' l':List Nat) (st':LSt) (pos':Nat),Lx H' n L (stV st') ln' tok' buf pos'→pos'≤buf.length→buf.drop pos' = l'→Loc m' n qd esc→Stay H H' [n,L.k]→Spot H0 m' H' n L buf st' esc qd tok' l':=fun _ _ _ _ _ _ _ a b c d e=>⟨⟨_,_,a,b,c⟩,d,hst.trans e⟩
 refine zaj rfl ?_
 have e1:(([97]:List Nat) == [32]) = false:=rfl
 have e2:([39,34]:List Nat).contains 97 = false:=rfl
 have e3:([92]:List Nat).contains 97 = false:=rfl
 have e4:([[97],[99]]:List (List Nat)).contains [97] = true:=rfl
 have e5:strs? [.str [97],.str [99]] = some [[97],[99]]:=rfl
 have e6:(([97]:List Nat) == [99]) = false:=rfl
 have c2:(2 < cap) = True:=eq_true (by decide)
 have X1:=X.grow [O.tup [.str [97],.str [99]]]
 have s1:Stay H (H++[O.tup [.str [97],.str [99]]]) [n,L.k]:=Stay.grow _ _
 have it:inV (H++[O.tup [.str [97],.str [99]]]) (.str [97]) (.obj H.length) = some true:=by
  exact in_new _ _ _ e5
 open_k with [zaa,hx,↑A,e1,e2,e3,c2,it,List.isEmpty_nil]
 refine X1.setState _ (fun H3 X3 s3=>?_)
 open_k with [rfl_]
 exact hT _ _ esc (sp _ _ _ _ _ .non _ X3 hp hd ⟨hs,hq,he⟩ (s1.trans s3))
theorem rest_wd (d:Nat) {H0 H:Hp} {m:Lo} {n:Nat} {L:LK} {ln:Int} {tok buf:List Nat} {pos:Nat} {qd:Bool} {esc c:Nat} (X:Lx H n L (stV .wd) ln tok buf pos) (hp:pos≤buf.length) (hl:Loc m n qd esc) (hx:m "nextchar" = some (.str [c])) (hst:Stay H0 H [n,L.k]) (htok:tok.length≤90000)
  {S:Fl×Lo→Hp→Prop} {E:EK→Hp→Prop} {again:Lo→Hp→Prop} (hT:zbd H0 n L buf again S E (zca L.com L.wc L.posix .wd esc qd tok (c::buf.drop pos))):
  @WpI _ ⟨zep S again⟩ ⟨E⟩ (exs (prg K) (d + 2) zab m (tlS (zas zcc) 2)) H:=by
 obtain ⟨hs,hq,he⟩:=hl
 obtain ⟨m0,rfl⟩:=zc7 hs
 have A:=zam (P:=prg K) X.lex
 simp only [zca] at hT
 have sp:∀ (m':Lo) (H':Hp) (ln':Int) (tok' l':List Nat) (st':LSt) (pos':Nat),Lx H' n L (stV st') ln' tok' buf pos'→pos'≤buf.length→buf.drop pos' = l'→Loc m' n qd esc→Stay H H' [n,L.k]→Spot H0 m' H' n L buf st' esc qd tok' l':=fun _ _ _ _ _ _ _ a b c d e=>⟨⟨_,_,a,b,c⟩,d,hst.trans e⟩
 refine zaj rfl ?_
 have e1:(([97]:List Nat) == [32]) = false:=rfl
 have e2:([39,34]:List Nat).contains 97 = false:=rfl
 have e3:([92]:List Nat).contains 97 = false:=rfl
 have e4:([[97],[99]]:List (List Nat)).contains [97] = true:=rfl
 have e5:strs? [.str [97],.str [99]] = some [[97],[99]]:=rfl
 have e6:(([97]:List Nat) == [99]) = false:=rfl
 have c2:(2 < cap) = True:=eq_true (by decide)
 have X1:=X.grow [O.tup [.str [97],.str [99]]]
 have s1:Stay H (H++[O.tup [.str [97],.str [99]]]) [n,L.k]:=Stay.grow _ _
 have it:inV (H++[O.tup [.str [97],.str [99]]]) (.str [97]) (.obj H.length) = some true:=by
  exact in_new _ _ _ e5
 have cp:(tok.length + 1≤cap) = True:=eq_true ((Nat.lt_of_le_of_lt (by assumption) (by decide)))
 have A1:=zam (P:=prg K) X1.lex
 open_k with [zaa,hx,↑A,↑A1,e1,e2,e3,c2,it,List.isEmpty_cons]
 generalize H++[O.tup [.str [97],.str [99]]] = H1 at X1 s1 it A1
 clear A it
 refine ifI_split (fun h1=>?_) (fun h1=>?_)
 ·rw [if_pos h1] at hT
  open_k with [zaa,hx,hq,↑A1]
  refine X1.setState _ (fun H2 X2 s2=>?_)
  have A2:=zam (P:=prg K) X2.lex
  have X2':Lx H2 n L (stV .sp) ln tok buf pos:=X2
  open_k with [zaa,hx,hq,↑A2]
  refine ifI_split (fun h2=>?_) (fun h2=>?_)
  ·rw [if_pos (by rw [h2]; rfl)] at hT
   open_k with [rfl_]
   exact hT _ _ esc (sp _ _ _ _ _ .sp _ X2' hp rfl ⟨hs,hq,he⟩ (s1.trans s2))
  ·open_k with [zaa,hq,↑A2]
   refine ifI_split (fun h3=>?_) (fun h3=>?_)
   ·open_k with [zaa,hq]
    refine ifI_split (fun h4=>?_) (fun h4=>?_)
    ·rw [if_pos (by rw [h2,h3,h4]; rfl)] at hT
     open_k with [rfl_]
     exact hT _ _ esc (sp _ _ _ _ _ .sp _ X2' hp rfl ⟨hs,hq,he⟩ (s1.trans s2))
    ·rw [if_neg (by rw [h2,h3,h4]; exact Bool.false_ne_true)] at hT
     open_k with [rfl_]
     exact hT _ _ (sp _ _ _ _ _ .sp _ X2' hp rfl ⟨hs,hq,he⟩ (s1.trans s2))
   ·rw [if_neg (by rw [h2,h3]; exact Bool.false_ne_true)] at hT
    open_k with [rfl_]
    exact hT _ _ (sp _ _ _ _ _ .sp _ X2' hp rfl ⟨hs,hq,he⟩ (s1.trans s2))
 rw [if_neg (Bool.eq_false_iff.mp h1)] at hT
 open_k with [zaa,hx,↑A1]
 refine ifI_split (fun h2=>?_) (fun h2=>?_)
 ·rw [if_pos h2] at hT
  open_k with [zaa,↑A1,X1.methSio]
  refine zj6 G d H1 X1.sio hp _ E (fun v p' g1 g2 g3 H2 g4 g5=>?_)
  have X2:=X1.stream g4 g5
  have A2:=zam (P:=prg K) X2.lex
  open_k with [zaa,↑A2]
  refine X2.setLn (ln + 1) (fun H3 X3 s3=>?_)
  have A3:=zam (P:=prg K) X3.lex
  have s3':Stay H H3 [n,L.k]:=s1.trans ((g5.sub (by simp)).trans s3)
  open_k with [zaa,↑A3]
  refine ifI_split (fun h3=>?_) (fun h3=>?_)
  ·rw [if_pos h3] at hT
   open_k with [zaa,↑A3]
   refine X3.setState _ (fun H4 X4 s4=>?_)
   have A4:=zam (P:=prg K) X4.lex
   have X4':Lx H4 n L (stV .sp) (ln + 1) tok buf p':=X4
   open_k with [zaa,hx,hq,↑A4]
   refine ifI_split (fun h4=>?_) (fun h4=>?_)
   ·rw [if_pos (by rw [h4]; rfl)] at hT
    open_k with [rfl_]
    exact hT _ _ esc (sp _ _ _ _ _ .sp _ X4' g2 g3 ⟨hs,hq,he⟩ (s3'.trans s4))
   ·open_k with [zaa,hq,↑A4,h3]
    refine ifI_split (fun h5=>?_) (fun h5=>?_)
    ·rw [if_pos (by rw [h4,h3,h5]; rfl)] at hT
     open_k with [rfl_]
     exact hT _ _ esc (sp _ _ _ _ _ .sp _ X4' g2 g3 ⟨hs,hq,he⟩ (s3'.trans s4))
    ·rw [if_neg (by rw [h4,h3,h5]; exact Bool.false_ne_true)] at hT
     open_k with [rfl_]
     exact hT _ _ (sp _ _ _ _ _ .sp _ X4' g2 g3 ⟨hs,hq,he⟩ (s3'.trans s4))
  ·rw [if_neg (Bool.eq_false_iff.mp h3)] at hT
   open_k with [rfl_]
   exact hT _ _ (sp _ _ _ _ _ .wd _ X3 g2 g3 ⟨hs,hq,he⟩ s3')
 rw [if_neg (Bool.eq_false_iff.mp h2)] at hT
 open_k with [zaa,hx,↑A1,e6]
 have app:zbd H0 n L buf again S E (LOut.again .wd esc qd (tok++[c]) (buf.drop pos))→∀ H2,Lx H2 n L (.str [97]) ln (tok++[c]) buf pos→Stay H1 H2 [n,L.k]→again (upd m0 "self" (.obj n)) H2:=fun hT' H2 X2 s2=>hT' _ _ (sp _ _ _ _ _ .wd _ X2 hp rfl ⟨hs,hq,he⟩ (s1.trans s2))
 have lastQ:∀ (b:Bool),([39,34]:List Nat).contains c = b→(b = true→L.posix = false)→True:=fun _ _ _=>trivial
 refine ifI_split (fun h3=>?_) (fun h3=>?_)
 ·open_k with [zaa,hx,↑A1]
  refine ifI_split (fun h4=>?_) (fun h4=>?_)
  ·rw [if_pos (by rw [h3,h4]; rfl)] at hT
   open_k with [zaa,hx,↑A1]
   refine X1.setState _ (fun H2 X2 s2=>?_)
   open_k with [rfl_]
   exact hT _ _ (sp _ _ _ _ _ (.qu c) _ X2 hp rfl ⟨hs,hq,he⟩ (s1.trans s2))
  rw [if_neg (by rw [h3,h4]; exact Bool.false_ne_true)] at hT
  open_k with [zaa,hx,↑A1,h3]
  refine ifI_split (fun h5=>?_) (fun h5=>?_)
  ·rw [if_pos (by rw [h3,h5]; rfl)] at hT
   have hc:c = 92:=List.mem_singleton.mp (List.contains_iff_mem.mp h5)
   subst hc
   open_k with [zaa,hx,↑A1]
   refine X1.setState _ (fun H2 X2 s2=>?_)
   open_k with [rfl_]
   exact hT _ _ ⟨⟨_,_,X2,hp,rfl⟩,⟨(by kernel_rfl:_ = _).trans hs,(by kernel_rfl:_ = _).trans hq,by kernel_rfl⟩,hst.trans (s1.trans s2)⟩
  rw [if_neg (by rw [h3,h5]; exact Bool.false_ne_true)] at hT
  open_k with [zaa,hx,↑A1]
  refine ifI_split (fun h6=>?_) (fun h6=>?_)
  ·open_k with [zaa,hx,↑A1,cp]
   refine X1.setTok _ (fun H2 X2 s2=>?_)
   open_k with [rfl_]
   exact app hT _ X2 s2
  open_k with [zaa,hx,↑A1]
  refine ifI_split (fun h7=>?_) (fun h7=>?_)
  ·open_k with [zaa,hx,↑A1,cp]
   refine X1.setTok _ (fun H2 X2 s2=>?_)
   open_k with [rfl_]
   exact app hT _ X2 s2
  open_k with [zaa,hx,↑A1]
  refine zgl (d + 1) H1 X1.lex _ _ ?_
  open_k with [zi1,List.contains_nil]
  open_k with [zaa,hx,↑A1,cp]
  refine X1.setTok _ (fun H2 X2 s2=>?_)
  open_k with [rfl_]
  exact app hT _ X2 s2
 ·rw [if_neg (by rw [h3]; exact Bool.false_ne_true),if_neg (by rw [h3]; exact Bool.false_ne_true)] at hT
  open_k with [zaa,hx,↑A1,h3]
  refine ifI_split (fun h6=>?_) (fun h6=>?_)
  ·open_k with [zaa,hx,↑A1,cp]
   refine X1.setTok _ (fun H2 X2 s2=>?_)
   open_k with [rfl_]
   exact app hT _ X2 s2
  open_k with [zaa,hx,↑A1]
  refine ifI_split (fun h7=>?_) (fun h7=>?_)
  ·open_k with [zaa,hx,↑A1,cp]
   refine X1.setTok _ (fun H2 X2 s2=>?_)
   open_k with [rfl_]
   exact app hT _ X2 s2
  open_k with [zaa,hx,↑A1]
  refine zgl (d + 1) H1 X1.lex _ _ ?_
  open_k with [zi1,List.contains_nil]
  open_k with [zaa,hx,↑A1,cp]
  refine X1.setTok _ (fun H2 X2 s2=>?_)
  open_k with [rfl_]
  exact app hT _ X2 s2
end
theorem Spot.start {H0 H:Hp} {m:Lo} {n:Nat} {L:LK} {buf:List Nat} {st:LSt} {esc:Nat} {qd:Bool} {tok l:List Nat} (X:Spot H0 m H n L buf st esc qd tok l) {H1:Hp} {again:Lo→Hp→Prop} {S:Fl×Lo→Hp→Prop} {E:EK→Hp→Prop} {o:LOut}
  (h:zbd H0 n L buf again S E o) (s:Stay H H1 [n,L.k]):zbd H1 n L buf again S E o:=by
 have t:Stay H0 H1 [n,L.k]:=X.stay.trans s
 cases o with
 | again st esc qd tok l=>exact fun m' H' x=>h m' H' ⟨x.lx,x.loc,t.trans x.stay⟩
 | stop st qd tok l=>exact fun m' H' e x=>h m' H' e ⟨x.lx,x.loc,t.trans x.stay⟩
 | raise=>exact fun H' x=>h H' (t.trans x)
section
variable {K:Wd} (G:Gl K)
include G
theorem znf (d:Nat) {H:Hp} {m:Lo} {n:Nat} {L:LK} {ln:Int} {tok buf:List Nat} {pos:Nat} {qd:Bool} {esc:Nat} {st:LSt} {x l:List Nat} (X:Lx H n L (stV st) ln tok buf pos) (hp:pos≤buf.length) (hl:Loc m n qd esc) (hx:m "nextchar" = some (.str x))
  (hlx:(x = []∧l = []∧buf.drop pos = [])∨∃ c,x = [c]∧l = c::buf.drop pos) (I:LInv L.posix st esc qd tok l) (htok:tok.length≤90000)
  {S:Fl×Lo→Hp→Prop} {E:EK→Hp→Prop} {again:Lo→Hp→Prop} (hT:zbd H n L buf again S E (zca L.com L.wc L.posix st esc qd tok l)):
  @WpI _ ⟨zep S again⟩ ⟨E⟩ (exs (prg K) (d + 2) zab m (tlS (zas zcc) 2)) H:=by
 have hst:=Stay.refl H [n,L.k]
 rcases hlx with ⟨rfl,rfl,hd⟩ | ⟨c,rfl,rfl⟩
 ·cases st with
  | non=>exact z6e G d X hp hl hx hst hd hT
  | sp=>exact z6c G d X hp hl hx hst hd hT
  | wd=>exact z6b G d X hp hl hx hst hd hT
  | qu q=>exact z6d G d X hp hl hx hst I.1 hT
  | es=>exact z6f G d X hp hl hx hst hT
 ·cases st with
  | non=>obtain ⟨_,h⟩:=I; cases h
  | sp=>exact rest_sp G d X hp hl hx hst hT
  | wd=>exact rest_wd G d X hp hl hx hst htok hT
  | qu q=>exact rest_qu G d X hp hl hx hst I.1 htok hT
  | es=>exact rest_es G d X hp hl hx hst (I.2.imp id (·.1)) htok hT
theorem turn_ok (d:Nat) {H0 H:Hp} {m:Lo} {n:Nat} {L:LK} {buf tok l:List Nat} {qd:Bool} {esc:Nat} {st:LSt} (X:Spot H0 m H n L buf st esc qd tok l) (I:LInv L.posix st esc qd tok l) (htok:tok.length≤90000)
  {S:Fl×Lo→Hp→Prop} {E:EK→Hp→Prop} {again:Lo→Hp→Prop} (hT:zbd H0 n L buf again S E (zca L.com L.wc L.posix st esc qd tok l)):
  @WpI _ ⟨zep S again⟩ ⟨E⟩ (exs (prg K) (d + 2) zab m (zas zcc)) H:=by
 obtain ⟨ln,pos,Y,hp,hd⟩:=X.lx
 obtain ⟨hs,hq,he⟩:=X.loc
 obtain ⟨m0,rfl⟩:=zc7 hs
 have A:=zam (P:=prg K) Y.lex
 refine zpp (s1:=_) (s2:=_) (r:=tlS (zas zcc) 2) rfl (fun F hF=>?_)
 open_k with [zaa,↑A]
 refine zgl (d + 1) H Y.lex _ _ ?_
 open_k with [zi1,List.isEmpty_nil,zaa,↑A,Y.methSio]
 refine read_ok G d H Y.sio _ E (fun h0=>?_) (fun c r h0 H1 k1 s1=>?_)
 ·have e0:(([]:List Nat) == [10]) = false:=rfl
  open_k with [zaa,e0]
  subst hF
  exact znf G d (x:=[]) Y hp ⟨(by kernel_rfl:_ = _).trans hs,(by kernel_rfl:_ = _).trans hq,(by kernel_rfl:_ = _).trans he⟩ (by kernel_rfl) (.inl ⟨rfl,hd.symm.trans h0,h0⟩) I htok (X.start hT (Stay.refl _ _))
 ·have Y1:=Y.stream k1 s1
  have hlt:pos < buf.length:=by
   have:=congrArg List.length h0
   simp at this; lia
  have hr:buf.drop (pos + 1) = r:=by rw [← List.drop_drop,h0]; rfl
  have hl:l = c::buf.drop (pos + 1):=by rw [hr,← h0,hd]
  have A1:=zam (P:=prg K) Y1.lex
  open_k with [zaa,eq1]
  refine zc0 (fun hc=>?_) (fun hc=>?_)
  ·open_k with [zaa,↑A1]
   refine Y1.setLn (ln + 1) (fun H2 Y2 s2=>?_)
   open_k with [rfl_]
   subst hF
   exact znf G d (x:=[c]) Y2 hlt ⟨(by kernel_rfl:_ = _).trans hs,(by kernel_rfl:_ = _).trans hq,(by kernel_rfl:_ = _).trans he⟩ (by kernel_rfl) (.inr ⟨c,rfl,hl⟩) I htok (X.start hT ((s1.sub (by simp)).trans s2))
  ·open_k with [rfl_]
   subst hF
   exact znf G d (x:=[c]) Y1 hlt ⟨(by kernel_rfl:_ = _).trans hs,(by kernel_rfl:_ = _).trans hq,(by kernel_rfl:_ = _).trans he⟩ (by kernel_rfl) (.inr ⟨c,rfl,hl⟩) I htok (X.start hT (s1.sub (by simp)))
noncomputable def LoopEnd (noted:Bool) (H0:Hp) (n:Nat) (L:LK) (buf:List Nat) (st:LSt) (esc:Nat) (tok l:List Nat) (S:Fl×Lo→Hp→Prop) (E:EK→Hp→Prop):Prop:=
 (∀ st' qd' tok' l' m' H' esc',(st' = .sp∨(st' = .non∧l' = []))→l'.length≤l.length→(isEof L.posix qd' tok' = false→st = .sp→l'.length < l.length)→tok'.length≤tok.length + 2 * l.length + 2→(∀ ws,cont noted L.posix st esc tok l ws = zg9 noted L.posix qd' tok' l' ws)→
  Spot H0 m' H' n L buf st' esc' qd' tok' l'→S (.next,m') H')∧
 ((∀ ws,cont noted L.posix st esc tok l ws = none)→∀ H',Stay H0 H' [n,L.k]→E .val H')
theorem loop_ok (d:Nat) {noted:Bool} {H0:Hp} {n:Nat} {L:LK} {buf:List Nat} (hcom:∀ c,L.com.contains c = (decide (c = 35) && noted)) (hwc:L.wc.contains 39 = false∧L.wc.contains 34 = false) {S:Fl×Lo→Hp→Prop} {E:EK→Hp→Prop}:
  ∀ (k:Nat) {H:Hp} {m:Lo} {tok l:List Nat} {qd:Bool} {esc:Nat} {st:LSt},l.length≤k→Spot H0 m H n L buf st esc qd tok l→LInv L.posix st esc qd tok l→tok.length + 2 * l.length≤80000→LoopEnd noted H0 n L buf st esc tok l S E→
  @WpI _ ⟨S⟩ ⟨E⟩ (whl (prg K) (d + 2) zab m (zcq zcc) (zas zcc)) H:=by
  intro k
  induction k using Nat.strongRecOn with
  | ind k ih=>
  intro H m tok l qd esc st hk X I hlen ⟨h1,h2⟩
  refine wl_while ?_
  refine z0d rfl ?_
  open_k with [rfl_]
  refine turn_ok G d X I (by lia) ?_
  have so:=stp_ok hcom hwc st esc qd tok l I
  generalize zca L.com L.wc L.posix st esc qd tok l = o at so
  cases o with
  | raise=>exact h2 so
  | stop st' qd' tok' l'=>
    obtain ⟨a1,a2,a3,a4,a5⟩:=so
    intro m' H' esc' Y
    refine h1 st' qd' tok' l' m' H' esc' a1 (by rcases a2 with ⟨rfl,_⟩ | h <;> lia) (fun e q=>?_) (by lia) a5 Y
    rw [a3 ⟨l,q,rfl⟩] at e; cases e
  | again st' esc' qd' tok' l'=>
    obtain ⟨a1,a2,a3,a4⟩:=so
    intro m' H' Y
    cases k with
    | zero=>lia
    | succ k=>
      refine ih k (Nat.lt_succ_self k) (by lia) Y a1 (by lia) ⟨fun st2 qd2 tok2 l2 m2 H2 esc2 b1 b2 b3 b4 b5 b6=>h1 st2 qd2 tok2 l2 m2 H2 esc2 b1 (by lia) (fun _ _=>by lia) (by lia) (fun ws=>(a4 ws).trans (b5 ws)) b6,fun b=>h2 fun ws=>(a4 ws).trans (b ws)⟩
end
noncomputable abbrev wordsF (noted shell:Bool) (ws:List (List Nat)) (l:List Nat):Option (List (List Nat)):=runF noted shell ky .out ws none l
structure Ready (H:Hp) (n:Nat) (L:LK) (buf l:List Nat):Prop where
 at_:∃ st ln pos,Lx H n L (stV st) ln [] buf pos∧pos≤buf.length∧buf.drop pos = l∧(st = .sp∨(st = .non∧l = []))
structure Reads (noted:Bool) (H0:Hp) (n:Nat) (L:LK) (buf l:List Nat) (Q:V→Hp→Prop) (E:EK→Hp→Prop):Prop where
 tok:∀ t l' H',Ready H' n L buf l'→Stay H0 H' [n,L.k]→l'.length < l.length→(L.posix = false→t≠[])→t.length≤2 * l.length + 2→(∀ ws,wordsF noted L.posix ws l = wordsF noted L.posix (ws++[t]) l')→Q (.str t) H'
 eof:∀ l' H',Ready H' n L buf l'→Stay H0 H' [n,L.k]→(∀ ws,wordsF noted L.posix ws l = some ws)→Q L.eof H'
 err:∀ H',Stay H0 H' [n,L.k]→(∀ ws,wordsF noted L.posix ws l = none)→E .val H'
section
variable {K:Wd} (G:Gl K)
include G
theorem zng (d:Nat) {noted:Bool} {H:Hp} {n:Nat} {L:LK} {buf l:List Nat} (hcom:∀ c,L.com.contains c = (decide (c = 35) && noted)) (hwc:L.wc.contains 39 = false∧L.wc.contains 34 = false) (X:Ready H n L buf l) (hlen:l.length≤30000)
  {Q:V→Hp→Prop} {E:EK→Hp→Prop} (R:Reads noted H n L buf l Q E):@WpI _ ⟨Q⟩ ⟨E⟩ (call (prg K) (d + 3) (.top (.ref 733)) [.obj n] [] []) H:=by
 obtain ⟨st,ln,pos,Y,hp,hd,hst⟩:=X.at_
 refine zmu ?_
 refine zpp (s1:=_) (s2:=_) (r:=tlS (zar zbe) 2) rfl (fun F hF=>?_)
 open_k with [zaa]
 subst hF
 rw [zjl]
 refine zaj rfl ?_
 open_k with [rfl_]
 have c0:∀ ws,cont noted L.posix st 32 [] l ws = wordsF noted L.posix ws l:=fun ws=>by
  rcases hst with rfl | ⟨rfl,rfl⟩
  ·rfl
  ·simp [cont,znc,endF]
 refine loop_ok G d hcom hwc l.length (H0:=H) (tok:=[]) (l:=l) (qd:=false) (esc:=32) (st:=st) (Nat.le_refl _) ⟨⟨_,_,Y,hp,hd⟩,⟨by kernel_rfl,by kernel_rfl,by kernel_rfl⟩,Stay.refl _ _⟩ ?_ (by simp; lia) ⟨?_,?_⟩
 ·rcases hst with rfl | ⟨rfl,rfl⟩
  ·exact ⟨rfl,rfl⟩
  ·exact ⟨rfl,rfl⟩
 ·intro st' qd' tok' l' m' H' esc' a1 a2 a3 a4 a5 Z
  obtain ⟨ln2,pos2,Y2,hp2,hd2⟩:=Z.lx
  obtain ⟨hs,hq,_⟩:=Z.loc
  obtain ⟨m0,rfl⟩:=zc7 hs
  have A:=zam (P:=prg K) Y2.lex
  have hR:∀ H2,Lx H2 n L (stV st') ln2 [] buf pos2→Stay H' H2 [n,L.k]→(isEof L.posix qd' tok' = true→Q L.eof H2)∧(isEof L.posix qd' tok' = false→Q (.str tok') H2):=fun H2 Y3 s3=>by
   have rd:Ready H2 n L buf l':=⟨⟨st',ln2,pos2,Y3,hp2,hd2,a1⟩⟩
   refine ⟨fun e=>R.eof l' H2 rd (Z.stay.trans s3) fun ws=>?_,fun e=>R.tok tok' l' H2 rd (Z.stay.trans s3) ?_ (fun hb ht=>?_) (by simpa using a4) fun ws=>?_⟩
   ·rw [← c0,a5 ws,zg9,if_pos e]
   ·rcases hst with rfl | ⟨rfl,rfl⟩
    ·exact a3 e rfl
    ·exfalso
     have:=a5 []
     rw [show cont noted L.posix LSt.non 32 [] [] [] = some [] from rfl,zg9,e,if_neg (Bool.false_ne_true),show l' = [] from List.eq_nil_of_length_eq_zero (Nat.le_zero.mp a2)] at this
     simp [znc,endF] at this
   ·subst ht; rw [hb] at e; simp [isEof] at e
   ·rw [← c0,a5 ws,zg9,if_neg (Bool.eq_false_iff.mp e)]
  open_k with [zaa,↑A]
  refine Y2.setTok [] (fun H2 Y3 s3=>?_)
  obtain ⟨r1,r2⟩:=hR H2 Y3 s3
  have A2:=zam (P:=prg K) Y3.lex
  open_k with [zaa,↑A2]
  refine ifI_split (fun b1=>?_) (fun b1=>?_)
  ·open_k with [zaa,hq]
   refine ifI_split (fun b2=>?_) (fun b2=>?_)
   ·open_k with [zaa]
    refine ifI_split (fun b3=>?_) (fun b3=>?_)
    ·have ht:tok' = []:=beq_iff_eq.mp b3
     have b2':qd' = false:=(Bool.not_eq_true' _).mp b2
     have he:L.eof = .none:=by unfold LK.eof; rw [b1]; rfl
     open_k with [zaa,↑A2]
     rw [he] at r1
     exact r1 (by subst ht; rw [b2']; simp [isEof])
    ·open_k with [zaa,↑A2]
     exact r2 (by cases tok' with | nil=>simp at b3 | cons _ _=>rfl)
   ·open_k with [zaa,↑A2]
    have b2':qd' = true:=(Bool.not_eq_false' _).mp b2
    exact r2 (by rw [b1,b2']; simp [isEof])
  ·open_k with [zaa,↑A2]
   cases tok' with
   | nil=>
     have he:L.eof = .str []:=by unfold LK.eof; rw [b1]; rfl
     rw [he] at r1
     exact r1 (by rw [b1]; simp [isEof])
   | cons x t=>exact r2 rfl
 ·exact fun h H' s=>R.err H' s fun ws=>(c0 ws).symm.trans (h ws)
end
noncomputable def gtWhile:Stmt:=nthS (zar zb2) 3
section
variable {K:Wd} (G:Gl K)
include G
theorem zr3 (d:Nat) {noted:Bool} {H:Hp} {n:Nat} {L:LK} {buf l:List Nat} (hcom:∀ c,L.com.contains c = (decide (c = 35) && noted)) (hwc:L.wc.contains 39 = false∧L.wc.contains 34 = false) (X:Ready H n L buf l) (hlen:l.length≤30000)
  {Q:V→Hp→Prop} {E:EK→Hp→Prop} (R:Reads noted H n L buf l Q E):@WpI _ ⟨Q⟩ ⟨E⟩ (call (prg K) (d + 4) (.top (.ref 726)) [.obj n] [] []) H:=by
 have heof:L.eof = .none∨(L.eof = .str []∧L.posix = false):=by
  unfold LK.eof
  cases L.posix with
  | true=>exact .inl rfl
  | false=>exact .inr ⟨rfl,rfl⟩
 obtain ⟨st,ln,pos,Y,hp,hd,hst⟩:=X.at_
 have A:=zam (P:=prg K) Y.lex
 refine zpr ?_
 refine zaj rfl ?_
 open_k with [zby,↑A,Y.truths]
 refine zng G d hcom hwc X hlen ⟨fun t l' H' rd s h1 h2 h3 h4=>?_,fun l' H' rd s h1=>?_,R.err⟩
 ·obtain ⟨st2,ln2,pos2,Y2,hp2,hd2,hst2⟩:=rd.at_
  have A2:=zam (P:=prg K) Y2.lex
  have ne:cmpM H' .Eq (.str t) L.eof = some false:=by
   rcases heof with e | ⟨e,q⟩
   ·rw [e]; rfl
   ·rw [e,zvh]
    cases t with
    | nil=>exact absurd rfl (h2 q)
    | cons _ _=>rfl
  open_k with [zby,↑A2]
  refine wl_while ?_
  refine wi_tcmp rfl ?_
  open_k with [zby,↑A2,ne]
  exact R.tok t l' H' rd s h1 h2 h3 h4
 ·obtain ⟨st2,ln2,pos2,Y2,hp2,hd2,hst2⟩:=rd.at_
  have A2:=zam (P:=prg K) Y2.lex
  have ne:cmpM H' .Eq L.eof L.eof = some true:=by
   rcases heof with e | ⟨e,q⟩ <;> rw [e] <;> rfl
  open_k with [zby,↑A2]
  refine wl_while ?_
  refine wi_tcmp rfl ?_
  open_k with [zby,↑A2,ne]
  refine zaj rfl ?_
  open_k with [zby,↑A2,ne,Y2.truths]
  exact R.eof l' H' rd s h1
theorem nxt_ok (d:Nat) {noted:Bool} {H:Hp} {n:Nat} {L:LK} {buf l:List Nat} (hcom:∀ c,L.com.contains c = (decide (c = 35) && noted)) (hwc:L.wc.contains 39 = false∧L.wc.contains 34 = false) (X:Ready H n L buf l) (hlen:l.length≤30000)
  {Q:V→Hp→Prop} {E:EK→Hp→Prop} (h1:∀ t l' H',Ready H' n L buf l'→Stay H H' [n,L.k]→l'.length < l.length→t.length≤2 * l.length + 2→(∀ ws,wordsF noted L.posix ws l = wordsF noted L.posix (ws++[t]) l')→Q (.str t) H')
  (h2:∀ H',Stay H H' [n,L.k]→(∀ ws,wordsF noted L.posix ws l = some ws)→E .stop H') (h3:∀ H',Stay H H' [n,L.k]→(∀ ws,wordsF noted L.posix ws l = none)→E .val H'):
  @WpI _ ⟨Q⟩ ⟨E⟩ (call (prg K) (d + 5) (.top (.ref 762)) [.obj n] [] []) H:=by
 have heof:L.eof = .none∨(L.eof = .str []∧L.posix = false):=by
  unfold LK.eof
  cases L.posix with
  | true=>exact .inl rfl
  | false=>exact .inr ⟨rfl,rfl⟩
 obtain ⟨st,ln,pos,Y,hp,hd,hst⟩:=X.at_
 have A:=zam (P:=prg K) Y.lex
 refine wc_nxt ?_
 refine zaj rfl ?_
 open_k with [zw4,↑A]
 refine zr3 G d hcom hwc X hlen ⟨fun t l' H' rd s g1 g2 g3 g4=>?_,fun l' H' rd s g1=>?_,h3⟩
 ·obtain ⟨st2,ln2,pos2,Y2,hp2,hd2,hst2⟩:=rd.at_
  have A2:=zam (P:=prg K) Y2.lex
  have ne:cmpM H' .Eq (.str t) L.eof = some false:=by
   rcases heof with e | ⟨e,q⟩
   ·rw [e]; rfl
   ·rw [e,zvh]
    cases t with
    | nil=>exact absurd rfl (g2 q)
    | cons _ _=>rfl
  open_k with [zw4,↑A2,ne]
  exact h1 t l' H' rd s g1 g3 g4
 ·obtain ⟨st2,ln2,pos2,Y2,hp2,hd2,hst2⟩:=rd.at_
  have A2:=zam (P:=prg K) Y2.lex
  have ne:cmpM H' .Eq L.eof L.eof = some true:=by
   rcases heof with e | ⟨e,q⟩ <;> rw [e] <;> rfl
  open_k with [zw4,↑A2,ne,g_stop]
  exact h2 H' s g1
theorem itr_ok (d:Nat) {H:Hp} {n:Nat} {Q:V→Hp→Prop} {E:EK→Hp→Prop} (h:Q (.obj n) H):@WpI _ ⟨Q⟩ ⟨E⟩ (call (prg K) (d + 1) (.top (.ref 755)) [.obj n] [] []) H:=by
 refine wc_iter ?_
 refine zaj rfl ?_
 open_k with [z23]
 exact h
theorem zvc (d:Nat) {noted:Bool} {n a:Nat} {L:LK} {buf:List Nat} (hcom:∀ c,L.com.contains c = (decide (c = 35) && noted)) (hwc:L.wc.contains 39 = false∧L.wc.contains 34 = false) (ha:a≠n∧a≠L.k) {Q:V→Hp→Prop} {E:EK→Hp→Prop}:
  ∀ (k:Nat) (H:Hp) (l:List Nat) (ws:List (List Nat)),l.length≤k→Ready H n L buf l→l.length≤30000→ws.length + l.length≤90000→H[a]? = some (.list (ws.map .str))→
    (∀ out H',wordsF noted L.posix ws l = some out→H'[a]? = some (.list (out.map .str))→Stay H H' [n,L.k,a]→Q (.obj a) H')→(∀ H',wordsF noted L.posix ws l = none→Stay H H' [n,L.k,a]→E .val H')→@WpI _ ⟨Q⟩ ⟨E⟩ (z37 (prg K) (d + 5) n a) H:=by
  intro k
  induction k using Nat.strongRecOn with
  | ind k ih=>
  intro H l ws hk X hlen hws hacc hQ hE
  obtain ⟨st,ln,pos,Y,hp,hd,hst⟩:=X.at_
  refine z46 (fn:=762) (by show onIn _ _ = _; rw [Y.lex]; exact zgs K) ?_
  refine nxt_ok G d hcom hwc X hlen (fun t l' H' rd s g1 g2 g3=>?_) (fun H' s g=>hQ ws H' (g ws) (s.at hacc (by simpa using ha)) (s.sub (by simp))) (fun H' s g=>hE H' (g ws) (s.sub (by simp)))
  have hacc':=s.at hacc (by simpa using ha)
  have hsz:ws.length < cap:=by simp only [cap]; lia
  have hb:zax H' "list.append" [.obj a,.str t] = some (.none,H'.set a (.list ((ws++[t]).map .str))):=by
   rw [zk1]
   show onLs _ H'[a]? = _
   rw [hacc',List.map_append]; exact if_pos (by rw [List.length_map]; exact hsz)
  show @optI _ ⟨_⟩ (zax H' "list.append" [.obj a,.str t])
  rw [hb,zaz]
  show @WpI _ ⟨Q⟩ ⟨E⟩ (z37 (prg K) (d + 5) n a) (H'.set a (.list ((ws++[t]).map .str)))
  have s2:Stay H' (H'.set a (.list ((ws++[t]).map .str))) [a]:=Stay.set _ (.head _)
  have s3:Stay H (H'.set a (.list ((ws++[t]).map .str))) [n,L.k,a]:=(s.sub (by simp)).trans (s2.sub (by simp))
  cases k with
  | zero=>lia
  | succ k=>
    obtain ⟨st2,ln2,pos2,Y2,hp2,hd2,hst2⟩:=rd.at_
    have na:n ∉ [a]:=nm1 ha.1.symm
    have ka:L.k ∉ [a]:=nm1 ha.2.symm
    have pa:L.pb ∉ [a]:=fun h=>by
     have h:=List.mem_singleton.mp h
     have:=Y2.pb; rw [h,hacc'] at this; cases this
    have fa:L.fs ∉ [a]:=fun h=>by
     have h:=List.mem_singleton.mp h
     have:=Y2.fs; rw [h,hacc'] at this; cases this
    exact ih k (Nat.lt_succ_self k) _ l' (ws++[t]) (by lia) ⟨⟨st2,ln2,pos2,⟨s2.at Y2.lex na,s2.at Y2.sio ka,s2.at Y2.pb pa,s2.at Y2.fs fa,Y2.ne,Y2.n1,Y2.n2⟩,hp2,hd2,hst2⟩⟩ (by lia) (by simp; lia)
     (by rw [List.getElem?_set_self (List.getElem?_eq_some_iff.mp hacc').1]) (fun out H2 e1 e2 e3=>hQ out H2 ((g3 ws).trans e1) e2 (s3.trans e3)) (fun H2 e1 e2=>hE H2 ((g3 ws).trans e1) (s3.trans e2))
end
theorem fn_of {α:Type} {o:Option α} {a:α} (h:o = some a):o.isNone = false:=by rw [h]; rfl
noncomputable def WC (posix:Bool):List Nat:=[97,98,99,100,102,101,103,104,105,106,107,108,109,110,111,112,113,114,115,116,117,118,119,120,121,122,65,66,67,68,69,70,71,72,73,74,75,76,77,78,79,80,81,82,83,84,85,86,87,88,89,90,48,49,50,51,52,53,54,55,56,57,95]++
 (if posix then [223,224,225,226,227,228,229,230,231,232,233,234,235,236,237,238,239,240,241,242,243,244,245,246,248,249,250,251,252,253,254,255,192,193,194,195,196,197,198,199,200,201,202,203,204,205,206,207,208,209,210,211,212,213,214,216,217,218,219,220,221,222] else [])
noncomputable def lexG (k:Nat) (posix wsp:Bool) (com:List Nat) (pb fs:Nat):List (Str×V):=[("instream",.obj k),("infile",.none),("posix",.bool posix),("eof",if posix then .none else .str []),("commenters",.str com),("wordchars",.str (WC posix)),("whitespace",.str [32,9,13,10]),
 ("whitespace_split",.bool wsp),("quotes",.str [39,34]),("escape",.str [92]),("escapedquotes",.str [34]),("state",.str [32]),("pushback",.obj pb),("lineno",.int 1),("debug",.int 0),("token",.str []),("filestack",.obj fs),("source",.none),("_punctuation_chars",.str [])]
noncomputable def lexT (k:Nat) (posix:Bool) (pb fs i:Nat):List (Str×V):=(lexG k posix false [35] pb fs).take i
theorem zr9 (H:Hp):zxt H [] = some (.obj H.length,H++[.deque]):=rfl
theorem z3c (H:Hp) (l:List Nat):zxr H [.str l,.top (.type "str")] = some (.bool true,H):=rfl
noncomputable abbrev liM (n k:Nat) (v:List Nat) (b:Bool):Lo:=upd (lk [("self",.obj n),("instream",.str v),("posix",.bool b),("infile",.none),("punctuation_chars",.bool false)]) "instream" (.obj k)
section
variable {K:Wd} (G:Gl K)
include G
theorem zt0 (d:Nat) (v:List Nat) (H:Hp) (Q:V→Hp→Prop) (E:EK→Hp→Prop) (h:∀ H',H'[H.length]? = some (.inst 630 (sioF v 0))→Stay H H' []→Q (.obj H.length) H'):
  @WpI _ ⟨Q⟩ ⟨E⟩ (call (prg K) (d + 3) (.top (.ref 630)) [.str v] [] []) H:=by
 refine z9w (as:=[.str v]) (cls_630 K) (fn_of (zxf K)) ?_
 refine z57 G d v _ List.getElem?_concat_length _ E (fun H' e s=>?_)
 rw [zqx]
 exact h H' e s.new
structure LI (H:Hp) (n:Nat) (v:List Nat) (D:List Nat) (H':Hp) (fs:List (Str×V)):Prop where
 o:H'[n]? = some (.inst 765 fs)
 k:H'[H.length]? = some (.inst 630 (sioF v 0))
 s:Stay H H' [n]
 d:∀ a∈D,H'[a]? = some .deque∧H.length < a
 n:n < H.length
omit G in
theorem za2 (k posix pb fs i):(lexT k posix pb fs i).length < 100:=Nat.lt_of_le_of_lt (List.length_take_le' _ _) (Nat.le_of_ble_eq_true rfl)
omit G in
theorem LI.set {H:Hp} {n:Nat} {v:List Nat} {D:List Nat} {H':Hp} {fs fs':List (Str×V)} {x:Str} {w:V} {R:Hp→Prop} (X:LI H n v D H' fs) (l:fs.length < 100) (e:put fs x w = fs') (d:(prg K).datt 765 x = true) (h:∀ H',LI H n v D H' fs'→R H'):@optI _ ⟨R⟩ (zbs (prg K) H' (.obj n) x w):=
 have z {a:Nat} (q:H.length≤a):a ∉ [n]:=fun m=>Nat.lt_irrefl _ (Nat.lt_of_lt_of_le X.n (List.mem_singleton.mp m ▸ q))
 zdp X.o d l fun H2 o t=>h H2 ⟨e ▸ o,t.at X.k (z (Nat.le_refl _)),X.s.trans t,fun a m=>⟨t.at (X.d a m).1 (z (Nat.le_of_lt (X.d a m).2)),(X.d a m).2⟩,X.n⟩
omit G in
theorem LI.deque {H:Hp} {n:Nat} {v:List Nat} {D:List Nat} {H':Hp} {fs:List (Str×V)} (X:LI H n v D H' fs):LI H n v (H'.length::D) (H'++[O.deque]) fs:=
 have g:Stay H' (H'++[O.deque]) []:=Stay.grow _ _
 have z {a:Nat}:a ∉ ([]:List Nat):=List.not_mem_nil
 ⟨g.at X.o z,g.at X.k z,X.s.trans (Stay.grow _ _),fun a m=>by
  rcases List.mem_cons.mp m with rfl | m
  ·exact ⟨List.getElem?_concat_length,(List.getElem?_eq_some_iff.mp X.k).1⟩
  ·exact ⟨g.at (X.d a m).1 z,(X.d a m).2⟩,X.n⟩
omit G in
theorem zxb {I J:Hp→Prop} {c:Bool} {f g:Unit→Prop} (h1:c = true→(∀ H',I H'→J H')→f ()) (h2:c = false→(∀ H',I H'→J H')→g ()) (h:∀ H',I H'→J H'):@ifI ⟨f⟩ ⟨g⟩ c:=by
 cases c
 ·exact @ifI.mk ⟨f⟩ ⟨g⟩ _ (h2 rfl h)
 ·exact @ifI.mk ⟨f⟩ ⟨g⟩ _ (h1 rfl h)
omit G in
theorem zzd {k:Nat} {posix:Bool} (h:posix = true):put (lexT k posix 0 0 3) "eof" .none = lexT k posix 0 0 4:=by subst h; kernel_rfl
omit G in
theorem zze {k:Nat} {posix:Bool} (h:posix = false):put (lexT k posix 0 0 3) "eof" (.str []) = lexT k posix 0 0 4:=by subst h; kernel_rfl
omit G in
theorem z2s {k:Nat} {posix:Bool} (h:posix = false):put (lexT k posix 0 0 5) "wordchars" (.str (WC false)) = lexT k posix 0 0 6:=by subst h; kernel_rfl
omit G in
theorem z2r {k:Nat} {posix:Bool} {l:List Nat} (h:posix = true) (e:WC true = l):put (put (lexT k posix 0 0 5) "wordchars" (.str (WC false))) "wordchars" (.str l) = lexT k posix 0 0 6:=by subst h e; kernel_rfl
omit G in
theorem z7k (d n k:Nat) (v:List Nat) (b:Bool) (H:Hp) (S:Fl×Lo→Hp→Prop) (E:EK→Hp→Prop):
  @kA5 (liM n k v b) ⟨@flX (RF (prg K) (d + 3) zah 180) ⟨S⟩ ⟨E⟩ ((zar zb1).drop 19)⟩ H = @optI _ ⟨@kA5 (upd (liM n k v b) "punctuation_chars" (.str [])) ⟨@flX (RF (prg K) (d + 3) zah 178) ⟨S⟩ ⟨E⟩ ((zar zb1).drop 21)⟩⟩ (zbs (prg K) H (.obj n) "_punctuation_chars" (.str [])):=by
 have e1:@kA5 (liM n k v b) ⟨@flX (RF (prg K) (d + 3) zah 180) ⟨S⟩ ⟨E⟩ ((zar zb1).drop 19)⟩ H = @ifI ⟨@uXs (RF (prg K) (d + 3) zah 178) (liM n k v b) H (sV (nthS (zar zb1) 19)).1 ⟨@flX (RF (prg K) (d + 3) zah 179) ⟨S⟩ ⟨E⟩ ((zar zb1).drop 20)⟩ ⟨E⟩⟩ ⟨@uXs (RF (prg K) (d + 3) zah 178) (liM n k v b) H (sV (nthS (zar zb1) 19)).2.1 ⟨@flX (RF (prg K) (d + 3) zah 179) ⟨S⟩ ⟨E⟩ ((zar zb1).drop 20)⟩ ⟨E⟩⟩ true:=by kernel_rfl
 have e2:@uXs (RF (prg K) (d + 3) zah 178) (liM n k v b) H (sV (nthS (zar zb1) 19)).1 ⟨@flX (RF (prg K) (d + 3) zah 179) ⟨S⟩ ⟨E⟩ ((zar zb1).drop 20)⟩ ⟨E⟩ () = @optI _ ⟨@kA5 (upd (liM n k v b) "punctuation_chars" (.str [])) ⟨@flX (RF (prg K) (d + 3) zah 178) ⟨S⟩ ⟨E⟩ ((zar zb1).drop 21)⟩⟩ (zbs (prg K) H (.obj n) "_punctuation_chars" (.str [])):=by kernel_rfl
 exact e1.trans ((zon _ _).trans e2)
theorem z7i (d:Nat) {n:Nat} (v:List Nat) (posix:Bool) (H:Hp) (hn:H[n]? = some (.inst 765 [])) (Q:V→Hp→Prop) (E:EK→Hp→Prop)
  (h:∀ k pb fs H',H'[n]? = some (.inst 765 (lexG k posix false [35] pb fs))→H'[k]? = some (.inst 630 (sioF v 0))→H'[pb]? = some .deque→H'[fs]? = some .deque→H.length≤k→H.length≤pb→H.length≤fs→pb≠k→fs≠k→Stay H H' [n]→Q .none H'):
  @WpI _ ⟨Q⟩ ⟨E⟩ (call (prg K) (d + 4) (.top (.ref 689)) [.obj n,.str v] ["posix"] [.bool posix]) H:=by
 refine z5e ?_
 refine zaj rfl ?_
 open_k with [zaq,zr4,g_str,z3c,zzq]
 refine zt0 G d v H _ E (fun H0 k0 s0=>?_)
 have X0:LI H n v [] H0 (lexT H.length posix 0 0 0):=⟨s0.at hn List.not_mem_nil,k0,s0.sub (fun _ z=>absurd z List.not_mem_nil),fun _ z=>absurd z List.not_mem_nil,(List.getElem?_eq_some_iff.mp hn).1⟩
 open_k with [zaq]
 refine X0.set (fs':=lexT H.length posix 0 0 1) (za2 _ _ _ _ _) (by kernel_rfl) (by kernel_rfl) (fun H1 X1=>?_)
 open_k with [zaq]
 refine X1.set (fs':=lexT H.length posix 0 0 2) (za2 _ _ _ _ _) (by kernel_rfl) (by kernel_rfl) (fun H2 X2=>?_)
 open_k with [zaq]
 refine X2.set (fs':=lexT H.length posix 0 0 3) (za2 _ _ _ _ _) (by kernel_rfl) (by kernel_rfl) (fun H3 X3=>?_)
 open_k with [zaq]
 refine zxb (I:=fun H'=>LI H n v [] H' (lexT H.length posix 0 0 4)) (J:=?_) (fun hp k=>?_) (fun hp k=>?_) ?_
 rotate_left
 ·open_k with [zaq]
  refine X3.set (za2 _ _ _ _ _) (zzd hp) (by kernel_rfl) (fun H4 X4=>?_)
  open_k with [zaq]
  exact k H4 X4
 ·open_k with [zaq]
  refine X3.set (za2 _ _ _ _ _) (zze hp) (by kernel_rfl) (fun H4 X4=>?_)
  open_k with [zaq]
  exact k H4 X4
 refine fun H4 X4=>?_
 refine X4.set (fs':=lexT H.length posix 0 0 5) (za2 _ _ _ _ _) (by kernel_rfl) (by kernel_rfl) (fun H5 X5=>?_)
 open_k with [zaq]
 refine X5.set (w:=.str (WC false)) (za2 _ _ _ _ _) rfl (by kernel_rfl) (fun H6 X6=>?_)
 have A:=zam (P:=prg K) X6.o
 have ap:zbz (prg K) "posix" 765 (put (lexT H.length posix 0 0 5) "wordchars" (.str (WC false))) = some (.bool posix):=by kernel_rfl
 open_k with [zaq,↑A,ap]
 refine zxb (I:=fun H'=>LI H n v [] H' (lexT H.length posix 0 0 6)) (J:=?_) (fun hp k=>?_) (fun hp k=>?_) ?_
 rotate_left
 ·have aw:zbz (prg K) "wordchars" 765 (put (lexT H.length posix 0 0 5) "wordchars" (.str (WC false))) = some (.str (WC false)):=by kernel_rfl
  have ax:((prg K).prop 765 "wordchars").isNone = true:=by kernel_rfl
  have cp:((WC false).length + 62≤cap) = True:=eq_true (Nat.le_of_ble_eq_true rfl)
  open_k with [zaq,A,aw,ax,cp]
  refine X6.set (Nat.le_of_ble_eq_true rfl) (z2r hp (by kernel_rfl)) (by kernel_rfl) (fun H7 X7=>?_)
  open_k with [zaq]
  exact k H7 X7
 ·open_k with [zaq]
  exact k H6 ((z2s hp) ▸ X6)
 refine fun H7 X7=>?_
 refine X7.set (fs':=lexT H.length posix 0 0 7) (za2 _ _ _ _ _) (by kernel_rfl) (by kernel_rfl) (fun H8 X8=>?_)
 open_k with [zaq]
 refine X8.set (fs':=lexT H.length posix 0 0 8) (za2 _ _ _ _ _) (by kernel_rfl) (by kernel_rfl) (fun H9 X9=>?_)
 open_k with [zaq]
 refine X9.set (fs':=lexT H.length posix 0 0 9) (za2 _ _ _ _ _) (by kernel_rfl) (by kernel_rfl) (fun H10 X10=>?_)
 open_k with [zaq]
 refine X10.set (fs':=lexT H.length posix 0 0 10) (za2 _ _ _ _ _) (by kernel_rfl) (by kernel_rfl) (fun H11 X11=>?_)
 open_k with [zaq]
 refine X11.set (fs':=lexT H.length posix 0 0 11) (za2 _ _ _ _ _) (by kernel_rfl) (by kernel_rfl) (fun H12 X12=>?_)
 open_k with [zaq]
 refine X12.set (fs':=lexT H.length posix 0 0 12) (za2 _ _ _ _ _) (by kernel_rfl) (by kernel_rfl) (fun H13 X13=>?_)
 open_k with [zaq,z3u,zr9]
 refine X13.deque.set (fs':=lexT H.length posix H13.length 0 13) (za2 _ _ _ _ _) (by kernel_rfl) (by kernel_rfl) (fun H14 X14=>?_)
 open_k with [zaq]
 refine X14.set (fs':=lexT H.length posix H13.length 0 14) (za2 _ _ _ _ _) (by kernel_rfl) (by kernel_rfl) (fun H15 X15=>?_)
 open_k with [zaq]
 refine X15.set (fs':=lexT H.length posix H13.length 0 15) (za2 _ _ _ _ _) (by kernel_rfl) (by kernel_rfl) (fun H16 X16=>?_)
 open_k with [zaq]
 refine X16.set (fs':=lexT H.length posix H13.length 0 16) (za2 _ _ _ _ _) (by kernel_rfl) (by kernel_rfl) (fun H17 X17=>?_)
 open_k with [zaq,z3u,zr9]
 refine X17.deque.set (fs':=lexT H.length posix H13.length H17.length 17) (za2 _ _ _ _ _) (by kernel_rfl) (by kernel_rfl) (fun H18 X18=>?_)
 open_k with [zaq]
 refine X18.set (fs':=lexT H.length posix H13.length H17.length 18) (za2 _ _ _ _ _) (by kernel_rfl) (by kernel_rfl) (fun H19 X19=>?_)
 refine (z7k (K:=K) d n H.length v posix H19 _ _).mpr ?_
 refine X19.set (fs':=lexG H.length posix false [35] H13.length H17.length) (za2 _ _ _ _ _) (by kernel_rfl) (by kernel_rfl) (fun H20 X20=>?_)
 open_k with [rfl_]
 refine zfy rfl ?_
 open_k with [zaq,List.isEmpty_nil]
 have p:=X20.d H13.length (.tail _ (.head _))
 have f:=X20.d H17.length (.head _)
 exact h H.length H13.length H17.length H20 X20.o X20.k p.1 f.1 (Nat.le_refl _) (Nat.le_of_lt p.2) (Nat.le_of_lt f.2) (Nat.ne_of_gt p.2) (Nat.ne_of_gt f.2) X20.s
theorem zyf (d:Nat) {v com:List Nat} {noted posix:Bool} (hlen:v.length≤20000) {H:Hp} {n k pb fs:Nat} {Q:V→Hp→Prop} {E:EK→Hp→Prop} (hc:∀ c,com.contains c = (decide (c = 35) && noted))
  (x1:H[n]? = some (.inst 765 (lexG k posix true com pb fs))) (x2:H[k]? = some (.inst 630 (sioF v 0))) (x3:H[pb]? = some .deque) (x4:H[fs]? = some .deque) (nk:k≠n) (np:pb≠n) (nf:fs≠n) (e8:pb≠k) (e9:fs≠k)
  (hQ:∀ out H',wordsF noted posix [] v = some out→H'[H.length]? = some (.list (out.map .str))→Stay H H' [n,k,H.length]→Q (.obj H.length) H') (hE:∀ H',wordsF noted posix [] v = none→Stay H H' [n,k,H.length]→E .val H'):
  @WpI _ ⟨Q⟩ ⟨E⟩ (call (prg K) (d + 6) (.top (.type "list")) [.obj n] [] []) H:=by
 let L:LK:=⟨k,posix,com,WC posix,pb,fs⟩
 have lex:H[n]? = some (.inst 765 (lexF L (stV .sp) 1 [])):=x1
 have l1:=(List.getElem?_eq_some_iff.mp x1).1
 have l2:=(List.getElem?_eq_some_iff.mp x2).1
 have g:Stay H (H++[O.list []]) []:=Stay.grow _ _
 have rd:Ready (H++[O.list []]) n L v v:=⟨⟨.sp,1,0,⟨g.at lex nm0,g.at x2 nm0,g.at x3 nm0,g.at x4 nm0,Ne.symm nk,⟨np,e8⟩,⟨nf,e9⟩⟩,Nat.zero_le _,rfl,.inl rfl⟩⟩
 have hwc:L.wc.contains 39 = false∧L.wc.contains 34 = false:=by show (WC posix).contains 39 = false∧(WC posix).contains 34 = false; cases posix <;> decide
 have hit:iterM (prg K) H n = some 755:=by show onIn _ H[n]? = _; rw [lex]; exact zoc K
 have hwalk:walkM (prg K) (H++[O.list []]) n H.length = some ():=by
  have hh:(prg K).hint 765 = true:=rfl
  simp only [walkM,onIn_i,onLs_l,g.at lex nm0,List.getElem?_concat_length,hh,zgs,Option.isSome_some,List.length_nil,cap]
  rfl
 refine wc_list hit (itr_ok G (d + 4) ⟨rfl,hwalk,?_⟩)
 exact zvc G d hc hwc ⟨Nat.ne_of_gt l1,Nat.ne_of_gt l2⟩ v.length _ v [] (Nat.le_refl _) rd (Nat.le_trans hlen (by decide)) (Nat.le_trans (Nat.le_of_eq (Nat.zero_add _)) (Nat.le_trans hlen (by decide))) List.getElem?_concat_length (fun out H5 q1 q2 q3=>hQ out H5 q1 q2 ((Stay.grow _ _).trans q3)) (fun H5 q1 q2=>hE H5 q1 ((Stay.grow _ _).trans q2))
theorem zwm (d:Nat) (v:List Nat) (noted posix:Bool) (hlen:v.length≤20000) (H:Hp) (Q:V→Hp→Prop) (E:EK→Hp→Prop)
  (hQ:∀ out a H',wordsF noted posix [] v = some out→H'[a]? = some (.list (out.map .str))→Stay H H' []→H.length≤a→Q (.obj a) H') (hE:∀ H',wordsF noted posix [] v = none→Stay H H' []→E .val H'):
  @WpI _ ⟨Q⟩ ⟨E⟩ (call (prg K) (d + 7) (.top (.ref 777)) [.str v,.bool noted,.bool posix] [] []) H:=by
 refine z49 ?_
 refine zaj rfl ?_
 open_k with [zei,g_shlex]
 refine z9w (as:=[.str v]) (cls_765 K) (fn_of (zxg K)) ?_
 refine z7i G (d + 1) v posix _ List.getElem?_concat_length _ E (fun k pb fs H1 e1 e2 e3 e4 e5 e6 e7 e8 e9 s1=>?_)
 rw [zqx]
 rw [List.length_append] at e5 e6 e7
 have s1':Stay H H1 []:=s1.new
 have nk:k≠H.length:=Nat.ne_of_gt e5
 have np:pb≠H.length:=Nat.ne_of_gt e6
 have nf:fs≠H.length:=Nat.ne_of_gt e7
 open_k with [zei]
 refine zdp e1 rfl (of_decide_eq_true (by kernel_rfl)) (fun H2 n2 t2=>?_)
 have n2:H2[H.length]? = some (.inst 765 (lexG k posix true [35] pb fs)):=n2.trans (by kernel_rfl)
 have k2:=t2.at e2 (nm1 nk)
 have p2:=t2.at e3 (nm1 np)
 have f2:=t2.at e4 (nm1 nf)
 have st2:Stay H H2 []:=s1'.fresh t2 le1
 have own (H3:Hp) (s3:Stay H H3 []):∀ j∈[H.length,k,H3.length],H.length≤j:=fun j m=>by
  rcases List.mem_cons.mp m with rfl | m
  ·exact Nat.le_refl _
  rcases List.mem_cons.mp m with rfl | m
  ·exact Nat.le_of_lt e5
  ·rw [List.mem_singleton.mp m]; exact s3.1
 have rest:∀ (com:List Nat) (H3:Hp),(∀ c,com.contains c = (decide (c = 35) && noted))→H3[H.length]? = some (.inst 765 (lexG k posix true com pb fs))→H3[k]? = some (.inst 630 (sioF v 0))→H3[pb]? = some .deque→H3[fs]? = some .deque→Stay H H3 []→
   @WpI _ ⟨Q⟩ ⟨E⟩ (call (prg K) (d + 6) (.top (.type "list")) [.obj H.length] [] []) H3:=fun com H3 hc x1 x2 x3 x4 s3=>
  zyf G d hlen hc x1 x2 x3 x4 nk np nf e8 e9 (fun out H5 q1 q2 q3=>hQ out _ H5 q1 q2 (s3.fresh q3 (own H3 s3)) s3.1) (fun H5 q1 q2=>hE H5 q1 (s3.fresh q2 (own H3 s3)))
 open_k with [zei]
 refine ifI_split (fun b1=>?_) (fun b1=>?_)
 ·have b1':noted = false:=(Bool.not_eq_true' _).mp b1
  open_k with [zei]
  refine zdp n2 rfl (of_decide_eq_true (by kernel_rfl)) (fun H3 n3 t3=>?_)
  have n3:H3[H.length]? = some (.inst 765 (lexG k posix true [] pb fs)):=n3.trans (by kernel_rfl)
  open_k with [zei,g_list]
  exact rest [] H3 (fun c=>by rw [b1',Bool.and_false]; rfl) n3 (t3.at k2 (nm1 nk)) (t3.at p2 (nm1 np)) (t3.at f2 (nm1 nf)) (st2.fresh t3 le1)
 ·have b1':noted = true:=(Bool.not_eq_false' _).mp b1
  open_k with [zei,g_list]
  exact rest [35] H2 (fun c=>by rw [b1',Bool.and_true]; exact Bool.or_false _) n2 k2 p2 f2 st2
end
section
variable {α:Type} (o:α→O)
noncomputable def Rel (H:Hp):List V→List α→Prop
 | [],[]=>True
 | v::vs,x::xs=>(∃ k,v = .obj k∧H[k]? = some (o x))∧Rel H vs xs
 | _,_=>False
variable {o} {H H':Hp} {vs:List V}
theorem Rel.len:∀ {xs:List α},Rel o H vs xs→vs.length = xs.length:=by
 induction vs with
 | nil=>intro xs h; cases xs with | nil=>rfl | cons=>exact h.elim
 | cons v vs ih=>intro xs h; cases xs with | nil=>exact h.elim | cons x xs=>exact congrArg Nat.succ (ih h.2)
theorem Rel.at:∀ {xs:List α},Rel o H vs xs→∀ (i:Nat) (x:α),xs[i]? = some x→∃ k,vs[i]? = some (.obj k)∧H[k]? = some (o x):=by
 induction vs with
 | nil=>intro xs h i x e; cases xs with | nil=>cases e | cons=>exact h.elim
 | cons v vs ih=>
   intro xs h i x e
   cases xs with
   | nil=>exact h.elim
   | cons y xs=>cases i with
     | zero=>cases e; obtain ⟨k,e,hk⟩:=h.1; exact ⟨k,congrArg some e,hk⟩
     | succ i=>exact ih h.2 i x e
theorem Rel.mono:∀ {xs:List α},Rel o H vs xs→(∀ k x,V.obj k∈vs→H[k]? = some x→H'[k]? = some x)→Rel o H' vs xs:=by
 induction vs with
 | nil=>intro xs h _; cases xs with | nil=>trivial | cons=>exact h.elim
 | cons v vs ih=>
   intro xs h n
   cases xs with
   | nil=>exact h.elim
   | cons x xs=>
     obtain ⟨k,e,q⟩:=h.1
     exact ⟨⟨k,e,n k _ (e ▸ .head _) q⟩,ih h.2 fun k x hk=>n k x (.tail _ hk)⟩
theorem Rel.live {k:Nat}:∀ {xs:List α},Rel o H vs xs→V.obj k∈vs→k < H.length:=by
 induction vs with
 | nil=>intro xs _ h; cases h
 | cons v vs ih=>
   intro xs h hk
   cases xs with
   | nil=>exact h.elim
   | cons x xs=>
     obtain ⟨j,e,q⟩:=h.1
     rcases List.mem_cons.mp hk with hk | hk
     ·rw [e] at hk; cases hk; exact (List.getElem?_eq_some_iff.mp q).1
     ·exact ih h.2 hk
theorem Rel.stay {xs:List α} {a:Nat} (s:Stay H H' [a]) (r:Rel o H vs xs) (n:∀ k,.obj k∈vs→k≠a):Rel o H' vs xs:=r.mono fun k _ hk h=>s.at h (nm1 (n k hk))
theorem Rel.stay0 {xs:List α} (s:Stay H H' []) (r:Rel o H vs xs):Rel o H' vs xs:=r.mono fun _ _ _ h=>s.at h nm0
theorem Rel.grow {xs:List α} (g:Grow H H') (r:Rel o H vs xs):Rel o H' vs xs:=r.stay0 (g.stay [])
theorem Rel.app {ws:List V} {xs ys:List α} (h:Rel o H vs xs) (k:Rel o H ws ys):Rel o H (vs++ws) (xs++ys):=by
 induction vs generalizing xs with
 | nil=>cases xs with | nil=>exact k | cons=>exact h.elim
 | cons v vs ih=>cases xs with | nil=>exact h.elim | cons x xs=>exact ⟨h.1,ih h.2⟩
theorem Rel.split {v:V} {x:α}:∀ {xs:List α},Rel o H (vs++[v]) (xs++[x])→Rel o H vs xs∧∃ k,v = .obj k∧H[k]? = some (o x):=by
 induction vs with
 | nil=>
   intro xs h
   cases xs with
   | nil=>exact ⟨trivial,h.1⟩
   | cons y xs=>have h:=h.2; cases xs <;> exact h.elim
 | cons w vs ih=>
   intro xs h
   cases xs with
   | nil=>have h:=h.2; cases vs <;> exact h.elim
   | cons y xs=>exact ⟨⟨h.1,(ih h.2).1⟩,(ih h.2).2⟩
end
noncomputable abbrev iO (x:It):O:=.list [.str x.1,.bool x.2]
noncomputable abbrev RelI (H:Hp):List V→List It→Prop:=Rel iO H
theorem RelI.at {H:Hp} {vs:List V} {is:List It} (r:RelI H vs is) (i:Nat) (x:It) (e:is[i]? = some x):∃ k,vs[i]? = some (.obj k)∧H[k]? = some (.list [.str x.1,.bool x.2]):=Rel.at r i x e
theorem Grow.refl (H:Hp):Grow H H:=⟨[],(List.append_nil H).symm⟩
theorem Grow.trans {A B C:Hp} (a:Grow A B) (b:Grow B C):Grow A C:=by
 obtain ⟨S,rfl⟩:=a; obtain ⟨T,rfl⟩:=b; exact ⟨S++T,List.append_assoc ..⟩
theorem Grow.at {H H':Hp} (g:Grow H H') {j:Nat} {o:O} (h:H[j]? = some o):H'[j]? = some o:=by
 obtain ⟨T,rfl⟩:=g
 rw [List.getElem?_append_left (List.getElem?_eq_some_iff.mp h).1]; exact h
theorem Grow.one (H:Hp) (o:O):Grow H (H++[o]):=⟨[o],rfl⟩
theorem zbr {K:Wd} {H:Hp} {n i:Nat} {vs:List V} {v:V} (h:H[n]? = some (.list vs)) (e:vs[i]? = some v):subM K.F H (.obj n) (.int (i:Int)) = some v:=by
 have hi:i < vs.length:=(List.getElem?_eq_some_iff.mp e).1
 have:idx (i:Int) vs.length = some i:=by unfold idx; rw [if_pos ⟨Int.natCast_nonneg _,Int.ofNat_lt.mpr hi⟩]; rfl
 show onI (fun i=>onLs (fun xs=>(idx i xs.length).bind (xs[·]?)) H[n]?) (.int (i:Int)) = _
 rw [h]
 show (idx (i:Int) vs.length).bind (vs[·]?) = _
 rw [this]; exact e
theorem zhd {H:Hp} {n:Nat} {vs:List V} (h:H[n]? = some (.list vs)):cLen H [.obj n] = some (.int vs.length,H):=by
 show onLs _ H[n]? = _
 rw [h]; rfl
theorem zet {sc:Scope} {m:Lo} {H:Hp} {n:Nat} {x y:Str} {p q r:Pos} {k:Nat} {v1 v2:V} (h:H[n]? = some (.list [v1,v2])) (l1:localB sc x = true) (l2:localB sc y = true):
  assignM sc m H (.Tuple [.Name x p,.Name y q] k r) (.obj n) = some (upd (upd m x v1) y v2):=by
 show (if (localB sc x && (localB sc y && true)) = true then onLs (fun vs=>if vs.length = 2 then zfd m [x,y] vs else none) H[n]? else none) = _
 rw [l1,l2,h]
 rfl
theorem zcx (x:It) (c:Nat):(keyI x = some c) ↔ (x.2 = true∧x.1 = [c]):=by
 obtain ⟨s,a⟩:=x
 cases a with
 | false=>exact ⟨fun e=>(nomatch e),fun e=>nomatch e.1⟩
 | true=>exact ⟨fun e=>⟨rfl,(z14 s c).mp e⟩,fun e=>(z14 s c).mpr e.2⟩
noncomputable def headIs (c:Nat):List It→Bool
 | x::_=>x.1 == [c] && x.2
 | []=>false
noncomputable def quoI (mk:Nat) (shell:Bool):List It→List It→Option (List It)×List It
 | _,[]=>(none,[])
 | acc,x::r=>if keyI x = some mk then (some acc,r)
   else if keyI x = some 92∧mk = 34∧shell then (match r with
    | []=>(none,[])
    | y::r'=>if keyI y = some 34∨keyI y = some 92 then quoI mk shell (acc++[y]) r' else quoI mk shell (acc++[x]) (y::r'))
   else quoI mk shell (acc++[x]) r
noncomputable def zew:Stmt:=nthS (zar zdl) 1
structure LQ (m:Lo) (g mk:Nat) (shell:Bool) (said:List Nat) (k:Nat):Prop where
 signs:m "signs" = some (.obj g)
 mark:m "mark" = some (.str [mk])
 shell:m "shell" = some (.bool shell)
 said:m "said" = some (.str said)
 k:m "k" = some (.int k)
noncomputable abbrev flatI (l:List It):List Nat:=l.flatMap (·.1)
theorem eq_pair {H:Hp} {a b x y:Nat} {s:List Nat} {t:Bool} {c:Nat} (ha:H[a]? = some (.list [.obj x])) (hb:H[b]? = some (.list [.obj y])) (hx:H[x]? = some (.list [.str s,.bool t])) (hy:H[y]? = some (.list [.str [c],.bool true])) (hab:a≠b) (hxy:x≠y):
  cmpM H .Eq (.obj a) (.obj b) = some (s == [c] && t):=by
 show eqV H 4 (.obj a) (.obj b) = _
 have e1:eqV H 3 (.obj x) (.obj y) = some (s == [c] && t):=by
  rw [eqV_sb hx hy hxy]; cases t <;> rfl
 rw [zow hab ha hb rfl]
 show and2 (eqV H 3 (.obj x) (.obj y)) (some true) = _
 rw [e1]
 show some (s == [c] && t && true) = _
 rw [Bool.and_true]
theorem eq_none {H:Hp} {a b y:Nat} (ha:H[a]? = some (.list [])) (hb:H[b]? = some (.list [.obj y])) (hab:a≠b):cmpM H .Eq (.obj a) (.obj b) = some false:=by
 show eqV H 4 (.obj a) (.obj b) = _
 rw [z34 hab ha hb]
 rfl
theorem zhb {H:Hp} {sl:List V} {c:Nat} {b:Bool} (hb:(sl = []∧b = false)∨∃ ky s t,sl = [.obj ky]∧H[ky]? = some (.list [.str s,.bool t])∧b = (s == [c] && t)):
  cmpM (H++[O.list sl]++[O.list [V.str [c],V.bool true]]++[O.list [V.obj (List.length (H++[O.list sl]))]]) .Eq (.obj (List.length H)) (.obj (List.length (H++[O.list sl]++[O.list [V.str [c],V.bool true]]))) = some b:=by
 have g1:(H++[O.list sl]++[O.list [V.str [c],V.bool true]]++[O.list [V.obj (List.length (H++[O.list sl]))]])[H.length]? = some (.list sl):=((Grow.one _ _).trans (Grow.one _ _)).at List.getElem?_concat_length
 have g2:(H++[O.list sl]++[O.list [V.str [c],V.bool true]]++[O.list [V.obj (List.length (H++[O.list sl]))]])[List.length (H++[O.list sl])]? = some (.list [.str [c],.bool true]):=by
  exact (Grow.one _ _).at List.getElem?_concat_length
 have g3:(H++[O.list sl]++[O.list [V.str [c],V.bool true]]++[O.list [V.obj (List.length (H++[O.list sl]))]])[List.length (H++[O.list sl]++[O.list [V.str [c],V.bool true]])]? = some (.list [.obj (List.length (H++[O.list sl]))]):=by
  rw [List.getElem?_concat_length]
 have n1:List.length H≠List.length (H++[O.list sl]++[O.list [V.str [c],V.bool true]]):=by rw [List.length_append,List.length_append]; exact Nat.ne_of_lt (Nat.lt_succ_of_lt (Nat.lt_succ_self _))
 rcases hb with ⟨rfl,rfl⟩ | ⟨ky,s,t,rfl,hk,rfl⟩
 ·exact eq_none g1 g3 n1
 ·have hlt:=(List.getElem?_eq_some_iff.mp hk).1
  have g4:(H++[O.list [V.obj ky]]++[O.list [V.str [c],V.bool true]]++[O.list [V.obj (List.length (H++[O.list [V.obj ky]]))]])[ky]? = some (.list [.str s,.bool t]):=by
   rw [List.append_assoc,List.append_assoc,List.getElem?_append_left hlt]; exact hk
  exact eq_pair g1 g3 g4 g2 n1 (by simp; lia)
theorem zj7 (mk:Nat) (shell:Bool) (acc:List It) (x:It) (r:List It):quoI mk shell acc (x::r) = if keyI x = some mk then (some acc,r)
  else if keyI x = some 92∧mk = 34∧shell then (match r with
   | []=>(none,[])
   | y::r'=>if keyI y = some 34∨keyI y = some 92 then quoI mk shell (acc++[y]) r' else quoI mk shell (acc++[x]) (y::r'))
  else quoI mk shell (acc++[x]) r:=by
 cases r <;> kernel_rfl
section
variable {K:Wd} (G:Gl K)
theorem z4d {H:Hp} {g:Nat} {vs:List V} {i j:Nat} (hg:H[g]? = some (.list vs)):cutM H (.obj g) (.int (i:Int)) (.int (j:Int)) = some (.obj H.length,H++[.list (cut vs (min i vs.length) (min j vs.length))]):=by
 rw [cutM_l hg]
 show some (V.obj H.length,H++[O.list (cut vs (clampI i vs.length) (clampI j vs.length))]) = _
 rw [zmm,zmm]
theorem z07 {H:Hp} {g:Nat} {vs:List V} {j:Nat} (hg:H[g]? = some (.list vs)) (h:vs.length≤j):cutM H (.obj g) (.int (j:Int)) (.int ((j + 1:Nat):Int)) = some (.obj H.length,H++[.list []]):=by
 rw [z4d hg,Nat.min_eq_right h,Nat.min_eq_right (Nat.le_succ_of_le h),cut,List.drop_eq_nil_of_le (by rw [List.length_take]; exact Nat.min_le_left _ _)]
theorem z06 {H:Hp} {g:Nat} {vs:List V} {j:Nat} {v:V} (hg:H[g]? = some (.list vs)) (hv:vs[j]? = some v):cutM H (.obj g) (.int (j:Int)) (.int ((j + 1:Nat):Int)) = some (.obj H.length,H++[.list [v]]):=by
 obtain ⟨hj,e⟩:=List.getElem?_eq_some_iff.mp hv
 rw [z4d hg,Nat.min_eq_left (Nat.le_of_lt hj),Nat.min_eq_left hj,cut,List.drop_take,List.drop_eq_getElem_cons hj,show j.succ - j = 1 from Nat.add_sub_cancel_left j 1,e]
 rfl
theorem ifI_t {c:Bool} {f g:Unit→Prop} (h:c = true) (k:f ()):@ifI ⟨f⟩ ⟨g⟩ c:=by subst h; exact @ifI.mk ⟨f⟩ ⟨g⟩ _ k
theorem ifI_f {c:Bool} {f g:Unit→Prop} (h:c = false) (k:g ()):@ifI ⟨f⟩ ⟨g⟩ c:=by subst h; exact @ifI.mk ⟨f⟩ ⟨g⟩ _ k
theorem zkt (acc:List It) (x:It):flatI (acc++[x]) = flatI acc++x.1:=by rw [flatI,List.flatMap_append,List.flatMap_singleton]
theorem zku (x:It) (r:List It):(flatI (x::r)).length = x.1.length + (flatI r).length:=by rw [flatI,List.flatMap_cons,List.length_append]
theorem zov (acc:List It) (x:It) (r:List It):(flatI (acc++[x])).length + (flatI r).length = (flatI acc).length + (flatI (x::r)).length:=by rw [zkt,zku,List.length_append,Nat.add_assoc]
theorem zjg {acc:List It} {x:It} {r:List It} (h:(flatI acc).length + (flatI (x::r)).length≤90000):((flatI acc).length + x.1.length≤cap) = True:=
 eq_true (Nat.le_trans (Nat.le_trans (Nat.add_le_add_left (by rw [zku]; exact Nat.le_add_right _ _) _) h) (by decide))
theorem z3z (x:It) (r:List It):(flatI r).length≤(flatI (x::r)).length:=by rw [zku]; exact Nat.le_add_left _ _
theorem z13 {l:List Nat} {a:Nat} (h:(l == [a]) = true):l = [a]:=eq_of_beq h
theorem z12 {l:List Nat} {a:Nat} (h:(l == [a]) = false):l≠[a]:=fun e=>by subst e; rw [beq_self_eq_true] at h; cases h
include G
theorem zuc (d g mk:Nat) (shell:Bool) (is:List It) (vs:List V):∀ (n:Nat) (m:Lo) (acc rest:List It) (k:Nat) (H:Hp) (S:Fl×Lo→Hp→Prop) (E:EK→Hp→Prop),rest.length≤n→is.drop k = rest→k≤is.length→is.length≤1000→
  (flatI acc).length + (flatI rest).length≤90000→LQ m g mk shell (flatI acc) k→H[g]? = some (.list vs)→RelI H vs is→
  (∀ m' H' r,Grow H H'→quoI mk shell acc rest = (none,r)→LQ m' g mk shell (flatI acc) is.length∨True→m' "k" = some (.int is.length)→S (.next,m') H')→
  (∀ m' H' q r k',Grow H H'→quoI mk shell acc rest = (some q,r)→is.drop k' = r→k'≤is.length→k < k'→∀ o,H'[o]? = some (.list [.str (flatI q),.int k'])→S (.ret (.obj o),m') H')→
  @WpI _ ⟨S⟩ ⟨E⟩ (whl (prg K) d zai m (zcq zew) (zas zew)) H:=by
  intro n
  induction n using Nat.strongRecOn with
  | ind n ih=>
  intro m acc rest k H S E hn hd hk hlen hcap L hg R h1 h2
  obtain ⟨hs,hm,hsh,hsa,hkk⟩:=L
  have hl:=R.len
  refine wl_while ?_
  refine wi_tcmp rfl ?_
  open_k with [zan,hkk,hs,zlt,zhd hg,hl,z7y]
  refine zc0 (fun hlt=>?_) (fun hge=>?_)
  ·obtain ⟨x,r,hr⟩:∃ x r,rest = x::r:=⟨is[k],is.drop (k + 1),by rw [← hd]; exact List.drop_eq_getElem_cons hlt⟩
   subst hr
   have hx0:is[k]? = some x:=zfa hd
   obtain ⟨kx,hvx,hHx⟩:=R.at k x hx0
   have hr1:is.drop (k + 1) = r:=zf8 hd
   have hrl:r.length = is.length - (k + 1):=by rw [← hr1,List.length_drop]
   have lb1:localB zai "sign" = true:=by kernel_rfl
   have lb2:localB zai "acts" = true:=by kernel_rfl
   cases n with
   | zero=>exact absurd hn (Nat.not_succ_le_zero _)
   | succ n=>
   have again:∀ (m':Lo) (H':Hp) (acc' rest':List It) (k':Nat),Grow H H'→quoI mk shell acc' rest' = quoI mk shell acc (x::r)→rest'.length≤n→is.drop k' = rest'→k'≤is.length→k < k'→(flatI acc').length + (flatI rest').length≤90000→LQ m' g mk shell (flatI acc') k'→
     @WpI _ ⟨S⟩ ⟨E⟩ (whl (prg K) d zai m' (zcq zew) (zas zew)) H':=fun m' H' acc' rest' k' gr q1 q2 q3 q4 q5 q6 q7=>
    ih n (Nat.lt_succ_self n) m' acc' rest' k' H' S E q2 q3 q4 hlen q6 q7 (gr.at hg) (R.grow gr) (fun m2 H2 r2 g2 e2 _ e3=>h1 m2 H2 r2 (gr.trans g2) (q1 ▸ e2) (.inr trivial) e3) (fun m2 H2 q r2 k2 g2 e2 e3 e4 e5 o eo=>h2 m2 H2 q r2 k2 (gr.trans g2) (q1 ▸ e2) e3 e4 (Nat.lt_trans q5 e5) o eo)
   have cp:=zjg hcap
   have c2:(2 < cap) = True:=eq_true (by decide)
   have fx:=zkt acc x
   have hn':r.length≤n:=Nat.le_of_succ_le_succ hn
   have plus:∀ m':Lo,quoI mk shell (acc++[x]) r = quoI mk shell acc (x::r)→LQ m' g mk shell (flatI acc++x.1) (k + 1)→@WpI _ ⟨S⟩ ⟨E⟩ (whl (prg K) d zai m' (zcq zew) (zas zew)) H:=fun m' q1 q2=>
    again m' H (acc++[x]) r (k + 1) (Grow.refl H) q1 hn' hr1 hlt (Nat.lt_succ_self _) ((zov acc x r).symm ▸ hcap) (fx ▸ q2)
   have lq:LQ (upd (upd (upd (upd m "sign" (.str x.1)) "acts" (.bool x.2)) "k" (.int ((k + 1:Nat):Int))) "said" (.str (flatI acc++x.1))) g mk shell (flatI acc++x.1) (k + 1):=
    ⟨(by kernel_rfl:_ = _).trans hs,(by kernel_rfl:_ = _).trans hm,(by kernel_rfl:_ = _).trans hsh,by kernel_rfl,by kernel_rfl⟩
   have hmd:=zj7 mk shell acc x r
   refine zaj rfl ?_
   open_k with [zan,hs,hkk,zbr hg hvx,zet hHx lb1 lb2]
   refine ifI_split (fun b1=>?_) (fun b1=>?_)
   rotate_left
   ·open_k with [zan]
    refine ifI_f b1 ?_
    open_k with [zan,hsa,cp]
    have no (j:Nat) (q:keyI x = some j):False:=by rw [((zcx x j).mp q).1] at b1; cases b1
    exact plus _ (by rw [hmd,if_neg (no mk),if_neg (fun q=>no 92 q.1)]) lq
   open_k with [zan,hm]
   refine ifI_split (fun b2=>?_) (fun b2=>?_)
   ·open_k with [zan,hsa,c2]
    exact h2 _ _ acc r (k + 1) (Grow.one H _) (by rw [hmd,if_pos ((zcx x mk).mpr ⟨b1,z13 b2⟩)]) hr1 hlt (Nat.lt_succ_self _) _ (by rw [List.getElem?_concat_length]; rfl)
   have nk:keyI x≠some mk:=fun q=>z12 b2 ((zcx x mk).mp q).2
   open_k with [zan]
   refine ifI_t b1 ?_
   open_k with [zan]
   refine ifI_split (fun b3=>?_) (fun b3=>?_)
   rotate_left
   ·open_k with [zan,hsa,cp]
    exact plus _ (by rw [hmd,if_neg nk,if_neg (fun q=>z12 b3 ((zcx x 92).mp q.1).2)]) lq
   have hx92:=z13 b3
   open_k with [zan,hm]
   refine ifI_split (fun b4=>?_) (fun b4=>?_)
   rotate_left
   ·open_k with [zan,hsa,cp]
    exact plus _ (by rw [hmd,if_neg nk,if_neg (fun q=>z12 b4 (congrArg (fun j=>[j]) q.2.1))]) lq
   have hmk:mk = 34:=(List.cons.inj (z13 b4)).1
   subst hmk
   open_k with [zan,hsh]
   refine ifI_split (fun b5=>?_) (fun b5=>?_)
   rotate_left
   ·subst b5
    open_k with [zan,hsa,cp]
    exact plus _ (by rw [hmd,if_neg nk,if_neg (fun q=>by cases q.2.2)]) lq
   subst b5
   open_k with [zan,hs,hkk]
   have hq0:keyI x = some 92∧(34:Nat) = 34∧true = true:=⟨(zcx x 92).mpr ⟨b1,hx92⟩,rfl,rfl⟩
   have c1:(1 < cap) = True:=eq_true (by decide)
   cases r with
   | nil=>
     have hke:is.length≤k + 1:=Nat.le_of_sub_eq_zero hrl.symm
     have hc:∀ H':Hp,H'[g]? = some (.list vs)→cutM H' (.obj g) (.int ((k:Int) + 1)) (.int ((k:Int) + 1 + 1)) = some (.obj H'.length,H'++[.list []]):=fun H' hg'=>z07 (j:=k + 1) hg' (hl.symm ▸ hke)
     have f1:=zhb (H:=H) (sl:=[]) (c:=34) (b:=false) (.inl ⟨rfl,rfl⟩)
     have gr1:Grow H (H++[O.list []]++[O.list [V.str [34],V.bool true]]++[O.list [V.obj (List.length (H++[O.list []]))]]):=((Grow.one _ _).trans (Grow.one _ _)).trans (Grow.one _ _)
     open_k with [hc H hg,zan,c1,c2,f1]
     generalize H++[O.list []]++[O.list [V.str [34],V.bool true]]++[O.list [V.obj (List.length (H++[O.list []]))]] = H1 at gr1
     have f2:=zhb (H:=H1) (sl:=[]) (c:=92) (b:=false) (.inl ⟨rfl,rfl⟩)
     have gr2:Grow H1 (H1++[O.list []]++[O.list [V.str [92],V.bool true]]++[O.list [V.obj (List.length (H1++[O.list []]))]]):=((Grow.one _ _).trans (Grow.one _ _)).trans (Grow.one _ _)
     open_k with [hs,hkk,hc H1 (gr1.at hg),zan,c1,c2,f2]
     generalize H1++[O.list []]++[O.list [V.str [92],V.bool true]]++[O.list [V.obj (List.length (H1++[O.list []]))]] = H2 at gr2
     open_k with [hsa,zan,cp]
     exact again _ H2 (acc++[x]) [] (k + 1) (gr1.trans gr2) (by rw [hmd,if_neg nk,if_pos hq0]; rfl) (Nat.zero_le _) hr1 hlt (Nat.lt_succ_self _) ((zov acc x []).symm ▸ hcap) (fx ▸ lq)
   | cons y r'=>
     have hy0:is[k + 1]? = some y:=zfa hr1
     obtain ⟨ky,hvy,hHy⟩:=R.at (k + 1) y hy0
     have hlt2:k + 1 < is.length:=(List.getElem?_eq_some_iff.mp hy0).1
     have a1:k + 1 < vs.length:=hl.symm ▸ hlt2
     have hr2:is.drop (k + 2) = r':=zf8 hr1
     have hc:∀ H':Hp,H'[g]? = some (.list vs)→cutM H' (.obj g) (.int ((k:Int) + 1)) (.int ((k:Int) + 1 + 1)) = some (.obj H'.length,H'++[.list [.obj ky]]):=fun H' hg'=>z06 (j:=k + 1) hg' hvy
     have f1:=zhb (H:=H) (sl:=[.obj ky]) (c:=34) (b:=(y.1 == [34] && y.2)) (.inr ⟨ky,_,_,rfl,hHy,rfl⟩)
     have gr1:Grow H (H++[O.list [.obj ky]]++[O.list [V.str [34],V.bool true]]++[O.list [V.obj (List.length (H++[O.list [.obj ky]]))]]):=((Grow.one _ _).trans (Grow.one _ _)).trans (Grow.one _ _)
     have fy:=zkt acc y
     have hcy:(flatI acc).length + (flatI (y::r')).length≤90000:=Nat.le_trans (Nat.add_le_add_left (z3z x _) _) hcap
     have cpy:=zjg hcy
     have k34:(y.1 == [34] && y.2) = true ↔ keyI y = some 34:=by rw [zcx,Bool.and_eq_true,beq_iff_eq,and_comm]
     have k92:(y.1 == [92] && y.2) = true ↔ keyI y = some 92:=by rw [zcx,Bool.and_eq_true,beq_iff_eq,and_comm]
     have take2:∀ (m':Lo) (H':Hp),Grow H H'→(keyI y = some 34∨keyI y = some 92)→LQ m' g 34 true (flatI acc++y.1) (k + 2)→@WpI _ ⟨S⟩ ⟨E⟩ (whl (prg K) d zai m' (zcq zew) (zas zew)) H':=fun m' H' gr hy q=>
      again m' H' (acc++[y]) r' (k + 2) gr (by rw [hmd,if_neg nk,if_pos hq0]; exact (if_pos hy).symm) (Nat.le_of_succ_le (Nat.le_of_succ_le_succ hn)) hr2 hlt2 (Nat.lt_add_of_pos_right (by decide)) ((zov acc y r').symm ▸ hcy) (fy ▸ q)
     have lq2:∀ z:V,LQ (upd (upd (upd (upd (upd (upd m "sign" (.str x.1)) "acts" (.bool x.2)) "k" (.int ((k:Int) + 1))) "sign" z) "k" (.int ((k:Int) + 1 + 1))) "said" (.str (flatI acc++y.1))) g 34 true (flatI acc++y.1) (k + 2):=fun z=>
      ⟨(by kernel_rfl:_ = _).trans hs,(by kernel_rfl:_ = _).trans hm,(by kernel_rfl:_ = _).trans hsh,by kernel_rfl,by kernel_rfl⟩
     open_k with [hc H hg,zan,c1,c2,f1]
     generalize H++[O.list [.obj ky]]++[O.list [V.str [34],V.bool true]]++[O.list [V.obj (List.length (H++[O.list [.obj ky]]))]] = H1 at gr1
     have hg1:=gr1.at hg
     have hHy1:=gr1.at hHy
     have sb1:subM K.F H1 (.obj g) (.int ((k:Int) + 1)) = some (.obj ky):=zbr (i:=k + 1) hg1 hvy
     have sb2:∀ H',H'[ky]? = some (.list [.str y.1,.bool y.2])→subM K.F H' (.obj ky) (.int 0) = some (.str y.1):=fun H' h=>zbr (i:=0) h rfl
     refine ifI_split (fun b1=>?_) (fun b1=>?_)
     ·open_k with [hs,hkk,zan,sb1,sb2 H1 hHy1,hsa,cpy]
      exact take2 _ H1 gr1 (.inl (k34.mp b1)) (lq2 _)
     have f2:=zhb (H:=H1) (sl:=[.obj ky]) (c:=92) (b:=(y.1 == [92] && y.2)) (.inr ⟨ky,_,_,rfl,hHy1,rfl⟩)
     have gr2:Grow H1 (H1++[O.list [.obj ky]]++[O.list [V.str [92],V.bool true]]++[O.list [V.obj (List.length (H1++[O.list [.obj ky]]))]]):=((Grow.one _ _).trans (Grow.one _ _)).trans (Grow.one _ _)
     open_k with [hs,hkk,hc H1 hg1,zan,c1,c2,f2]
     generalize H1++[O.list [.obj ky]]++[O.list [V.str [92],V.bool true]]++[O.list [V.obj (List.length (H1++[O.list [.obj ky]]))]] = H2 at gr2
     have hg2:=gr2.at hg1
     have hHy2:=gr2.at hHy1
     have sb3:subM K.F H2 (.obj g) (.int ((k:Int) + 1)) = some (.obj ky):=zbr (i:=k + 1) hg2 hvy
     refine ifI_split (fun b2=>?_) (fun b2=>?_)
     ·open_k with [hs,hkk,zan,sb3,sb2 H2 hHy2,hsa,cpy]
      exact take2 _ H2 (gr1.trans gr2) (.inr (k92.mp b2)) (lq2 _)
     open_k with [hsa,zan,cp]
     exact again _ H2 (acc++[x]) (y::r') (k + 1) (gr1.trans gr2) (by
      rw [hmd,if_neg nk,if_pos hq0]
      exact (if_neg (fun q=>by
       rcases q with q | q
       ·rw [k34.mpr q] at b1; cases b1
       ·rw [k92.mpr q] at b2; cases b2)).symm) hn' hr1 hlt (Nat.lt_succ_self _) ((zov acc x (y::r')).symm ▸ hcap) (fx ▸ lq)
  ·have hke:k = is.length:=Nat.le_antisymm hk (Nat.le_of_not_lt hge)
   have hr0:rest = []:=by rw [← hd,hke]; exact List.drop_length
   subst hr0
   refine h1 m H [] (Grow.refl H) rfl (.inr trivial) (by rw [hkk,hke])
theorem zqo (d g mk:Nat) (shell:Bool) (is:List It) (vs:List V) (k:Nat) (H:Hp) (Q:V→Hp→Prop) (E:EK→Hp→Prop) (hk:k≤is.length) (hlen:is.length≤1000) (hcap:(flatI (is.drop k)).length≤90000) (hg:H[g]? = some (.list vs)) (R:RelI H vs is)
  (h1:∀ r,quoI mk shell [] (is.drop k) = (none,r)→∀ H' o,Grow H H'→H'[o]? = some (.list [.none,.int is.length])→Q (.obj o) H')
  (h2:∀ q r k',quoI mk shell [] (is.drop k) = (some q,r)→is.drop k' = r→k'≤is.length→k < k'→∀ H' o,Grow H H'→H'[o]? = some (.list [.str (flatI q),.int k'])→Q (.obj o) H'):
  @WpI _ ⟨Q⟩ ⟨E⟩ (call (prg K) (d + 1) (.top (.ref 796)) [.obj g,.int k,.str [mk],.bool shell] [] []) H:=by
 refine z0f ?_
 refine zaj rfl ?_
 have c2:(2 < cap) = True:=eq_true (by decide)
 open_k with [zan]
 refine zuc G d g mk shell is vs _ _ [] (is.drop k) k H _ E (Nat.le_refl _) rfl hk hlen (Nat.le_trans (Nat.le_of_eq (Nat.zero_add _)) hcap) ⟨by kernel_rfl,by kernel_rfl,by kernel_rfl,by kernel_rfl,by kernel_rfl⟩ hg R (fun m' H' r gr e _ e3=>?_) (fun m' H' q r k' gr e e2 e3 e4 o eo=>?_)
 ·open_k with [zan,e3,c2]
  exact h1 r e _ _ (gr.trans (Grow.one _ _)) (by rw [List.getElem?_concat_length])
 ·open_k with [rfl_]
  exact h2 q r k' e e2 e3 e4 H' o gr eo
end
noncomputable def QRun (noted shell:Bool) (mk:Nat) (ws:List (List It)) (w:List It):Option (List It)×List It→Option (List (List It))
 | (none,_)=>none
 | (some q,r)=>if shell then runF noted shell keyI .out ws (some (w++q)) r else runF noted shell keyI .out (ws++[w++q++[([mk],true)]]) none r
theorem z1s {noted shell:Bool} {mk:Nat} (hm:mk = 34∨mk = 39) (n:Nat):∀ (l acc w:List It) (ws:List (List It)),l.length≤n→runF noted shell keyI (.quo mk) ws (some (w++acc)) l = QRun noted shell mk ws w (quoI mk shell acc l):=by
 induction n using Nat.strongRecOn with
 | _ n ih=>
 intro l acc w ws h
 cases l with
 | nil=>rfl
 | cons x r=>
   have one (acc':List It) (y:It) (e:acc' = acc++[y]):runF noted shell keyI (.quo mk) ws (some (w++acc++[y])) r = QRun noted shell mk ws w (quoI mk shell acc' r):=by
    rw [List.append_assoc,e]; exact ih r.length h r _ w ws (Nat.le_refl _)
   rw [zfk,zj7]
   by_cases hx:keyI x = some mk
   ·rw [if_pos hx,if_pos hx]
    obtain ⟨a,b⟩:=(zcx x mk).mp hx
    rw [show x = ([mk],true) from Prod.ext b a]
    rfl
   rw [if_neg hx,if_neg hx]
   by_cases c2:keyI x = some 92∧mk = 34∧shell
   ·rw [if_pos c2,if_pos c2]
    cases r with
    | nil=>rfl
    | cons y r'=>
      refine (?_:(if keyI y = some 34∨keyI y = some 92 then _ else _) = QRun noted shell mk ws w (if keyI y = some 34∨keyI y = some 92 then _ else _))
      by_cases c3:keyI y = some 34∨keyI y = some 92
      ·rw [if_pos c3,if_pos c3]
       show runF noted shell keyI (.quo mk) ws (some (w++acc++[y])) r' = _
       rw [List.append_assoc]
       exact ih r'.length (Nat.lt_of_lt_of_le (Nat.lt_succ_of_lt (Nat.lt_succ_self _)) h) r' _ w ws (Nat.le_refl _)
      ·rw [if_neg c3,if_neg c3]; exact one _ x rfl
   ·rw [if_neg c2,if_neg c2]; exact one _ x rfl
theorem RelI.stay {H H':Hp} {a:Nat} (s:Stay H H' [a]) {vs:List V} {is:List It} (r:RelI H vs is) (n:∀ k,.obj k∈vs→k < a):RelI H' vs is:=Rel.stay s r fun k h=>Nat.ne_of_lt (n k h)
noncomputable def wV:Option (List It)→V
 | none=>.none
 | some w=>.str (flatI w)
noncomputable def tw:Option (List It)→Bool
 | none=>false
 | some w=>!(flatI w).isEmpty
theorem z5x (H:Hp) (w:Option (List It)):zeq H (wV w) = some (tw w):=by cases w <;> rfl
theorem wV_true {w:Option (List It)} (h:tw w = true):wV w = .str (flatI (w.getD [])):=by cases w with | none=>cases h | some w=>rfl
theorem z5j {w:Option (List It)} (h:tw w = false):flatI (w.getD []) = []:=by
 cases w with
 | none=>rfl
 | some w=>simpa [tw] using h
theorem zom (w:Option (List It)):isV (wV w) .none = some w.isNone:=by cases w <;> rfl
theorem zs7 {w:Option (List It)} (h:w.isNone = false):wV w = .str (flatI (w.getD []))∧w = some (w.getD []):=by cases w with | none=>cases h | some w=>exact ⟨rfl,rfl⟩
section
variable {K:Wd}
theorem word_or (w:Option (List It)) {d u:Nat} {m:Lo} {Q:V→Hp→Prop} {E:EK→Hp→Prop} {H:Hp} {p1 p2 p3:Pos} {k:Nat} (h:m "word" = some (wV w)):@RecF.e (RF (prg K) d zae (u + 2)) m ⟨Q⟩ ⟨E⟩ H (.BoolOp .Or [.Name "word" p1,.Constant (.str "") k p2] p3) = Q (.str (flatI (w.getD []))) H:=by
 open_k with [kd_words,h,z5x]
 cases q:tw w with
 | true=>rw [wV_true q]; exact zon _ _
 | false=>rw [z5j q]; exact zr0 _ _
end
structure LW (m:Lo) (g a:Nat) (noted shell:Bool) (w:Option (List It)) (k:Nat):Prop where
 signs:m "signs" = some (.obj g)
 noted:m "noted" = some (.bool noted)
 shell:m "shell" = some (.bool shell)
 words:m "words" = some (.obj a)
 word:m "word" = some (wV w)
 k:m "k" = some (.int k)
theorem z9x (a b:List It):wV (some (a++b)) = .str (flatI a++flatI b):=congrArg V.str List.flatMap_append
theorem zhj (a:List It) (x:It):wV (some (a++[x])) = .str (flatI a++x.1):=(z9x a [x]).trans (congrArg (fun z=>V.str (flatI a++z)) (List.flatMap_singleton _ x))
noncomputable abbrev wdV (ws:List (List It)):List V:=ws.map fun w=>.str (flatI w)
theorem ne_pair {H:Hp} {x y:Nat} {s:List Nat} {t:Bool} {c:Nat} (hx:H[x]? = some (.list [.str s,.bool t])) (hy:H[y]? = some (.list [.str [c],.bool true])) (hxy:x≠y):
  cmpM H .NotEq (.obj x) (.obj y) = some (!(s == [c] && t)):=by
 have e1:eqV H 4 (.obj x) (.obj y) = some (s == [c] && t):=by
  rw [eqV_sb hx hy hxy]; cases t <;> rfl
 show (eqV H 4 (.obj x) (.obj y)).map (!·) = _
 rw [e1]; rfl
noncomputable def zc4:Stmt:=nthS (zar zff) 3
noncomputable def zi2:List It→List It
 | []=>[]
 | x::r=>if keyI x = some 10 then r else zi2 r
theorem zox (x:It) (r:List It):zi2 (x::r) = if keyI x = some 10 then r else zi2 r:=rfl
theorem zr8:∀ l:List It,(zi2 l).length≤l.length
 | []=>Nat.le_refl _
 | x::r=>by
   rw [zox]
   by_cases h:keyI x = some 10
   ·rw [if_pos h]; exact Nat.le_succ _
   ·rw [if_neg h]; exact Nat.le_succ_of_le (zr8 r)
theorem zj3 {noted shell:Bool}:∀ (l:List It) (ws:List (List It)) (w:Option (List It)),runF noted shell keyI .com ws w l = runF noted shell keyI .out ws w (zi2 l)
 | [],ws,w=>rfl
 | x::r,ws,w=>by
   rw [zne,zox]
   by_cases h:keyI x = some 10
   ·rw [if_pos h,if_pos h]
   ·rw [if_neg h,if_neg h,zj3 r]
noncomputable def ifElse (s:Stmt):List Stmt:=(sV s).2.1
noncomputable def wcIf:Stmt:=nthS (ifElse (nthS (zas zc4) 2)) 0
noncomputable def z0h:Stmt:=nthS (zas wcIf) 0
section
variable {K:Wd} (G:Gl K)
include G
theorem zt5 (d g a:Nat) (noted shell:Bool) (w:Option (List It)) (is:List It) (vs:List V) (hlen:is.length≤1000):∀ (n:Nat) (m:Lo) (rest:List It) (k:Nat) (H:Hp) (S:Fl×Lo→Hp→Prop) (E:EK→Hp→Prop),rest.length≤n→is.drop k = rest→
  LW m g a noted shell w k→H[g]? = some (.list vs)→RelI H vs is→
  (∀ m' H' k',Grow H H'→LW m' g a noted shell w k'→is.drop (k' + 1) = zi2 rest→S (.next,m') H')→@WpI _ ⟨S⟩ ⟨E⟩ (whl (prg K) d zae m (zcq z0h) (zas z0h)) H:=by
  intro n
  induction n using Nat.strongRecOn with
  | ind n ih=>
  intro m rest k H S E hn hd L hg R hS
  have L0:=L
  obtain ⟨h1,h2,h3,h4,h5,h6⟩:=L
  have hl:=R.len
  refine wl_while ?_
  refine wi_tand rfl ?_
  have c2:(2 < cap) = True:=eq_true (by decide)
  open_k with [kd_words,h1,h6,zlt,zhd hg,hl,z7y]
  refine zc0 (fun hlt=>?_) (fun hge=>?_)
  ·obtain ⟨x,r,hr⟩:∃ x r,rest = x::r:=⟨is[k],is.drop (k + 1),by rw [← hd]; exact List.drop_eq_getElem_cons hlt⟩
   subst hr
   have hx0:is[k]? = some x:=zfa hd
   obtain ⟨kx,hvx,hHx⟩:=R.at k x hx0
   have hr1:is.drop (k + 1) = r:=zf8 hd
   have hxl:=(List.getElem?_eq_some_iff.mp hHx).1
   have gr:=Grow.one H (O.list [V.str [10],V.bool true])
   have f1:=ne_pair (H:=H++[O.list [V.str [10],V.bool true]]) (gr.at hHx) (List.getElem?_concat_length) (Nat.ne_of_lt (by assumption))
   open_k with [kd_words,h1,h6,zbr hg hvx,c2,f1]
   refine ifI_split (fun b1=>?_) (fun b1=>?_)
   ·have nk:keyI x≠some 10:=fun q=>by
     obtain ⟨q1,q2⟩:=(zcx x 10).mp q
     rw [q1,q2] at b1; cases b1
    cases n with
    | zero=>simp at hn
    | succ n=>
    open_k with [rfl_]
    refine zaj rfl ?_
    open_k with [kd_words,h6]
    refine ih n (Nat.lt_succ_self n) _ r (k + 1) _ S E (Nat.le_of_succ_le_succ hn) hr1 ⟨(by kernel_rfl:_ = _).trans h1,(by kernel_rfl:_ = _).trans h2,(by kernel_rfl:_ = _).trans h3,(by kernel_rfl:_ = _).trans h4,(by kernel_rfl:_ = _).trans h5,by kernel_rfl⟩ (gr.at hg) (R.grow gr) (fun m' H' k' g' l' e'=>hS m' H' k' (gr.trans g') l' (by rw [e',zi2,if_neg nk]))
   ·have hk:keyI x = some 10:=(zcx x 10).mpr (by
     have:(x.1 == [10] && x.2) = true:=(Bool.not_eq_false' _).mp b1
     rw [Bool.and_eq_true,beq_iff_eq] at this
     exact ⟨this.2,this.1⟩)
    open_k with [rfl_]
    exact hS m _ k gr L0 (by rw [hr1,zox,if_pos hk])
  ·have hr0:rest = []:=by rw [← hd]; exact List.drop_eq_nil_of_le (Nat.le_of_not_lt (by assumption))
   subst hr0
   open_k with [rfl_]
   exact hS m H k (Grow.refl H) L0 (by rw [← List.drop_drop,hd]; rfl)
omit G in
theorem zu9 (a:List It) (y:It):(flatI (a++[y])).length = (flatI a).length + y.1.length:=by rw [flatI,List.flatMap_append,List.flatMap_singleton,List.length_append]
omit G in
theorem zkv (y:It) (l:List It):(flatI (y::l)).length = y.1.length + (flatI l).length:=by rw [flatI,List.flatMap_cons,List.length_append]
noncomputable def QLen (acc l q r:List It):Prop:=(flatI q).length + (flatI r).length≤(flatI acc).length + (flatI l).length∧r.length + 1≤l.length
omit G in
theorem QLen.step {acc l q r:List It} {x:It} (h:QLen (acc++[x]) l q r):QLen acc (x::l) q r:=by
 obtain ⟨a,b⟩:=h
 rw [zu9] at a
 refine ⟨?_,Nat.le_succ_of_le b⟩
 rw [zkv,← Nat.add_assoc]; exact a
omit G in
theorem QLen.skip {acc l q r:List It} {x:It} (h:QLen acc l q r):QLen acc (x::l) q r:=by
 refine ⟨Nat.le_trans h.1 (Nat.add_le_add_left ?_ _),Nat.le_succ_of_le h.2⟩
 rw [zkv]; exact Nat.le_add_left _ _
omit G in
theorem zwt {mk:Nat} {shell:Bool} (n:Nat):∀ (l acc q r:List It),l.length≤n→quoI mk shell acc l = (some q,r)→QLen acc l q r:=by
 induction n using Nat.strongRecOn with
 | _ n ih=>
 intro l acc q r h e
 cases l with
 | nil=>have e:((none,[]):Option (List It)×List It) = (some q,r):=e; cases e
 | cons x l=>
   have one (acc':List It) (e:quoI mk shell acc' l = (some q,r)):QLen acc' l q r:=ih l.length h l acc' q r (Nat.le_refl _) e
   rw [zj7] at e
   by_cases c1:keyI x = some mk
   ·rw [if_pos c1] at e
    cases e
    exact ⟨Nat.add_le_add_left (by rw [zkv]; exact Nat.le_add_left _ _) _,Nat.le_refl _⟩
   rw [if_neg c1] at e
   by_cases c2:keyI x = some 92∧mk = 34∧shell
   ·rw [if_pos c2] at e
    cases l with
    | nil=>cases e
    | cons y l'=>
      have e:(if keyI y = some 34∨keyI y = some 92 then quoI mk shell (acc++[y]) l' else quoI mk shell (acc++[x]) (y::l')) = (some q,r):=e
      by_cases c3:keyI y = some 34∨keyI y = some 92
      ·rw [if_pos c3] at e
       exact (ih l'.length (Nat.lt_of_lt_of_le (Nat.lt_succ_of_lt (Nat.lt_succ_self _)) h) l' _ q r (Nat.le_refl _) e).step.skip
      ·rw [if_neg c3] at e
       exact (one _ e).step
   ·rw [if_neg c2] at e
    exact (one _ e).step
omit G in
theorem z2t {α:Type} (ws:List α) (v:α) {b n:Nat} (h:b≤n):(ws++[v]).length + b≤ws.length + (n + 1):=by
 rw [List.length_append,Nat.add_assoc]
 exact Nat.add_le_add_left (Nat.le_trans (Nat.le_of_eq (Nat.add_comm 1 b)) (Nat.succ_le_succ h)) _
omit G in
theorem z7l {α:Type} (ws:List α) {b n:Nat} (h:b≤n):ws.length + b≤ws.length + (n + 1):=Nat.add_le_add_left (Nat.le_succ_of_le h) _
structure WEnd (H0:Hp) (g a:Nat) (noted shell:Bool) (ws:List (List It)) (w:Option (List It)) (rest:List It) (S:Fl×Lo→Hp→Prop):Prop where
 none:runF noted shell keyI .out ws w rest = none→∀ m' H',Stay H0 H' [a]→S (.ret .none,m') H'
 some:∀ ws' w' m' H' k',runF noted shell keyI .out ws w rest = some (ws'++w'.toList)→LW m' g a noted shell w' k'→H'[a]? = .some (.list (wdV ws'))→Stay H0 H' [a]→ws'.length≤ws.length + rest.length→S (.next,m') H'
theorem zxw (d g a:Nat) (noted shell:Bool) (is:List It) (vs:List V) (hlen:is.length≤1000) (hone:∀ x∈is,x.2 = true→∃ c,x.1 = [c]) (hcap:(flatI is).length≤20000) (hva:∀ k,V.obj k∈vs→k < a) (hga:g < a):∀ (n:Nat) (m:Lo) (ws:List (List It)) (w:Option (List It)) (rest:List It) (k:Nat) (H:Hp) (S:Fl×Lo→Hp→Prop) (E:EK→Hp→Prop),rest.length≤n→is.drop k = rest→
  LW m g a noted shell w k→H[g]? = some (.list vs)→RelI H vs is→H[a]? = some (.list (wdV ws))→ws.length + rest.length≤5000→(flatI (w.getD [])).length + (flatI rest).length≤20000→WEnd H g a noted shell ws w rest S→
  @WpI _ ⟨S⟩ ⟨E⟩ (whl (prg K) (d + 1) zae m (zcq zc4) (zas zc4)) H:=by
  intro n
  induction n using Nat.strongRecOn with
  | ind n ih=>
  intro m ws w rest k H S E hn hd L hg R ha hws hwl W
  have L0:=L
  obtain ⟨h1,h2,h3,h4,h5,h6⟩:=L
  have hl:=R.len
  refine wl_while ?_
  refine wi_tcmp rfl ?_
  have c2:(2 < cap) = True:=eq_true (by decide)
  open_k with [kd_words,h1,h6,zlt,zhd hg,hl,z7y]
  refine zc0 (fun hlt=>?_) (fun hge=>?_)
  ·obtain ⟨x,r,hr⟩:∃ x r,rest = x::r:=⟨is[k],is.drop (k + 1),by rw [← hd]; exact List.drop_eq_getElem_cons hlt⟩
   subst hr
   have hx0:is[k]? = some x:=zfa hd
   obtain ⟨kx,hvx,hHx⟩:=R.at k x hx0
   have hr1:is.drop (k + 1) = r:=zf8 hd
   have lb1:localB zae "sign" = true:=by kernel_rfl
   have lb2:localB zae "acts" = true:=by kernel_rfl
   have tl:=z3z x r
   have szr:(flatI r).length≤20000:=Nat.le_trans tl (Nat.le_trans (Nat.le_add_left _ _) hwl)
   have hfd:∀ j,(flatI (is.drop j)).length≤20000:=fun j=>by
    have:flatI is = flatI (is.take j)++flatI (is.drop j):=by rw [flatI,flatI,flatI,← List.flatMap_append,List.take_append_drop]
    have:=congrArg List.length this
    rw [List.length_append] at this
    lia
   cases n with
   | zero=>exact absurd hn (Nat.not_succ_le_zero _)
   | succ n=>
   have hn':r.length≤n:=Nat.le_of_succ_le_succ hn
   have again:∀ (m':Lo) (H':Hp) (ws':List (List It)) (w':Option (List It)) (rest':List It) (k':Nat),Stay H H' [a]→runF noted shell keyI .out ws' w' rest' = runF noted shell keyI .out ws w (x::r)→rest'.length≤n→is.drop k' = rest'→LW m' g a noted shell w' k'→H'[a]? = some (.list (wdV ws'))→
     ws'.length + rest'.length≤ws.length + (r.length + 1)→(flatI (w'.getD [])).length + (flatI rest').length≤20000→@WpI _ ⟨S⟩ ⟨E⟩ (whl (prg K) (d + 1) zae m' (zcq zc4) (zas zc4)) H':=fun m' H' ws' w' rest' k' s q1 q2 q3 q4 q5 q6 q7=>
    ih n (Nat.lt_succ_self n) m' ws' w' rest' k' H' S E q2 q3 q4 (s.at hg (nm1 (Nat.ne_of_lt hga))) (R.stay s hva) q5 (Nat.le_trans q6 hws) q7
     ⟨fun e m2 H2 t=>W.none (q1 ▸ e) m2 H2 (s.trans t),fun ws2 w2 m2 H2 k2 e l2 a2 t b2=>W.some ws2 w2 m2 H2 k2 (q1 ▸ e) l2 a2 (s.trans t) (Nat.le_trans b2 q6)⟩
   have ro:=zec (noted:=noted) (shell:=shell) (key:=keyI) ws w x r
   have ek:(k:Int) + 1 = ((k + 1:Nat):Int):=rfl
   have cpx:((flatI (w.getD [])).length + x.1.length≤cap) = True:=zjg (Nat.le_trans hwl (by decide))
   have addx:isWs (keyI x) = false→(keyI x = none∨(¬ (keyI x = some 35∧noted = true)∧¬ (isQ (keyI x) = true∧(shell = true∨w.isNone = true))∧¬ (keyI x = some 92∧shell = true)))→∀ m',LW m' g a noted shell (some (w.getD []++[x])) (k + 1)→@WpI _ ⟨S⟩ ⟨E⟩ (whl (prg K) (d + 1) zae m' (zcq zc4) (zas zc4)) H:=fun e1 e2 m' l=>by
    have e3:¬ (keyI x = some 35∧noted = true)∧¬ (isQ (keyI x) = true∧(shell = true∨w.isNone = true))∧¬ (keyI x = some 92∧shell = true):=by
     rcases e2 with e | e
     ·rw [e]; simp [isQ]
     ·exact e
    have fa:(flatI ((some (w.getD []++[x])).getD [])).length = (flatI (w.getD [])).length + x.1.length:=zu9 _ _
    refine again m' H ws (some (w.getD []++[x])) r (k + 1) (Stay.refl _ _) ?_ hn' hr1 l ha (Nat.le_succ _) (by rw [fa,Nat.add_assoc,← zkv]; exact hwl)
    rw [ro,if_neg (Bool.eq_false_iff.mp e1),if_neg e3.1,if_neg e3.2.1,if_neg e3.2.2]
   refine zaj rfl ?_
   cases hx2:x.2 with
   | false=>
     rw [hx2] at hHx
     have nk:keyI x = none:=by
      cases e:keyI x with
      | none=>rfl
      | some c=>have:=((zcx x c).mp e).1; rw [hx2] at this; cases this
     open_k with [kd_words,h1,h6,zbr hg hvx,zet hHx lb1 lb2,h5,↑(word_or w),cpx]
     have ad:=addx (by rw [nk]; rfl) (.inl nk)
     exact ad _ ⟨(by kernel_rfl:_ = _).trans h1,(by kernel_rfl:_ = _).trans h2,(by kernel_rfl:_ = _).trans h3,(by kernel_rfl:_ = _).trans h4,by rw [zhj]; kernel_rfl,by kernel_rfl⟩
   | true=>
     rw [hx2] at hHx
     obtain ⟨c,hxc⟩:=hone x (List.mem_of_getElem? hx0) hx2
     have kx':keyI x = some c:=(zcx x c).mpr ⟨hx2,hxc⟩
     rw [hxc] at hHx
     have cpc:((flatI (w.getD [])).length + 1≤cap) = True:=by rw [hxc] at cpx; exact cpx
     have hky:keyI x = ky c:=kx'
     have wapp:∀ (w0:List It),w = some w0→∀ H',H'[a]? = some (.list (wdV ws))→mAppend H' [.obj a,.str (flatI w0)] = some (.none,H'.set a (.list (wdV (ws++[w0])))):=fun w0 _ H' h=>by
      have hz:(wdV ws).length < cap:=by rw [List.length_map]; exact Nat.lt_of_le_of_lt (Nat.le_trans (Nat.le_add_right _ _) hws) (by decide)
      simp only [zd3,h,hz,if_true]
      simp
     open_k with [kd_words,h1,h6,zbr hg hvx,zet hHx lb1 lb2]
     refine ifI_split (fun b1=>?_) (fun b1=>?_)
     ·-- a blank
      have e1:isWs (keyI x) = true:=by rw [hky,wsk]; exact b1
      rw [if_pos e1] at ro
      open_k with [kd_words,h5,zom]
      refine ifI_split (fun b2=>?_) (fun b2=>?_)
      ·have hs:w.isNone = false:=(Bool.not_eq_true' _).mp b2
       obtain ⟨v1,v2⟩:=zs7 hs
       have st:Stay H (H.set a (.list (wdV (ws++[w.getD []])))) [a]:=Stay.set _ (.head _)
       have mi:methM (prg K) H (.obj a) "append" = none:=zcm ha
       have mj:zcd H (.obj a) "append" = some "list.append" := (zb3 ha).trans zbp
       open_k with [kd_words,h4,h5,v1,mi,mj,wapp _ v2 H ha]
       refine again _ _ (ws++[w.getD []]) none r (k + 1) st (by rw [ro,v2]; rfl) hn' hr1 ⟨(by kernel_rfl:_ = _).trans h1,(by kernel_rfl:_ = _).trans h2,(by kernel_rfl:_ = _).trans h3,(by kernel_rfl:_ = _).trans h4,by kernel_rfl,by kernel_rfl⟩ (by rw [List.getElem?_set_self (List.getElem?_eq_some_iff.mp ha).1]) (z2t ws _ (Nat.le_refl _)) (Nat.le_trans (Nat.le_of_eq (Nat.zero_add _)) szr)
      ·have hs:w = none:=by cases w with | none=>rfl | some _=>simp at b2
       open_k with [kd_words]
       refine again _ _ ws none r (k + 1) (Stay.refl _ _) (by rw [ro,hs]; simp) hn' hr1 ⟨(by kernel_rfl:_ = _).trans h1,(by kernel_rfl:_ = _).trans h2,(by kernel_rfl:_ = _).trans h3,(by kernel_rfl:_ = _).trans h4,by kernel_rfl,by kernel_rfl⟩ ha (Nat.le_succ _) (Nat.le_trans (Nat.le_of_eq (Nat.zero_add _)) szr)
     have e1:isWs (keyI x) = false:=by rw [hky,wsk]; exact b1
     rw [if_neg (Bool.eq_false_iff.mp e1)] at ro
     have z0:(flatI ([]:List It)).length = 0:=rfl
     open_k with [kd_words,eq1]
     refine zc0 (fun b2=>?_) (fun b2=>?_)
     ·subst b2
      open_k with [kd_words,h2]
      cases hno:noted with
      | true=>
        rw [hno] at h2 L0 ro
        rw [if_pos ⟨hky,rfl⟩] at ro
        open_k with [rfl_]
        subst hno
        refine zt5 G (d + 1) g a true shell w is vs hlen r.length _ r (k + 1) H _ E (Nat.le_refl _) hr1 ⟨(by kernel_rfl:_ = _).trans h1,(by kernel_rfl:_ = _).trans h2,(by kernel_rfl:_ = _).trans h3,(by kernel_rfl:_ = _).trans h4,(by kernel_rfl:_ = _).trans h5,by kernel_rfl⟩ hg R (fun m' H' k' gr l' e'=>?_)
        have dl:=zr8 r
        have sg:Stay H H' [a]:=gr.stay [a]
        have ha':=gr.at ha
        obtain ⟨i1,i2,i3,i4,i5,i6⟩:=l'
        have fl:(flatI (zi2 r)).length≤(flatI r).length:=by
         have:∀ l:List It,(flatI (zi2 l)).length≤(flatI l).length:=fun l=>by
          induction l with
          | nil=>exact Nat.le_refl _
          | cons y l ih=>
            rw [zox]
            split <;> simp only [flatI,List.flatMap_cons,List.length_append] at * <;> lia
         exact this r
        open_k with [kd_words,i6,i3]
        refine ifI_split (fun b3=>?_) (fun b3=>?_)
        ·rw [if_pos b3,zj3] at ro
         open_k with [kd_words,i5,zom]
         refine ifI_split (fun b4=>?_) (fun b4=>?_)
         ·have hs:w.isNone = false:=(Bool.not_eq_true' _).mp b4
          obtain ⟨v1,v2⟩:=zs7 hs
          have st:Stay H' (H'.set a (.list (wdV (ws++[w.getD []])))) [a]:=Stay.set _ (.head _)
          have mi:methM (prg K) H' (.obj a) "append" = none:=zcm ha'
          have mj:zcd H' (.obj a) "append" = some "list.append" := (zb3 ha').trans zbp
          open_k with [kd_words,i4,i5,v1,mi,mj,wapp _ v2 H' ha']
          exact again _ _ (ws++[w.getD []]) none (zi2 r) (k' + 1) (sg.trans st) (by rw [ro,v2]; rfl) (Nat.le_trans dl hn') e' ⟨(by kernel_rfl:_ = _).trans i1,(by kernel_rfl:_ = _).trans i2,(by kernel_rfl:_ = _).trans i3,(by kernel_rfl:_ = _).trans i4,by kernel_rfl,by kernel_rfl⟩ (by rw [List.getElem?_set_self (List.getElem?_eq_some_iff.mp ha').1]) (z2t ws _ dl) (Nat.le_trans (Nat.le_of_eq (Nat.zero_add _)) (Nat.le_trans fl szr))
         ·have hs:w = none:=by cases w with | none=>rfl | some _=>simp at b4
          open_k with [kd_words]
          exact again _ _ ws w (zi2 r) (k' + 1) sg (by rw [ro,hs]; simp) (Nat.le_trans dl hn') e' ⟨(by kernel_rfl:_ = _).trans i1,(by kernel_rfl:_ = _).trans i2,(by kernel_rfl:_ = _).trans i3,(by kernel_rfl:_ = _).trans i4,(by kernel_rfl:_ = _).trans i5,by kernel_rfl⟩ ha' (z7l ws dl) (Nat.le_trans (Nat.add_le_add_left (Nat.le_trans fl tl) _) hwl)
        ·rw [if_neg (Bool.eq_false_iff.mp b3),zj3] at ro
         open_k with [kd_words]
         exact again _ _ ws w (zi2 r) (k' + 1) sg ro.symm (Nat.le_trans dl hn') e' ⟨(by kernel_rfl:_ = _).trans i1,(by kernel_rfl:_ = _).trans i2,(by kernel_rfl:_ = _).trans i3,(by kernel_rfl:_ = _).trans i4,(by kernel_rfl:_ = _).trans i5,by kernel_rfl⟩ ha' (z7l ws dl) (Nat.le_trans (Nat.add_le_add_left (Nat.le_trans fl tl) _) hwl)
      | false=>
        have f1:([39,34]:List Nat).contains 35 = false:=rfl
        have f2:(([35]:List Nat) == [92]) = false:=rfl
        open_k with [kd_words,f1,f2,h5,↑(word_or w),cpc]
        have AD:=addx e1 (.inr ⟨by rw [hno]; simp,by rw [hky]; simp [isQ],by rw [hky]; simp⟩)
        rw [hno] at AD h2
        exact AD _ ⟨(by kernel_rfl:_ = _).trans h1,(by kernel_rfl:_ = _).trans h2,(by kernel_rfl:_ = _).trans h3,(by kernel_rfl:_ = _).trans h4,by rw [zhj,hxc]; kernel_rfl,by kernel_rfl⟩
     have n35:¬ (keyI x = some 35∧noted = true):=by rw [hky]; intro z; exact b2 (Option.some.inj z.1)
     rw [if_neg n35] at ro
     open_k with [kd_words]
     refine ifI_split (fun b3=>?_) (fun b3=>?_)
     ·-- a quote
      have hq:isQ (keyI x) = true:=by rw [hky,qk]; exact b3
      have hcq:c = 39∨c = 34:=by simpa using b3
      have lbs:localB zae "said" = true:=by kernel_rfl
      have lbk:localB zae "k" = true:=by kernel_rfl
      have hkx:x = ([c],true):=Prod.ext hxc hx2
      cases hsl:shell with
      | true=>
        rw [hsl] at ro h3
        rw [if_pos ⟨hq,.inl rfl⟩,if_pos rfl,hky] at ro
        have qr:=z1s (noted:=noted) (shell:=true) (mk:=c) hcq.symm _ r [] (w.getD []) ws (Nat.le_refl _)
        rw [List.append_nil] at qr
        open_k with [kd_words,h3]
        open_k with [kd_words,h1,h3,zxe]
        refine zqo G d g c true is vs (k + 1) H _ E hlt hlen (by have:=hfd (k + 1); lia) hg R (fun r2 e2 H' o gr eo=>?_) (fun q r2 k' e2 e3 e4 e5 H' o gr eo=>?_)
        ·open_k with [kd_words,zet eo lbs lbk]
         refine W.none ?_ _ _ (gr.stay [a])
         rw [hr1] at e2
         rw [e2] at qr
         rw [hsl]
         exact ro.trans qr
        ·rw [hr1] at e2
         rw [e2] at qr
         obtain ⟨ql,qn⟩:=zwt _ r [] q r2 (Nat.le_refl _) e2
         have ql:=Nat.le_trans ql (Nat.le_of_eq (Nat.zero_add _))
         have cpq:((flatI (w.getD [])).length + (flatI q).length≤cap) = True:=eq_true (Nat.le_trans (Nat.le_trans (Nat.add_le_add_left (Nat.le_trans (Nat.le_add_right _ _) (Nat.le_trans ql tl)) _) hwl) (by decide))
         have fa:(flatI ((some (w.getD []++q)).getD [])).length = (flatI (w.getD [])).length + (flatI q).length:=by show (flatI (w.getD []++q)).length = _; rw [flatI,List.flatMap_append,List.length_append]
         have AD:∀ m',LW m' g a noted true (some (w.getD []++q)) k'→@WpI _ ⟨S⟩ ⟨E⟩ (whl (prg K) (d + 1) zae m' (zcq zc4) (zas zc4)) H':=fun m' l=>
          again m' H' ws (some (w.getD []++q)) r2 k' (gr.stay [a]) (by rw [hsl]; exact (ro.trans qr).symm) (Nat.le_trans (Nat.le_of_succ_le qn) hn') e3 (by rw [hsl]; exact l) (gr.at ha) (z7l ws (Nat.le_of_succ_le qn)) (by rw [fa,Nat.add_assoc]; exact Nat.le_trans (Nat.add_le_add_left (Nat.le_trans ql tl) _) hwl)
         open_k with [kd_words,zet eo lbs lbk,h3,h5,↑(word_or w),cpq]
         exact AD _ ⟨(by kernel_rfl:_ = _).trans h1,(by kernel_rfl:_ = _).trans h2,(by kernel_rfl:_ = _).trans h3,(by kernel_rfl:_ = _).trans h4,by rw [z9x]; kernel_rfl,by kernel_rfl⟩
      | false=>
        rw [hsl] at ro h3
        open_k with [kd_words,h3]
        open_k with [kd_words,h5,zom]
        refine ifI_split (fun b4=>?_) (fun b4=>?_)
        ·rw [if_pos ⟨hq,.inr b4⟩,if_neg (Bool.false_ne_true),hky] at ro
         have hw0:w = none:=by cases w with | none=>rfl | some _=>cases b4
         have qr:=z1s (noted:=noted) (shell:=false) (mk:=c) hcq.symm _ r [] [x] ws (Nat.le_refl _)
         rw [List.append_nil] at qr
         open_k with [kd_words,h1,h3,zxe]
         refine zqo G d g c false is vs (k + 1) H _ E hlt hlen (by have:=hfd (k + 1); lia) hg R (fun r2 e2 H' o gr eo=>?_) (fun q r2 k' e2 e3 e4 e5 H' o gr eo=>?_)
         ·open_k with [kd_words,zet eo lbs lbk]
          refine W.none ?_ _ _ (gr.stay [a])
          rw [hr1] at e2
          rw [e2] at qr
          rw [hsl]
          exact ro.trans qr
         ·rw [hr1] at e2
          rw [e2] at qr
          obtain ⟨ql,qn⟩:=zwt _ r [] q r2 (Nat.le_refl _) e2
          have ql:=Nat.le_trans ql (Nat.le_of_eq (Nat.zero_add _))
          have ha':=gr.at ha
          have fq:(flatI q).length≤20000:=Nat.le_trans (Nat.le_add_right _ _) (Nat.le_trans ql szr)
          have cq1:(1 + (flatI q).length≤cap) = True:=eq_true (Nat.le_trans (Nat.add_le_add_left fq 1) (by decide))
          have cq2:(([c]++flatI q).length + 1≤cap) = True:=eq_true (by rw [List.length_append]; exact Nat.le_trans (Nat.succ_le_succ (Nat.add_le_add_left fq 1)) (by decide))
          have hz:(wdV ws).length < cap:=by rw [List.length_map]; exact Nat.lt_of_le_of_lt (Nat.le_trans (Nat.le_add_right _ _) hws) (by decide)
          have wapq:mAppend H' [.obj a,.str ([c]++flatI q++[c])] = some (.none,H'.set a (.list (wdV (ws++[[x]++q++[([c],true)]])))):=by
           simp only [zd3,ha',hz,if_true]
           simp [hxc]
          have mi:methM (prg K) H' (.obj a) "append" = none:=zcm ha'
          have mj:zcd H' (.obj a) "append" = some "list.append" := (zb3 ha').trans zbp
          have st:Stay H' (H'.set a (.list (wdV (ws++[[x]++q++[([c],true)]])))) [a]:=Stay.set _ (.head _)
          open_k with [kd_words,zet eo lbs lbk,h3,h4,mi,mj,cq1,cq2,wapq]
          exact again _ _ (ws++[[x]++q++[([c],true)]]) w r2 k' ((gr.stay [a]).trans st) (by rw [hsl,hw0]; rw [hw0] at ro; exact (ro.trans qr).symm) (Nat.le_trans (Nat.le_of_succ_le qn) hn') e3 (by rw [hsl]; exact ⟨(by kernel_rfl:_ = _).trans h1,(by kernel_rfl:_ = _).trans h2,(by kernel_rfl:_ = _).trans h3,(by kernel_rfl:_ = _).trans h4,(by kernel_rfl:_ = _).trans h5,by kernel_rfl⟩) (by rw [List.getElem?_set_self (List.getElem?_eq_some_iff.mp ha').1]) (z2t ws _ (Nat.le_of_succ_le qn)) (Nat.le_trans (Nat.add_le_add_left (Nat.le_trans (Nat.le_add_left _ _) (Nat.le_trans ql tl)) _) hwl)
        ·have nq:¬ (isQ (keyI x) = true∧(shell = true∨w.isNone = true)):=fun z=>by
          rcases z.2 with z | z
          ·rw [hsl] at z; cases z
          ·rw [b4] at z; cases z
         have hc92:¬ c = 92:=fun e=>by subst e; exact absurd hcq (by decide)
         have f92:decide (c = 92) = false:=decide_eq_false hc92
         open_k with [kd_words,eq1,f92,h5,↑(word_or w),cpc]
         have AD:=addx e1 (.inr ⟨n35,nq,by rw [hsl]; simp⟩)
         rw [hsl] at AD
         exact AD _ ⟨(by kernel_rfl:_ = _).trans h1,(by kernel_rfl:_ = _).trans h2,(by kernel_rfl:_ = _).trans h3,(by kernel_rfl:_ = _).trans h4,by rw [zhj,hxc]; kernel_rfl,by kernel_rfl⟩
     have hq:isQ (keyI x) = false:=by rw [hky,qk]; exact b3
     open_k with [kd_words,eq1]
     refine zc0 (fun b4=>?_) (fun b4=>?_)
     ·subst b4
      open_k with [kd_words,h3]
      cases hsl:shell with
      | true=>
        rw [hsl] at ro h3
        rw [if_neg (by rw [hq]; simp),if_pos ⟨hky,rfl⟩] at ro
        have ekl:((k:Int) + 1 = (is.length:Int)) = (k + 1 = is.length):=eq_z (i:=k + 1) rfl
        open_k with [kd_words,h1,zlt,zhd hg,hl,ekl]
        refine zc0 (fun b5=>?_) (fun b5=>?_)
        ·open_k with [kd_words]
         have hr0:r = []:=by rw [← hr1]; exact List.drop_eq_nil_of_le ((Nat.le_of_eq (Eq.symm (by assumption))))
         subst hr0
         exact W.none (by rw [hsl]; exact ro) _ _ (Stay.refl _ _)
        ·obtain ⟨y,r',hr⟩:∃ y r',r = y::r':=⟨is[k + 1]'(Nat.lt_of_le_of_ne hlt b5),is.drop (k + 2),by rw [← hr1]; exact List.drop_eq_getElem_cons (Nat.lt_of_le_of_ne hlt b5)⟩
         subst hr
         have hy0:is[k + 1]? = some y:=zfa hr1
         obtain ⟨ky2,hvy,hHy⟩:=R.at (k + 1) y hy0
         have sb1:subM K.F H (.obj g) (.int ((k:Int) + 1)) = some (.obj ky2):=zbr (i:=k + 1) hg hvy
         have sb2:subM K.F H (.obj ky2) (.int 0) = some (.str y.1):=zbr (i:=0) hHy rfl
         have hr2:is.drop (k + 2) = r':=by rw [show k + 2 = k + 1 + 1 from rfl,← List.drop_drop,hr1]; rfl
         have fa:(flatI ((some (w.getD []++[y])).getD [])).length = (flatI (w.getD [])).length + y.1.length:=zu9 _ _
         have cpy:((flatI (w.getD [])).length + y.1.length≤cap) = True:=zjg (Nat.le_trans (Nat.le_trans (Nat.add_le_add_left tl _) hwl) (by decide))
         have AD:∀ m',LW m' g a noted true (some (w.getD []++[y])) (k + 2)→@WpI _ ⟨S⟩ ⟨E⟩ (whl (prg K) (d + 1) zae m' (zcq zc4) (zas zc4)) H:=fun m' l=>
          again m' H ws (some (w.getD []++[y])) r' (k + 2) (Stay.refl _ _) (by rw [hsl]; exact ro.symm) (Nat.le_of_succ_le hn') hr2 (by rw [hsl]; exact l) ha (z7l ws (Nat.le_succ _)) (by rw [fa,Nat.add_assoc,← zkv]; exact Nat.le_trans (Nat.add_le_add_left tl _) hwl)
         open_k with [kd_words,h1,h5,↑(word_or w),h1,sb1,sb2,cpy]
         exact AD _ ⟨(by kernel_rfl:_ = _).trans h1,(by kernel_rfl:_ = _).trans h2,(by kernel_rfl:_ = _).trans h3,(by kernel_rfl:_ = _).trans h4,by rw [zhj]; kernel_rfl,by kernel_rfl⟩
      | false=>
        open_k with [kd_words,h5,↑(word_or w),cpc]
        have AD:=addx e1 (.inr ⟨n35,by rw [hq]; simp,by rw [hsl]; simp⟩)
        rw [hsl] at AD h3
        exact AD _ ⟨(by kernel_rfl:_ = _).trans h1,(by kernel_rfl:_ = _).trans h2,(by kernel_rfl:_ = _).trans h3,(by kernel_rfl:_ = _).trans h4,by rw [zhj,hxc]; kernel_rfl,by kernel_rfl⟩
     have n92:¬ (keyI x = some 92∧shell = true):=by rw [hky]; intro z; exact b4 (Option.some.inj z.1)
     open_k with [kd_words,h5,↑(word_or w),cpc]
     have AD:=addx e1 (.inr ⟨n35,by rw [hq]; simp,n92⟩)
     exact AD _ ⟨(by kernel_rfl:_ = _).trans h1,(by kernel_rfl:_ = _).trans h2,(by kernel_rfl:_ = _).trans h3,(by kernel_rfl:_ = _).trans h4,by rw [zhj,hxc]; kernel_rfl,by kernel_rfl⟩
  ·have hr0:rest = []:=by rw [← hd]; exact List.drop_eq_nil_of_le (Nat.le_of_not_lt (by assumption))
   subst hr0
   exact W.some ws w m H k (by cases w <;> simp [znc,endF]) L0 ha (Stay.refl _ _) (Nat.le_refl _)
theorem z45 (d g:Nat) (noted shell:Bool) (is:List It) (vs:List V) (H:Hp) (Q:V→Hp→Prop) (E:EK→Hp→Prop) (hlen:is.length≤1000) (hone:∀ x∈is,x.2 = true→∃ c,x.1 = [c]) (hcap:(flatI is).length≤20000) (hg:H[g]? = some (.list vs)) (R:RelI H vs is)
  (h1:wordsI noted shell is = none→∀ H',Stay H H' []→Q .none H') (h2:∀ out,wordsI noted shell is = some out→∀ H' a,Stay H H' []→H'[a]? = some (.list (out.map .str))→Q (.obj a) H'):
  @WpI _ ⟨Q⟩ ⟨E⟩ (call (prg K) (d + 2) (.top (.ref 803)) [.obj g,.bool noted,.bool shell] [] []) H:=by
 refine z47 ?_
 refine zaj rfl ?_
 have c0:(0 < cap) = True:=eq_true (by decide)
 have gr:=Grow.one H (O.list [])
 have hgl:=(List.getElem?_eq_some_iff.mp hg).1
 have hva:∀ k,V.obj k∈vs→k < H.length:=fun k hk=>by
  obtain ⟨i,hi,e⟩:=List.getElem_of_mem hk
  have hi2:i < is.length:=by rw [← R.len]; exact hi
  obtain ⟨k2,e2,e3⟩:=R.at i is[i] (List.getElem?_eq_getElem hi2)
  rw [List.getElem?_eq_getElem hi,e] at e2
  cases e2
  exact (List.getElem?_eq_some_iff.mp e3).1
 have stay0:∀ H',Stay (H++[O.list []]) H' [H.length]→Stay H H' []:=fun H' s=>⟨Nat.le_trans (by rw [List.length_append]; exact Nat.le_add_right _ _) s.1,fun j hj _=>(s.2 j (by simp; lia) (by simp; lia)).trans (List.getElem?_append_left hj)⟩
 open_k with [kd_words,c0]
 refine zxw G d g H.length noted shell is vs hlen hone hcap hva hgl is.length _ [] none is 0 _ _ E (Nat.le_refl _) rfl ⟨by kernel_rfl,by kernel_rfl,by kernel_rfl,by kernel_rfl,by kernel_rfl,by kernel_rfl⟩ (gr.at hg) (R.grow gr) (List.getElem?_concat_length) (by simp; lia) (by simpa using hcap) ⟨fun e m' H' s=>?_,fun ws' w' m' H' k' e l a s hsz=>?_⟩
 ·open_k with [rfl_]
  exact h1 (by unfold wordsI; rw [e]; rfl) H' (stay0 H' s)
 ·obtain ⟨i1,i2,i3,i4,i5,i6⟩:=l
  have hw:wordsI noted shell is = some ((ws'++w'.toList).map flatI):=by unfold wordsI; rw [e]; rfl
  open_k with [kd_words,i5,zom]
  refine ifI_split (fun b4=>?_) (fun b4=>?_)
  ·have hs:w'.isNone = false:=(Bool.not_eq_true' _).mp b4
   obtain ⟨v1,v2⟩:=zs7 hs
   have hz:(wdV ws').length < cap:=by simp only [cap,List.length_map]; simp at hsz; lia
   have wap:mAppend H' [.obj H.length,.str (flatI (w'.getD []))] = some (.none,H'.set H.length (.list (wdV (ws'++[w'.getD []])))):=by
    simp only [zd3,a,hz,if_true]
    simp
   have mi:methM (prg K) H' (.obj H.length) "append" = none:=zcm a
   have mj:zcd H' (.obj H.length) "append" = some "list.append" := (zb3 a).trans zbp
   open_k with [kd_words,i4,i5,v1,mi,mj,wap]
   refine h2 _ hw _ _ (stay0 _ (s.trans (Stay.set _ (.head _)))) (by rw [List.getElem?_set_self (List.getElem?_eq_some_iff.mp a).1,v2]; exact congrArg (fun z=>some (O.list z)) (by simp))
  ·have hs:w' = none:=by cases w' with | none=>rfl | some _=>simp at b4
   open_k with [kd_words,i4]
   exact h2 _ hw _ _ (stay0 _ s) (by rw [a,hs]; exact congrArg (fun z=>some (O.list z)) (by simp))
end
noncomputable def uO (u:U3):O:=.list [.str u.1,.str u.2.1,.bool u.2.2]
noncomputable abbrev RelU (H:Hp):List V→List U3→Prop:=Rel uO H
noncomputable abbrev Kp:=List Nat×List Nat
noncomputable def kO (u:Kp):O:=.list [.str u.1,.str u.2]
noncomputable abbrev RelK (H:Hp):List V→List Kp→Prop:=Rel kO H
theorem zs8 {sc:Scope} {m:Lo} {H:Hp} {n:Nat} {x y z:Str} {p q r s:Pos} {k:Nat} {v1 v2 v3:V} (h:H[n]? = some (.list [v1,v2,v3])) (l1:localB sc x = true) (l2:localB sc y = true) (l3:localB sc z = true):
  assignM sc m H (.Tuple [.Name x p,.Name y q,.Name z s] k r) (.obj n) = some (upd (upd (upd m x v1) y v2) z v3):=by
 show (if (localB sc x && (localB sc y && (localB sc z && true))) = true then onLs (fun vs=>if vs.length = 3 then zfd m [x,y,z] vs else none) H[n]? else none) = _
 rw [l1,l2,l3,h]
 rfl
theorem in_obj {H:Hp} {n:Nat} {xs:List V} {l:List (List Nat)} (x:List Nat) (h:H[n]? = some (.list xs)) (e:strs? xs = some l):inV H (.str x) (.obj n) = some (l.contains x):=by
 show (z52 H[n]?).map (·.contains x) = _
 rw [h]
 show (strs? xs).map (·.contains x) = _
 rw [e]
 rfl
theorem zwd {K:Wd} {H:Hp} {n:Nat} {vs:List V} {v:V} (h:H[n]? = some (.list (vs++[v]))):subM K.F H (.obj n) (.int (-1)) = some v:=by
 show onI (fun i=>onLs (fun xs=>(idx i xs.length).bind (xs[·]?)) H[n]?) (.int (-1)) = _
 rw [h]
 show (idx (-1) (vs++[v]).length).bind ((vs++[v])[·]?) = _
 rw [List.length_append,show idx (-1) (vs.length + [v].length) = some vs.length from z3i (Nat.succ_pos _)]
 exact List.getElem?_concat_length
noncomputable def zqt:Stmt:=nthS (zar zem) 1
noncomputable def z1w:Stmt:=nthS (zas (nthS (zas zqt) 0)) 0
section
variable {K:Wd} (G:Gl K)
include G
theorem zyc (d a:Nat):∀ (n:Nat) (m:Lo) (ks:List Kp) (vs:List V) (H:Hp) (S:Fl×Lo→Hp→Prop) (E:EK→Hp→Prop),ks.length≤n→m "kept" = some (.obj a)→H[a]? = some (.list vs)→RelK H vs ks→(∀ k,.obj k∈vs→k≠a)→
  (∀ H' vs',Stay H H' [a]→H'[a]? = some (.list vs')→RelK H' vs' (zev ks)→(∀ k,.obj k∈vs'→k≠a)→S (.next,m) H')→@WpI _ ⟨S⟩ ⟨E⟩ (whl (prg K) d zap m (zcq z1w) (zas z1w)) H:=by
  intro n
  induction n using Nat.strongRecOn with
  | ind n ih=>
  intro m ks vs H S E hn hm ha R hv hS
  refine wl_while ?_
  refine wi_tand rfl ?_
  have c0:(0 < cap) = True:=eq_true (by decide)
  have c2:(2 < cap) = True:=eq_true (by decide)
  have hal:=(List.getElem?_eq_some_iff.mp ha).1
  have g1:=Grow.one H (O.list [])
  have ne:cmpM (H++[O.list []]) .NotEq (.obj a) (.obj H.length) = some (!decide (vs = [])):=by
   have:eqV (H++[O.list []]) 4 (.obj a) (.obj H.length) = some (decide (vs = [])):=by
    rw [z34 (Nat.ne_of_lt (by assumption)) (g1.at ha) (List.getElem?_concat_length ..)]
    cases vs <;> rfl
   show (eqV (H++[O.list []]) 4 (.obj a) (.obj H.length)).map (!·) = _
   rw [this]; rfl
  open_k with [zcz,hm,c0,ne]
  rcases List.eq_nil_or_concat ks with rfl | ⟨ks0,p,rfl⟩
  ·have hv0:vs = []:=List.eq_nil_of_length_eq_zero (by rw [R.len]; rfl)
   subst hv0
   open_k with [rfl_]
   exact hS _ [] (Stay.grow _ _) (g1.at ha) trivial ((fun _ h=>nomatch h))
  ·rw [List.concat_eq_append] at *
   obtain ⟨vs0,v,rfl⟩:∃ vs0 v,vs = vs0++[v]:=by
    rcases List.eq_nil_or_concat vs with rfl | ⟨vs0,v,rfl⟩
    ·have:=R.len; rw [List.length_append] at this; cases this
    ·exact ⟨vs0,v,List.concat_eq_append⟩
   obtain ⟨R0,kx,rfl,hkx⟩:=R.split
   have dv:decide (vs0++[V.obj kx] = []) = false:=decide_eq_false (List.append_ne_nil_of_right_ne_nil _ (List.cons_ne_nil _ _))
   have g2:=Grow.one (H++[O.list []]) (O.list [V.str [32],V.str [9]])
   have sb:subM K.F (H++[O.list []]) (.obj a) (.int (-1)) = some (.obj kx):=zwd (g1.at ha)
   have sb2:subM K.F (H++[O.list []]) (.obj kx) (.int 0) = some (.str p.1):=zbr (i:=0) (g1.at hkx) rfl
   have fi:inV (H++[O.list []]++[O.list [V.str [32],V.str [9]]]) (.str p.1) (.obj (List.length (H++[O.list []]))) = some (([[32],[9]]:List (List Nat)).contains p.1):=in_obj _ List.getElem?_concat_length rfl
   have hbl:([[32],[9]]:List (List Nat)).contains p.1 = blU p:=by show (p.1 == [32] || (p.1 == [9] || false)) = _; rw [Bool.or_false]; rfl
   open_k with [dv,zcz,hm,z0q,sb,sb2,c2,fi,hbl]
   have st:Stay H (H++[O.list []]++[O.list [V.str [32],V.str [9]]]) [a]:=(g1.trans g2).stay [a]
   have ha2:=(g1.trans g2).at ha
   generalize H++[O.list []]++[O.list [V.str [32],V.str [9]]] = H2 at st ha2
   rw [zf1] at hS
   refine ifI_split (fun b1=>?_) (fun b1=>?_)
   ·open_k with [rfl_]
    rw [if_pos b1] at hS
    refine zaj rfl ?_
    have mi:methM (prg K) H2 (.obj a) "pop" = none:=zcm ha2
    have mj:zcd H2 (.obj a) "pop" = some "list.pop" := (zb3 ha2).trans id_pop
    have mp:mPop H2 [.obj a] = some (.obj kx,H2.set a (.list vs0)):=by
     show onLs _ H2[a]? = _
     rw [ha2]
     show ((vs0++[V.obj kx]).getLast?).map (fun v=>(v,H2.set a (.list (vs0++[V.obj kx]).dropLast))) = _
     rw [List.getLast?_concat,List.dropLast_concat]; rfl
    open_k with [zcz,hm,mi,mj,mp]
    have st2:Stay H2 (H2.set a (.list vs0)) [a]:=Stay.set _ (.head _)
    cases n with
    | zero=>rw [List.length_append] at hn; cases hn
    | succ n=>
    exact ih n (Nat.lt_succ_self n) m ks0 vs0 _ S E (by rw [List.length_append] at hn; exact Nat.le_of_succ_le_succ hn) hm (by rw [List.getElem?_set_self (List.getElem?_eq_some_iff.mp ha2).1]) (R0.stay (st.trans st2) fun k hk=>hv k (List.mem_append_left _ hk)) (fun k hk=>hv k (List.mem_append_left _ hk)) (fun H' vs' t q1 q2 q3=>hS H' vs' ((st.trans st2).trans t) q1 q2 q3)
   ·open_k with [rfl_]
    rw [if_neg (Bool.eq_false_iff.mp b1)] at hS
    exact hS H2 _ st ha2 (R.stay st hv) hv
omit G in
theorem len_k {ks ks1:List Kp} {y:Kp} {n:Nat} (h:ks1.length≤ks.length):(ks1++[y]).length + n≤ks.length + (n + 1):=by
 rw [List.length_append,Nat.add_assoc]
 exact Nat.add_le_add h (Nat.le_of_eq (Nat.add_comm 1 n))
omit G in
theorem zyd (l:List Kp):(zev l).length≤l.length:=by
 unfold zev
 rw [List.length_reverse]
 exact Nat.le_trans (List.dropWhile_sublist (l:=l.reverse) blU).length_le (Nat.le_of_eq List.length_reverse)
theorem z1u (d u a:Nat) (us:List U3) (vs:List V) (hlen:us.length≤1000) (hva:∀ k,V.obj k∈vs→k≠a) (hua:u≠a):∀ (n:Nat) (m:Lo) (rest:List U3) (i:Nat) (ks:List Kp) (kv:List V) (H:Hp) (S:Fl×Lo→Hp→Prop) (E:EK→Hp→Prop),rest.length≤n→us.drop i = rest→i≤us.length→
  m "kept" = some (.obj a)→H[u]? = some (.list vs)→RelU H vs us→H[a]? = some (.list kv)→RelK H kv ks→(∀ k,V.obj k∈kv→k≠a)→ks.length + rest.length≤2000→
  (∀ m' H' kv',Stay H H' [a]→m' "kept" = some (.obj a)→H'[a]? = some (.list kv')→RelK H' kv' (plainUK ks rest)→(plainUK ks rest).length≤ks.length + rest.length→S (.next,m') H')→
  @WpI _ ⟨S⟩ ⟨E⟩ (frl (prg K) d zap m (zg8 zqt) (zas zqt) (.obj u) i) H:=by
  intro n
  induction n using Nat.strongRecOn with
  | ind n ih=>
  intro m rest i ks kv H S E hn hd hi hm hu R ha RK hkv hsz hS
  have hl:=R.len
  have hit:z26 H (.obj u) i = some vs[i]?:=zol hu
  refine wl_for ?_; rw [hit,zaz]
  by_cases hlt:i < us.length
  ·obtain ⟨x,r,hr⟩:∃ x r,rest = x::r:=⟨us[i],us.drop (i + 1),by rw [← hd]; exact List.drop_eq_getElem_cons hlt⟩
   subst hr
   have hx0:us[i]? = some x:=zfa hd
   obtain ⟨kx,hvx,hHx⟩:=R.at i x hx0
   have hr1:us.drop (i + 1) = r:=zf8 hd
   have lb1:localB zap "shown" = true:=by kernel_rfl
   have lb2:localB zap "sign" = true:=by kernel_rfl
   have lb3:localB zap "raw" = true:=by kernel_rfl
   have hva':assignM zap m H (zg8 zqt) (.obj kx) = some (upd (upd (upd m "shown" (.str x.1)) "sign" (.str x.2.1)) "raw" (.bool x.2.2)):=zs8 hHx lb1 lb2 lb3
   rw [hvx,zg5,hva',zaz]
   cases n with
   | zero=>exact absurd hn (Nat.not_succ_le_zero _)
   | succ n=>
   have c2:(2 < cap) = True:=eq_true (by decide)
   have app:∀ (m':Lo) (H1:Hp) (ks1:List Kp) (kv1:List V),Stay H H1 [a]→m' "kept" = some (.obj a)→m' "shown" = some (.str x.1)→m' "sign" = some (.str x.2.1)→H1[a]? = some (.list kv1)→RelK H1 kv1 ks1→(∀ k,V.obj k∈kv1→k≠a)→ks1.length≤ks.length→plainUK ks (x::r) = plainUK (ks1++[(x.1,x.2.1)]) r→
     flW (prg K) d zap (tlS (zas zqt) 1) (zep S fun m'' H2=>@WpI _ ⟨S⟩ ⟨E⟩ (frl (prg K) d zap m'' (zg8 zqt) (zas zqt) (.obj u) (i + 1)) H2) E (.next,m') H1:=fun m' H1 ks1 kv1 st q1 q2 q3 q4 q5 q6 q7 q8=>by
    rw [zjl]
    refine zaj rfl ?_
    have g1:=Grow.one H1 (O.list [V.str x.1,V.str x.2.1])
    have hal:=(List.getElem?_eq_some_iff.mp q4).1
    have ha1:=g1.at q4
    have hz:kv1.length < cap:=by rw [q5.len]; exact Nat.lt_of_le_of_lt (Nat.le_trans q7 (Nat.le_trans (Nat.le_add_right _ _) hsz)) (by decide)
    have mi:methM (prg K) H1 (.obj a) "append" = none:=zcm q4
    have mj:zcd H1 (.obj a) "append" = some "list.append" := (zb3 q4).trans zbp
    have mp:mAppend (H1++[O.list [V.str x.1,V.str x.2.1]]) [.obj a,.obj H1.length] = some (.none,(H1++[O.list [V.str x.1,V.str x.2.1]]).set a (.list (kv1++[.obj H1.length]))):=by
     show onLs _ _ = _
     rw [ha1]; exact if_pos hz
    open_k with [zcz,q1,q2,q3,mi,mj,c2,mp]
    have st1:Stay H1 (H1++[O.list [V.str x.1,V.str x.2.1]]) [a]:=g1.stay [a]
    have st2:Stay (H1++[O.list [V.str x.1,V.str x.2.1]]) ((H1++[O.list [V.str x.1,V.str x.2.1]]).set a (.list (kv1++[.obj H1.length]))) [a]:=Stay.set _ (.head _)
    have st3:=st.trans (st1.trans st2)
    have hkv1:∀ k,V.obj k∈kv1++[.obj H1.length]→k≠a:=fun k hk=>by
     rcases List.mem_append.mp hk with hk | hk
     ·exact q6 k hk
     ·cases List.mem_singleton.mp hk; exact Nat.ne_of_gt hal
    refine ih n (Nat.lt_succ_self n) _ r (i + 1) (ks1++[(x.1,x.2.1)]) (kv1++[.obj H1.length]) _ S E (Nat.le_of_succ_le_succ hn) hr1 hlt q1 (st3.at hu (nm1 hua)) (R.stay st3 hva) (by rw [List.getElem?_set_self (List.getElem?_eq_some_iff.mp ha1).1]) (Rel.app (q5.stay (st1.trans st2) q6) ⟨⟨_,rfl,st2.at (by rw [List.getElem?_concat_length]; rfl) (nm1 (Nat.ne_of_gt hal))⟩,trivial⟩) hkv1 (Nat.le_trans (len_k q7) hsz) (fun m2 H2 kv2 s2 r1 r2 r3 r4=>hS m2 H2 kv2 (st3.trans s2) r1 r2 (by rw [q8]; exact r3) (by rw [q8]; exact Nat.le_trans r4 (len_k q7)))
   refine z0e (s1:=_) (r:=tlS (zas zqt) 1) rfl (fun F hF=>?_)
   have q1:(upd (upd (upd m "shown" (.str x.1)) "sign" (.str x.2.1)) "raw" (.bool x.2.2)) "kept" = some (.obj a):=(by kernel_rfl:_ = _).trans hm
   have q2:(upd (upd (upd m "shown" (.str x.1)) "sign" (.str x.2.1)) "raw" (.bool x.2.2)) "shown" = some (.str x.1):=by kernel_rfl
   have q3:(upd (upd (upd m "shown" (.str x.1)) "sign" (.str x.2.1)) "raw" (.bool x.2.2)) "sign" = some (.str x.2.1):=by kernel_rfl
   generalize upd (upd (upd m "shown" (.str x.1)) "sign" (.str x.2.1)) "raw" (.bool x.2.2) = m1 at q1 q2 q3
   have e1:((x.1.length:Int) = 1) = (x.1.length = 1):=eq_z (n:=1) rfl
   open_k with [zcz,q3]
   refine ifI_split (fun b1=>?_) (fun b1=>?_)
   ·have hs:x.2.1 = [10]:=beq_iff_eq.mp b1
    open_k with [zcz,q2,zlt,zfn,e1]
    refine zc0 (fun b2=>?_) (fun b2=>?_)
    ·open_k with [rfl_]
     refine zyc G d a _ m1 ks kv H _ E (Nat.le_refl _) q1 ha RK hkv (fun H' vs' s r1 r2 r3=>?_)
     open_k with [rfl_]
     subst hF
     exact app m1 H' (zev ks) vs' s q1 q2 q3 r1 r2 r3 (zyd ks) (by rw [plainUK_c,if_pos ⟨hs,b2⟩])
    ·open_k with [rfl_]
     subst hF
     exact app m1 H ks kv (Stay.refl _ _) q1 q2 q3 ha RK hkv (Nat.le_refl _) (by rw [plainUK_c,if_neg (fun z=>b2 z.2)])
   ·open_k with [rfl_]
    subst hF
    exact app m1 H ks kv (Stay.refl _ _) q1 q2 q3 ha RK hkv (Nat.le_refl _) (by rw [plainUK_c,if_neg (fun z=>by rw [z.1] at b1; cases b1)])
  ·have hr0:rest = []:=by rw [← hd]; exact List.drop_eq_nil_of_le (Nat.le_of_not_lt (by assumption))
   have hv0:vs[i]? = none:=List.getElem?_eq_none (Nat.le_trans (Nat.le_of_eq hl) (Nat.le_of_not_lt hlt))
   subst hr0
   rw [hv0]
   exact hS m H kv (Stay.refl _ _) hm ha RK (Nat.le_refl _)
end
theorem zwf (l:List (List Nat)):strs? (l.map .str) = some l:=by
 induction l with
 | nil=>rfl
 | cons x l ih=>rw [List.map_cons,strs_c,ih]; rfl
theorem ztz (l:List Kp):((zev l).flatMap (·.2)).length≤(l.flatMap (·.2)).length:=by
 induction l using zj5 with
 | h0=>exact Nat.le_refl _
 | h1 l p ih=>
   rw [zf1]
   by_cases h:blU p = true
   ·rw [if_pos h,List.flatMap_append,List.length_append]; exact Nat.le_trans ih (Nat.le_add_right _ _)
   ·rw [if_neg h]; exact Nat.le_refl _
theorem zii (us:List U3):∀ (ks:List Kp),((plainUK ks us).flatMap (·.2)).length≤(ks.flatMap (·.2)).length + (us.flatMap fun x=>x.2.1).length:=by
 induction us with
 | nil=>exact fun ks=>Nat.le_refl _
 | cons u us ih=>
   intro ks
   rw [plainUK_c,List.flatMap_cons,List.length_append]
   refine Nat.le_trans (ih _) ?_
   rw [List.flatMap_append,List.flatMap_singleton,List.length_append,Nat.add_assoc]
   refine Nat.add_le_add_right ?_ _
   by_cases hc:u.2.1 = [10]∧u.1.length = 1
   ·rw [if_pos hc]; exact ztz ks
   ·rw [if_neg hc]; exact Nat.le_refl _
noncomputable def retE (s:Stmt):Expr:=(sV s).2.2.1
noncomputable def argE (e:Expr):Expr:=(xV e).1.headD dXp
noncomputable def zci (e:Expr):Scope:=(xV e).2
noncomputable def zk0 (e:Expr):Expr:=(xV e).1.headD dXp
noncomputable def compT (e:Expr):Expr:=(xV e).1.tail.headD dXp
noncomputable def zkb:Expr:=argE (retE (nthS (zar zem) 2))
noncomputable def plSc:Scope:=zhs (zci zkb) zap
theorem zyq (m:Lo):zdq (zci zkb) zap m = true:=by kernel_rfl
theorem z2x:kd plSc "shown" = some .local∧kd plSc "sign" = some .local:=by decide +kernel
section
variable {K:Wd}
theorem z08 (d a acc:Nat) (hne:a≠acc) (ks:List Kp) (vs:List V) (hlen:ks.length≤3000) (hv:∀ k,V.obj k∈vs→k≠acc):∀ (n:Nat) (m:Lo) (rest done:List Kp) (i:Nat) (H:Hp) (Q:V→Hp→Prop) (E:EK→Hp→Prop),rest.length≤n→ks.drop i = rest→i≤ks.length→done.length = i→
  H[a]? = some (.list vs)→RelK H vs ks→H[acc]? = some (.list (done.map fun p=>.str p.2))→
  (∀ H',Stay H H' [acc]→H'[acc]? = some (.list ((done++rest).map fun p=>.str p.2))→Q (.obj acc) H')→@WpI _ ⟨Q⟩ ⟨E⟩ (comp (prg K) d plSc m (zk0 zkb) (compT zkb) (.list a) (.obj acc) i) H:=by
  intro n
  induction n using Nat.strongRecOn with
  | ind n ih=>
  intro m rest done i H Q E hn hd hi hdn ha R hac hQ
  have hl:=R.len
  have hit:itemAt H (.list a) i = some vs[i]?:=zel ha
  refine zs3 ?_; rw [hit,zaz]
  by_cases hlt:i < ks.length
  ·obtain ⟨x,r,hr⟩:∃ x r,rest = x::r:=⟨ks[i],ks.drop (i + 1),by rw [← hd]; exact List.drop_eq_getElem_cons hlt⟩
   subst hr
   have hx0:ks[i]? = some x:=zfa hd
   obtain ⟨kx,hvx,hHx⟩:∃ k,vs[i]? = some (.obj k)∧H[k]? = some (.list [.str x.1,.str x.2]):=Rel.at R i x hx0
   have hr1:ks.drop (i + 1) = r:=zf8 hd
   have lb1:localB plSc "shown" = true:=by kernel_rfl
   have lb2:localB plSc "sign" = true:=by kernel_rfl
   have hva':assignM plSc m H (compT zkb) (.obj kx) = some (upd (upd m "shown" (.str x.1)) "sign" (.str x.2)):=zet hHx lb1 lb2
   rw [hvx,zg5,hva',zaz]
   cases n with
   | zero=>exact absurd hn (Nat.not_succ_le_zero _)
   | succ n=>
   have hev:∀ (Q:V→Hp→Prop),Q (.str x.2) H→@WpI _ ⟨Q⟩ ⟨E⟩ (ev (prg K) d plSc (upd (upd m "shown" (.str x.1)) "sign" (.str x.2)) (zk0 zkb)) H:=fun Q h=>by
    show @WpI _ ⟨Q⟩ ⟨E⟩ (ev (prg K) d plSc (upd (upd m "shown" (.str x.1)) "sign" (.str x.2)) (.Name "sign" _)) H
    refine in_e ?_
    open_k with [z2x]
    exact h
   refine hev _ ?_
   have hz:(done.map fun p=>V.str p.2).length < cap:=by rw [List.length_map,hdn]; exact Nat.lt_of_lt_of_le hlt (Nat.le_trans hlen (by decide))
   have hb:zax H "list.append" [.obj acc,.str x.2] = some (.none,H.set acc (.list ((done++[x]).map fun p=>.str p.2))):=by
    rw [zk1]
    show onLs _ H[acc]? = _
    rw [hac,List.map_append]; exact if_pos hz
   rw [hb,zaz]
   have st:Stay H (H.set acc (.list ((done++[x]).map fun p=>V.str p.2))) [acc]:=Stay.set _ (.head _)
   refine ih n (Nat.lt_succ_self n) _ r (done++[x]) (i + 1) _ Q E (Nat.le_of_succ_le_succ hn) hr1 hlt (by rw [List.length_append,hdn]; rfl) (st.at ha (nm1 hne)) (R.stay st hv) (by rw [List.getElem?_set_self (List.getElem?_eq_some_iff.mp hac).1]) (fun H' s q=>hQ H' (st.trans s) (by rw [List.append_assoc] at q; exact q))
  ·have hr0:rest = []:=by rw [← hd]; exact List.drop_eq_nil_of_le (Nat.le_of_not_lt (by assumption))
   have hv0:vs[i]? = none:=List.getElem?_eq_none (Nat.le_trans (Nat.le_of_eq hl) (Nat.le_of_not_lt hlt))
   subst hr0
   rw [hv0]
   exact hQ H (Stay.refl _ _) (by rw [List.append_nil]; exact hac)
end
section
variable {K:Wd} (G:Gl K)
include G
theorem z61 (d u:Nat) (us:List U3) (vs:List V) (hlen:us.length≤1000) (hsz:(us.flatMap fun x=>x.2.1).length≤20000) (H:Hp) (Q:V→Hp→Prop) (E:EK→Hp→Prop) (hu:H[u]? = some (.list vs)) (R:RelU H vs us)
  (h:∀ H',Stay H H' []→Q (.str (plainU us)) H'):@WpI _ ⟨Q⟩ ⟨E⟩ (call (prg K) (d + 1) (.top (.ref 789)) [.obj u] [] []) H:=by
 refine z5d ?_
 refine zaj rfl ?_
 have c0:(0 < cap) = True:=eq_true (by decide)
 have g0:=Grow.one H (O.list [])
 have hul:=(List.getElem?_eq_some_iff.mp hu).1
 have hu0:=g0.at hu
 have nl:zfl (H++[O.list []]) (.obj u) = some ():=need_l hu0
 have hva:∀ k,V.obj k∈vs→k≠H.length:=fun k hk=>Nat.ne_of_lt (R.live hk)
 have R0:RelU (H++[O.list []]) vs us:=R.stay (g0.stay [H.length]) hva
 open_k with [zcz,c0,nl]
 refine z1u G d u H.length us vs hlen hva (Nat.ne_of_lt (by assumption)) _ _ us 0 [] [] _ _ E (Nat.le_refl _) rfl (Nat.zero_le _) (by kernel_rfl) hu0 R0 (by rw [List.getElem?_concat_length]) trivial (fun _ h=>nomatch h) (Nat.le_trans (Nat.le_of_eq (Nat.zero_add _)) (Nat.le_trans hlen (by decide))) (fun m' H' kv' s hm ha RK hn=>?_)
 have st0:Stay H H' []:=s.new
 open_k with [r_comp]
 refine zc3 (sc':=zci zkb) rfl (zyq m') (in_e ?_)
 have hsrc:srcM H' (.obj H.length) = some (.list H.length):=zwl ha
 have hal:=(List.getElem?_eq_some_iff.mp ha).1
 open_k with [zcz,hm]
 refine ⟨_,hsrc,?_⟩
 have g1:=Grow.one H' (O.list [])
 have hkl:∀ k,V.obj k∈kv'→k≠H'.length:=fun k hk=>Nat.ne_of_lt (RK.live hk)
 have hn:(plainUK [] us).length≤1000:=Nat.le_trans hn (Nat.le_trans (Nat.le_of_eq (Nat.zero_add _)) hlen)
 refine z08 d H.length H'.length (Nat.ne_of_lt (by assumption)) (plainUK [] us) kv' (Nat.le_trans hn (by decide)) hkl _ _ (plainUK [] us) [] 0 _ _ _ (Nat.le_refl _) rfl (Nat.zero_le _) rfl (g1.at ha) (RK.stay (g1.stay [H'.length]) hkl) (by rw [List.getElem?_concat_length]; rfl) (fun H2 s2 e2=>?_)
 have st2:Stay H H2 []:=st0.trans s2.new
 have hj:z2i H2 [.str [],.obj H'.length] = some (.str (plainU us),H2):=by
  have e3:strs? (([]++plainUK [] us).map fun p:Kp=>V.str p.2) = some ((plainUK [] us).map (·.2)):=by
   have:=zwf ((plainUK [] us).map (·.2))
   rw [List.map_map] at this
   exact this
  have e4:((plainUK [] us).map (·.2)).flatten = plainU us:=by rw [plainU,List.flatMap_def]
  have b2:(plainU us).length≤cap:=Nat.le_trans (zii us []) (Nat.le_trans (Nat.le_of_eq (Nat.zero_add _)) (Nat.le_trans hsz (by decide)))
  have b3:(([]++plainUK [] us).map fun p:Kp=>V.str p.2).length≤cap:=by rw [List.length_map]; exact Nat.le_trans hn (by decide)
  show onLs (joinL H2) H2[H'.length]? = _
  rw [e2]
  show (strs? _).bind _ = _
  rw [e3]
  show (if _ then _ else _) = _
  rw [e4,if_pos ⟨b2,b3⟩]
 open_k with [hj]
 exact h H2 st2
end
noncomputable def Gq (K:Wd):Prop:=∀ c,c < 256→((topList K.F 42).bind fun vs=>(vs[c]?).bind zuf) = some (.str [61,hxU (c / 16),hxU (c % 16)])
noncomputable def AllLt (P:Nat→Prop):Nat→Prop
 | 0=>True
 | n + 1=>AllLt P n∧P n
theorem z9u {P:Nat→Prop} {n:Nat} (k:AllLt P n) (j:Nat) (h:j < n):P j:=by
 induction n with
 | zero=>exact absurd h (Nat.not_lt_zero j)
 | succ n ih=>
   rcases Nat.lt_succ_iff_lt_or_eq.mp h with q | q
   ·exact ih k.1 q
   ·exact q ▸ k.2
theorem imod (x:Int) (n:Nat) (h:0 < n):(x % (n:Int):Int) = (((x % (n:Int)).toNat:Nat):Int)∧(x % (n:Int)).toNat < n:=
 have z:0≤x % (n:Int):=Int.emod_nonneg x (Int.ofNat_ne_zero.mpr (Nat.ne_of_gt h))
 ⟨(Int.toNat_of_nonneg z).symm,(Int.toNat_lt z).mpr (Int.emod_lt_of_pos x (Int.ofNat_lt.mpr h))⟩
theorem len_u {a u r:Nat} (h:a + 2 * (r + 1)≤400) (q:u≤2):a + u + 2 * r≤400:=by lia
section
variable {K:Wd} (G:Gl K) (T:Gq K)
include G T
theorem zwr (d c:Nat) (hc:c < 256) (H:Hp) (Q:V→Hp→Prop) (E:EK→Hp→Prop) (h:Q (.str [61,hxU (c / 16),hxU (c % 16)]) H):@WpI _ ⟨Q⟩ ⟨E⟩ (call (prg K) (d + 1) (.top (.ref 69)) [.str [c]] [] []) H:=by
 refine z5b ?_
 refine zaj rfl ?_
 have co:cOrd H [.str [c]] = some (.int c,H):=rfl
 have hs:subM K.F H (.top (.ref 42)) (.int (c:Int)) = some (.str [61,hxU (c / 16),hxU (c % 16)]):=by
  show (if 0≤(c:Int)∧(c:Int) < 1000 then (topList K.F 42).bind fun vs=>(vs[((c:Int)).toNat]?).bind zuf else none) = _
  rw [if_pos ⟨Int.natCast_nonneg _,Int.ofNat_lt.mpr (Nat.lt_trans hc (by decide))⟩,Int.toNat_natCast]
  exact T c hc
 open_k with [zw2,g_map,g_ord,co,hs]
 exact h
noncomputable def z0k:Stmt:=nthS (zar zfg) 1
omit G T in
theorem zqq {H:Hp} {a:Nat} {uv:List V} {us:List U3} (u:U3) (ha:H[a]? = some (.list uv)) (R:RelU H uv us) (hv:∀ k,V.obj k∈uv→k≠a) (hz:us.length < cap):
  ∃ H',mAppend (H++[uO u]) [.obj a,.obj H.length] = some (.none,H')∧Stay H H' [a]∧H'[a]? = some (.list (uv++[.obj H.length]))∧RelU H' (uv++[.obj H.length]) (us++[u])∧∀ k,V.obj k∈uv++[.obj H.length]→k≠a:=by
 have g1:=Grow.one H (uO u)
 have hal:=(List.getElem?_eq_some_iff.mp ha).1
 have ha1:=g1.at ha
 have hz':uv.length < cap:=by rw [R.len]; exact hz
 have st2:Stay (H++[uO u]) ((H++[uO u]).set a (.list (uv++[.obj H.length]))) [a]:=Stay.set _ (.head _)
 refine ⟨_,by simp only [zd3,ha1,hz',if_true],(g1.stay [a]).trans st2,by rw [List.getElem?_set_self (List.getElem?_eq_some_iff.mp ha1).1],Rel.app (R.stay ((g1.stay [a]).trans st2) hv) ⟨⟨_,rfl,st2.at List.getElem?_concat_length (nm1 (Nat.ne_of_gt hal))⟩,trivial⟩,fun k hk=>?_⟩
 rcases List.mem_append.mp hk with hk | hk
 ·exact hv k hk
 ·have:=List.mem_singleton.mp hk; cases this; exact Nat.ne_of_gt hal
omit G T in
theorem push2 {H:Hp} {a:Nat} {uv:List V} {us:List U3} (u v:U3) (ha:H[a]? = some (.list uv)) (R:RelU H uv us) (hv:∀ k,V.obj k∈uv→k≠a) (hz:us.length + 2≤cap):
  ∃ H' uv',mExtend (H++[uO u]++[uO v]++[.list [.obj H.length,.obj (H++[uO u]).length]]) [.obj a,.obj (H++[uO u]++[uO v]).length] = some (.none,H')∧Stay H H' [a]∧H'[a]? = some (.list uv')∧RelU H' uv' (us++[u,v])∧∀ k,V.obj k∈uv'→k≠a:=by
 have g1:=Grow.one H (uO u)
 have g2:=Grow.one (H++[uO u]) (uO v)
 have g3:=Grow.one (H++[uO u]++[uO v]) (.list [.obj H.length,.obj (H++[uO u]).length])
 have g:=(g1.trans g2).trans g3
 have hal:=(List.getElem?_eq_some_iff.mp ha).1
 have ha1:=g.at ha
 have hz':uv.length + 2≤cap:=by rw [R.len]; exact hz
 have u1:(H++[uO u]++[uO v]++[.list [.obj H.length,.obj (H++[uO u]).length]])[H.length]? = some (uO u):=(g2.trans g3).at List.getElem?_concat_length
 have u2:(H++[uO u]++[uO v]++[.list [.obj H.length,.obj (H++[uO u]).length]])[(H++[uO u]).length]? = some (uO v):=g3.at List.getElem?_concat_length
 have u3:(H++[uO u]++[uO v]++[.list [.obj H.length,.obj (H++[uO u]).length]])[(H++[uO u]++[uO v]).length]? = some (.list [.obj H.length,.obj (H++[uO u]).length]):=List.getElem?_concat_length
 have lt1:a < (H++[uO u]).length:=by rw [List.length_append]; exact Nat.lt_succ_of_lt hal
 have lt2:a < (H++[uO u]++[uO v]).length:=by rw [List.length_append]; exact Nat.lt_succ_of_lt lt1
 generalize (H++[uO u]++[uO v]++[.list [.obj H.length,.obj (H++[uO u]).length]]) = H3 at g ha1 u1 u2 u3
 have st2:Stay H3 (H3.set a (.list (uv++[.obj H.length,.obj (H++[uO u]).length]))) [a]:=Stay.set _ (.head _)
 have st:=(g.stay [a]).trans st2
 refine ⟨_,uv++[.obj H.length,.obj (H++[uO u]).length],by rw [zy9 ha1 u3,if_pos ⟨hz',Nat.ne_of_gt lt2,List.cons_ne_nil _ _⟩],st,by rw [List.getElem?_set_self (List.getElem?_eq_some_iff.mp ha1).1],Rel.app (R.stay st hv) ⟨⟨_,rfl,st2.at u1 (nm1 (Nat.ne_of_gt hal))⟩,⟨_,rfl,st2.at u2 (nm1 (Nat.ne_of_gt lt1))⟩,trivial⟩,fun k hk=>?_⟩
 rcases List.mem_append.mp hk with hk | hk
 ·exact hv k hk
 ·rcases List.mem_cons.mp hk with e | hk
  ·cases e; exact Nat.ne_of_gt hal
  ·cases List.mem_singleton.mp hk; exact Nat.ne_of_gt lt1
omit G T in
theorem low_hx (d:Nat) (h:d < 16):lowA (hxU d) = hxL d∧decide (hxU d < 128) = true:=by
 have:∀ d:Fin 16,lowA (hxU d.val) = hxL d.val∧decide (hxU d.val < 128) = true:=by decide
 exact this ⟨d,h⟩
theorem z0j (d nb a:Nat) (ns:List Int) (hnb:nb≠a) (hlen:ns.length≤100):∀ (n:Nat) (m:Lo) (rest:List Int) (i:Nat) (us:List U3) (uv:List V) (H:Hp) (S:Fl×Lo→Hp→Prop) (E:EK→Hp→Prop),rest.length≤n→ns.drop i = rest→i≤ns.length→
  m "units" = some (.obj a)→H[nb]? = some (.list (ns.map .int))→H[a]? = some (.list uv)→RelU H uv us→(∀ k,V.obj k∈uv→k≠a)→us.length + 2 * rest.length≤400→
  (∀ m' H' uv',Stay H H' [a]→m' "units" = some (.obj a)→H'[a]? = some (.list uv')→RelU H' uv' (us++unitsOf rest)→(∀ k,V.obj k∈uv'→k≠a)→S (.next,m') H')→
  @WpI _ ⟨S⟩ ⟨E⟩ (frl (prg K) (d + 1) zak m (zg8 z0k) (zas z0k) (.obj nb) i) H:=by
  intro n
  induction n using Nat.strongRecOn with
  | ind n ih=>
  intro m rest i us uv H S E hn hd hi hm hb ha R hv hsz hS
  have hit:z26 H (.obj nb) i = some ((ns[i]?).map .int):=(zol hb).trans (congrArg some List.getElem?_map)
  refine wl_for ?_; rw [hit,zaz]
  by_cases hlt:i < ns.length
  ·obtain ⟨x,r,hr⟩:∃ x r,rest = x::r:=⟨ns[i],ns.drop (i + 1),by rw [← hd]; exact List.drop_eq_getElem_cons hlt⟩
   subst hr
   have hx0:ns[i]? = some x:=zfa hd
   have hr1:ns.drop (i + 1) = r:=zf8 hd
   have lb1:localB zak "number" = true:=by kernel_rfl
   have hva':assignM zak m H (zg8 z0k) (.int x) = some (upd m "number" (.int x)):=by
    show (if localB zak "number" = true then some (upd m "number" (.int x)) else none:Option Lo) = _
    rw [if_pos lb1]
   rw [hx0,Option.map_some,zg5,hva',zaz]
   cases n with
   | zero=>exact absurd hn (Nat.not_succ_le_zero _)
   | succ n=>
   have c5:(5 < cap) = True:=eq_true (by decide)
   have c8:(8 < cap) = True:=eq_true (by decide)
   have he:∀ H:Hp,subM K.F (H++[O.list [V.str [11],V.str [12],V.str [28],V.str [133],V.str [8232]]]) (.obj H.length) (.int (x / 16 % 5)) = some (.str [zlu (x / 16)]):=fun H=>by
    rw [show (x / 16 % 5:Int) = ((x / 16 % 5).toNat:Nat) from (imod _ 5 (by decide)).1]
    refine zbr (List.getElem?_concat_length) ?_
    unfold zlu
    have h5:(x / 16 % 5).toNat < 5:=(imod _ 5 (by decide)).2
    generalize (x / 16 % 5).toNat = j at h5
    revert j; exact z9u ⟨⟨⟨⟨⟨trivial,rfl⟩,rfl⟩,rfl⟩,rfl⟩,rfl⟩
   refine zaj rfl ?_
   open_k with [zaw,and_self,c5,he]
   have g1:=Grow.one H (O.list [V.str [11],V.str [12],V.str [28],V.str [133],V.str [8232]])
   have ha1:=g1.at ha
   have hb1:=g1.at hb
   have st1:=g1.stay [a]
   generalize H++[O.list [V.str [11],V.str [12],V.str [28],V.str [133],V.str [8232]]] = H1 at g1 ha1 hb1 st1
   have hk:∃ k:Nat,x % 16 = (k:Int)∧k < 16∧(x % 16).toNat = k:=⟨(x % 16).toNat,(imod x 16 (by decide)).1,(imod x 16 (by decide)).2,rfl⟩
   obtain ⟨k,hk,hk16,hkn⟩:=hk
   have hpc:unitsOf (x::r) = unitsU (pcOf x)++unitsOf r:=rfl
   unfold pcOf at hpc
   simp only [hkn] at hpc
   generalize hx16:x / 16 = q at hpc
   have fin:∀ (m':Lo) (H2:Hp) (U:List U3) (uv2:List V),Stay H1 H2 [a]→m' "units" = some (.obj a)→H2[a]? = some (.list uv2)→RelU H2 uv2 (us++U)→(∀ k,V.obj k∈uv2→k≠a)→unitsOf (x::r) = U++unitsOf r→U.length≤2→
     @WpI _ ⟨S⟩ ⟨E⟩ (frl (prg K) (d + 1) zak m' (zg8 z0k) (zas z0k) (.obj nb) (i + 1)) H2:=fun m' H2 U uv2 st q1 q2 q3 q4 q5 q6=>
    ih n (Nat.lt_succ_self n) m' r (i + 1) (us++U) uv2 H2 S E (Nat.le_of_succ_le_succ hn) hr1 hlt q1 (st.at hb1 (nm1 hnb)) q2 q3 q4 (by rw [List.length_append]; exact len_u hsz q6) (fun m2 H3 uv3 s2 r1 r2 r3 r4=>hS m2 H3 uv3 ((st1.trans st).trans s2) r1 r2 (by rw [q5,← List.append_assoc]; exact r3) r4)
   have R1:=R.stay st1 hv
   have c3:(3 < cap) = True:=eq_true (by decide)
   have c2:(2 < cap) = True:=eq_true (by decide)
   have hz:us.length < cap:=Nat.lt_of_le_of_lt (Nat.le_trans (Nat.le_add_right _ _) hsz) (by decide)
   rw [hk]
   refine zc0 (fun b1=>?_) (fun b1=>?_)
   ·have h8:k < 8:=Int.ofNat_lt.mp b1
    have h4:∀ H:Hp,subM K.F H (.str [97,70,52,233]) (.int (q % 4)) = some (.str [([97,70,52,233]:List Nat)[(q % 4).toNat]?.getD 0]):=fun H=>by
     have h4:(q % 4).toNat < 4:=(imod _ 4 (by decide)).2
     rw [show (q % 4:Int) = ((q % 4).toNat:Nat) from (imod _ 4 (by decide)).1,Int.toNat_natCast]
     generalize (q % 4).toNat = j at h4
     revert j; exact z9u ⟨⟨⟨⟨trivial,rfl⟩,rfl⟩,rfl⟩,rfl⟩
    have h7:∀ H:Hp,subM K.F (H++[O.list [V.str [39],V.str [34],V.str [92],V.str [32],V.str [10],V.str [35],V.str [9],V.str [([97,70,52,233]:List Nat)[(q % 4).toNat]?.getD 0]]]) (.obj H.length) (.int k) = some (.str [zgk k q]):=fun H=>by
     refine zbr List.getElem?_concat_length ?_
     unfold zgk
     generalize ([97,70,52,233]:List Nat)[(q % 4).toNat]?.getD 0 = z
     exact z9u (n:=8) (P:=fun k=>([V.str [39],V.str [34],V.str [92],V.str [32],V.str [10],V.str [35],V.str [9],V.str [z]]:List V)[k]? = some (V.str [([39,34,92,32,10,35,9,z]:List Nat)[k]?.getD 0])) ⟨⟨⟨⟨⟨⟨⟨⟨trivial,rfl⟩,rfl⟩,rfl⟩,rfl⟩,rfl⟩,rfl⟩,rfl⟩,rfl⟩ k h8
    have g2:=Grow.one H1 (O.list [V.str [39],V.str [34],V.str [92],V.str [32],V.str [10],V.str [35],V.str [9],V.str [([97,70,52,233]:List Nat)[(q % 4).toNat]?.getD 0]])
    have ha2:=g2.at ha1
    have R2:=R1.stay (g2.stay [a]) hv
    have mi:methM (prg K) (H1++[O.list [V.str [39],V.str [34],V.str [92],V.str [32],V.str [10],V.str [35],V.str [9],V.str [([97,70,52,233]:List Nat)[(q % 4).toNat]?.getD 0]]]) (.obj a) "append" = none:=zcm ha2
    have mj:zcd (H1++[O.list [V.str [39],V.str [34],V.str [92],V.str [32],V.str [10],V.str [35],V.str [9],V.str [([97,70,52,233]:List Nat)[(q % 4).toNat]?.getD 0]]]) (.obj a) "append" = some "list.append" := (zb3 ha2).trans zbp
    open_k with [zaw,and_self,c8,h4,hm,h7,mi,mj]
    generalize H1++[O.list [V.str [39],V.str [34],V.str [92],V.str [32],V.str [10],V.str [35],V.str [9],V.str [([97,70,52,233]:List Nat)[(q % 4).toNat]?.getD 0]]] = H2 at g2 ha2 R2 mi mj
    obtain ⟨H3,e3,s3,a3,R3,v3⟩:=zqq (([zgk k q],[zgk k q],true):U3) ha2 R2 hv hz
    unfold uO at e3
    dsimp only at e3
    open_k with [zaw,hm,c3,e3]
    exact fin _ H3 [([zgk k q],[zgk k q],true)] _ ((g2.stay [a]).trans s3) ((by kernel_rfl:_ = _).trans hm) a3 R3 v3 (by rw [hpc,if_pos h8]; rfl) (Nat.le_of_ble_eq_true rfl)
   ·open_k with [zaw]
    refine zc0 (fun b2=>?_) (fun b2=>?_)
    ·have mi:methM (prg K) (H1) (.obj a) "extend" = none:=zcm ha1
     have mj:zcd (H1) (.obj a) "extend" = some "list.extend" := (zb3 ha1).trans zr1
     have hk8:k = 8:=Int.natCast_inj.mp b2
     have hz2:us.length + 2≤cap:=Nat.le_trans (Nat.le_trans (Nat.add_le_add_left (Nat.le_add_left 2 (2 * r.length)) _) hsz) (by decide)
     obtain ⟨H3,uv3,e3,s3,a3,R3,v3⟩:=push2 (([61],[61],true):U3) (([122],[122],true):U3) ha1 R1 hv hz2
     unfold uO at e3
     dsimp only at e3
     open_k with [zaw,hm,mi,mj,c3,c2,e3]
     exact fin _ H3 [([61],[61],true),([122],[122],true)] _ s3 ((by kernel_rfl:_ = _).trans hm) a3 R3 v3 (by rw [hpc,hk8]; rfl) (Nat.le_of_ble_eq_true rfl)
    ·open_k with [zaw]
     refine zc0 (fun b3=>?_) (fun b3=>?_)
     ·have mi:methM (prg K) (H1) (.obj a) "append" = none:=zcm ha1
      have mj:zcd (H1) (.obj a) "append" = some "list.append" := (zb3 ha1).trans zbp
      have hk9:k = 9:=Int.natCast_inj.mp b3
      have lc:(1 + 1≤cap) = True:=eq_true (by decide)
      obtain ⟨H3,e3,s3,a3,R3,v3⟩:=zqq (([61,zlu q],[],false):U3) ha1 R1 hv hz
      unfold uO at e3
      dsimp only at e3
      open_k with [zaw,hm,mi,mj,c3,lc,List.cons_append,List.nil_append,e3]
      exact fin _ H3 [([61,zlu q],[],false)] _ s3 ((by kernel_rfl:_ = _).trans hm) a3 R3 v3 (by rw [hpc,hk9]; rfl) (Nat.le_of_ble_eq_true rfl)
     ·open_k with [zaw]
      refine zc0 (fun b4=>?_) (fun b4=>?_)
      ·have mi:methM (prg K) (H1) (.obj a) "append" = none:=zcm ha1
       have mj:zcd (H1) (.obj a) "append" = some "list.append" := (zb3 ha1).trans zbp
       have hk10:k = 10:=Int.natCast_inj.mp b4
       obtain ⟨H3,e3,s3,a3,R3,v3⟩:=zqq (([zlu q],[10],false):U3) ha1 R1 hv hz
       unfold uO at e3
       dsimp only at e3
       open_k with [zaw,hm,mi,mj,c3,e3]
       exact fin _ H3 [([zlu q],[10],false)] _ s3 ((by kernel_rfl:_ = _).trans hm) a3 R3 v3 (by rw [hpc,hk10]; rfl) (Nat.le_of_ble_eq_true rfl)
      ·open_k with [zaw]
       have s8:k < 14→subM K.F H1 (.str [39,34,92,32,10,35,61,9]) (.int (q % 8)) = some (.str [zao k q]):=fun h=>by
        have h4:(q % 8).toNat < 8:=(imod _ 8 (by decide)).2
        rw [show (q % 8:Int) = ((q % 8).toNat:Nat) from (imod _ 8 (by decide)).1]
        unfold zao
        rw [if_pos h]
        generalize (q % 8).toNat = j at h4
        revert j; exact z9u ⟨⟨⟨⟨⟨⟨⟨⟨trivial,rfl⟩,rfl⟩,rfl⟩,rfl⟩,rfl⟩,rfl⟩,rfl⟩,rfl⟩
       have sc:¬ k < 14→cChr H1 [.int (q % 256)] = some (.str [zao k q],H1):=fun h=>by
        rw [z4n,if_pos ⟨Int.emod_nonneg _ (by decide),Int.emod_lt_of_pos _ (by decide)⟩]
        unfold zao
        rw [if_neg h]
       have lc:=zsf k q
       have hk8:¬ k < 8:=fun h=>b1 (Int.ofNat_lt.mpr h)
       have hk8':¬ k = 8:=fun h=>b2 (Int.natCast_inj.mpr h)
       have hk9:¬ k = 9:=fun h=>b3 (Int.natCast_inj.mpr h)
       have hk10:¬ k = 10:=fun h=>b4 (Int.natCast_inj.mpr h)
       have mi:methM (prg K) H1 (.obj a) "append" = none:=zcm ha1
       have mj:zcd H1 (.obj a) "append" = some "list.append" := (zb3 ha1).trans zbp
       have hlow:zrp H1 [.str [61,hxU (zao k q / 16),hxU (zao k q % 16)]] = some (.str [61,hxL (zao k q / 16),hxL (zao k q % 16)],H1):=by
        obtain ⟨p1,p2⟩:=low_hx (zao k q / 16) (Nat.div_lt_of_lt_mul (show zao k q < 16 * 16 from lc))
        obtain ⟨p3,p4⟩:=low_hx (zao k q % 16) (Nat.mod_lt _ (by decide))
        simp only [z2h,List.all_cons,List.all_nil,p2,p4,List.map_cons,List.map_nil,p1,p3]
        rfl
       refine zc0 (fun b5=>?_) (fun b5=>?_)
       ·have b5':k < 14:=Int.ofNat_lt.mp b5
        open_k with [zaw,and_self,s8 b5',z3s]
        refine zwr G T d (zao k q) lc H1 _ _ ?_
        open_k with [zaw,and_self,hm,mi,mj]
        refine zc0 (fun b6=>?_) (fun b6=>?_)
        ·have b6':k % 2 = 1:=Int.natCast_inj.mp (show ((k % 2:Nat):Int) = ((1:Nat):Int) from b6)
         obtain ⟨H3,e3,s3,a3,R3,v3⟩:=zqq (([61,hxL (zao k q / 16),hxL (zao k q % 16)],[zao k q],false):U3) ha1 R1 hv hz
         unfold uO at e3
         dsimp only at e3
         open_k with [zaw,hm,c3,hlow,e3]
         exact fin _ H3 [([61,hxL (zao k q / 16),hxL (zao k q % 16)],[zao k q],false)] _ s3 ((by kernel_rfl:_ = _).trans hm) a3 R3 v3 (by rw [hpc,if_neg hk8,if_neg hk8',if_neg hk9,if_neg hk10,if_pos b6']; rfl) (Nat.le_of_ble_eq_true rfl)
        ·have b6':¬ k % 2 = 1:=fun h=>b6 (show ((k % 2:Nat):Int) = ((1:Nat):Int) from Int.natCast_inj.mpr h)
         obtain ⟨H3,e3,s3,a3,R3,v3⟩:=zqq (([61,hxU (zao k q / 16),hxU (zao k q % 16)],[zao k q],false):U3) ha1 R1 hv hz
         unfold uO at e3
         dsimp only at e3
         open_k with [zaw,hm,c3,e3]
         exact fin _ H3 [([61,hxU (zao k q / 16),hxU (zao k q % 16)],[zao k q],false)] _ s3 ((by kernel_rfl:_ = _).trans hm) a3 R3 v3 (by rw [hpc,if_neg hk8,if_neg hk8',if_neg hk9,if_neg hk10,if_neg b6']; rfl) (Nat.le_of_ble_eq_true rfl)
       ·have b5':¬ k < 14:=fun h=>b5 (Int.ofNat_lt.mpr h)
        open_k with [zaw,and_self,g_chr,sc b5',z3s]
        refine zwr G T d (zao k q) lc H1 _ _ ?_
        open_k with [zaw,and_self,hm,mi,mj]
        refine zc0 (fun b6=>?_) (fun b6=>?_)
        ·have b6':k % 2 = 1:=Int.natCast_inj.mp (show ((k % 2:Nat):Int) = ((1:Nat):Int) from b6)
         obtain ⟨H3,e3,s3,a3,R3,v3⟩:=zqq (([61,hxL (zao k q / 16),hxL (zao k q % 16)],[zao k q],false):U3) ha1 R1 hv hz
         unfold uO at e3
         dsimp only at e3
         open_k with [zaw,hm,c3,hlow,e3]
         exact fin _ H3 [([61,hxL (zao k q / 16),hxL (zao k q % 16)],[zao k q],false)] _ s3 ((by kernel_rfl:_ = _).trans hm) a3 R3 v3 (by rw [hpc,if_neg hk8,if_neg hk8',if_neg hk9,if_neg hk10,if_pos b6']; rfl) (Nat.le_of_ble_eq_true rfl)
        ·have b6':¬ k % 2 = 1:=fun h=>b6 (show ((k % 2:Nat):Int) = ((1:Nat):Int) from Int.natCast_inj.mpr h)
         obtain ⟨H3,e3,s3,a3,R3,v3⟩:=zqq (([61,hxU (zao k q / 16),hxU (zao k q % 16)],[zao k q],false):U3) ha1 R1 hv hz
         unfold uO at e3
         dsimp only at e3
         open_k with [zaw,hm,c3,e3]
         exact fin _ H3 [([61,hxU (zao k q / 16),hxU (zao k q % 16)],[zao k q],false)] _ s3 ((by kernel_rfl:_ = _).trans hm) a3 R3 v3 (by rw [hpc,if_neg hk8,if_neg hk8',if_neg hk9,if_neg hk10,if_neg b6']; rfl) (Nat.le_of_ble_eq_true rfl)
  ·have hr0:rest = []:=by rw [← hd]; exact List.drop_eq_nil_of_le (Nat.le_of_not_lt hlt)
   subst hr0
   rw [List.getElem?_eq_none (Nat.le_of_not_lt hlt)]
   exact hS m H uv (Stay.refl _ _) hm ha (by rw [show unitsOf [] = [] from rfl,List.append_nil]; exact R) hv
end
section
variable {K:Wd} (G:Gl K) (T:Gq K)
include G T
omit G T in
theorem z00 {H:Hp} {l:List Nat} {c:Nat}:subM K.F H (.str (l++[c])) (.int (-1)) = some (.str [c]):=by
 rw [zm5,List.length_append,show idx (-1) (l.length + [c].length) = some l.length from z3i (Nat.succ_pos _),Option.bind_some]
 show ((l++[c])[l.length]?).map _ = _
 rw [List.getElem?_concat_length]; rfl
omit G T in
theorem z5l {ns:List Int} (h:ns≠[]):unitsOf ns≠[]:=by
 cases ns with
 | nil=>exact absurd rfl h
 | cons x r=>
   have:unitsU (pcOf x)≠[]:=by cases pcOf x <;> exact List.cons_ne_nil _ _
   intro e
   rw [unitsOf,List.map_cons,List.flatMap_cons] at e
   exact this (List.append_eq_nil_iff.mp e).1
omit G T in
theorem units_text (ns:List Int) (w:U3) (h:w∈unitsOf ns):w.1≠[]:=by
 obtain ⟨p,_,hp⟩:=List.mem_flatMap.mp h
 have one {u:U3} (h:w∈[u]) (n:u.1≠[]):w.1≠[]:=by rw [List.mem_singleton.mp h]; exact n
 cases p with
 | eqz=>
   rcases List.mem_cons.mp hp with rfl | hp
   ·exact List.cons_ne_nil _ _
   ·exact one hp (List.cons_ne_nil _ _)
 | _=>exact one hp (List.cons_ne_nil _ _)
omit G T in
theorem zps (ns:List Int):(unitsOf ns).length≤2 * ns.length:=by
 induction ns with
 | nil=>exact Nat.le_refl _
 | cons x r ih=>
   have:(unitsU (pcOf x)).length≤2:=by cases pcOf x <;> exact Nat.le_of_ble_eq_true rfl
   have e:unitsOf (x::r) = unitsU (pcOf x)++unitsOf r:=rfl
   rw [e,List.length_append,List.length_cons]
   exact Nat.le_trans (Nat.add_le_add this ih) (Nat.le_of_eq (Nat.add_comm _ _))
theorem z5k (d nb:Nat) (ns:List Int) (hlen:ns.length≤100) (hne:ns≠[]) (H:Hp) (Q:V→Hp→Prop) (E:EK→Hp→Prop) (hb:H[nb]? = some (.list (ns.map .int)))
  (h:∀ H' u uv,Stay H H' []→H'[u]? = some (.list uv)→RelU H' uv (guardU (unitsOf ns))→H.length≤u→Q (.obj u) H'):@WpI _ ⟨Q⟩ ⟨E⟩ (call (prg K) (d + 2) (.top (.ref 784)) [.obj nb] [] []) H:=by
 refine z48 ?_
 refine zaj rfl ?_
 have c0:(0 < cap) = True:=eq_true (by decide)
 have c3:(3 < cap) = True:=eq_true (by decide)
 have g0:=Grow.one H (O.list [])
 have hnl:=(List.getElem?_eq_some_iff.mp hb).1
 have hb0:=g0.at hb
 have nl:zfl (H++[O.list []]) (.obj nb) = some ():=need_l hb0
 open_k with [zaw,c0,nl]
 refine z0j G T d nb H.length ns (Nat.ne_of_lt hnl) hlen _ _ ns 0 [] [] _ _ E (Nat.le_refl _) rfl (Nat.zero_le _) (by kernel_rfl) hb0 List.getElem?_concat_length trivial (fun _ h=>nomatch h) (Nat.le_trans (Nat.le_of_eq (Nat.zero_add _)) (Nat.le_trans (Nat.mul_le_mul_left 2 hlen) (by decide))) (fun m' H' uv' s hm ha R hv=>?_)
 have hl:=Rel.len R
 have st0:Stay H H' []:=s.new
 obtain ⟨l0,w,hw⟩:∃ l0 w,unitsOf ns = l0++[w]:=by
  rcases List.eq_nil_or_concat (unitsOf ns) with e | ⟨l0,w,e⟩
  ·exact absurd e (z5l hne)
  ·exact ⟨l0,w,by rw [e,List.concat_eq_append]⟩
 obtain ⟨uv0,v,rfl⟩:∃ uv0 v,uv' = uv0++[v]:=by
  rcases List.eq_nil_or_concat uv' with rfl | ⟨vs0,v,e⟩
  ·rw [hw,List.nil_append,List.length_append] at hl; cases hl
  ·exact ⟨vs0,v,by rw [e,List.concat_eq_append]⟩
 have hl0:uv0.length = l0.length:=by rw [hw,List.nil_append,List.length_append,List.length_append] at hl; exact Nat.succ.inj hl
 rw [List.nil_append,hw] at R
 obtain ⟨kx,hkx,hHx⟩:=R.at l0.length w List.getElem?_concat_length
 have hvx:v = .obj kx:=by rw [← hl0,List.getElem?_concat_length] at hkx; exact Option.some.inj hkx
 subst hvx
 obtain ⟨w0,c,hc⟩:∃ w0 c,w.1 = w0++[c]:=by
  rcases List.eq_nil_or_concat w.1 with e | ⟨l0',c,e⟩
  ·exact absurd e (units_text ns w (by rw [hw]; exact List.mem_append_right _ (.head _)))
  ·exact ⟨l0',c,by rw [e,List.concat_eq_append]⟩
 have sb:subM K.F H' (.obj H.length) (.int (-1)) = some (.obj kx):=zwd ha
 have sb2:subM K.F H' (.obj kx) (.int 0) = some (.str w.1):=zbr (i:=0) hHx rfl
 have sb3:subM K.F H' (.str w.1) (.int (-1)) = some (.str [c]):=by rw [hc]; exact z00
 open_k with [zaw,hm,z0q,sb,sb2,sb3]
 have hg:guardU (unitsOf ns) = if ([32,9,10,11,12,28,133,8232]:List Nat).contains c then (l0++[w])++[([46],[46],true)] else l0++[w]:=by
  unfold guardU
  rw [hw,List.getLast?_append,show [w].getLast? = some w from rfl]
  show (if zfv w.1 then _ else _) = _
  have:zfv w.1 = ([32,9,10,11,12,28,133,8232]:List Nat).contains c:=by
   unfold zfv
   rw [hc,List.getLast?_concat]
  rw [this]
 refine ifI_split (fun b=>?_) (fun b=>?_)
 ·have mi:methM (prg K) H' (.obj H.length) "append" = none:=zcm ha
  have mj:zcd H' (.obj H.length) "append" = some "list.append" := (zb3 ha).trans zbp
  have hz:(l0++[w]).length < cap:=by have:=zps ns; rw [hw] at this; exact Nat.lt_of_le_of_lt (Nat.le_trans this (Nat.mul_le_mul_left 2 hlen)) (by decide)
  obtain ⟨H3,e3,s3,a3,R3,v3⟩:=zqq (([46],[46],true):U3) ha R hv hz
  simp only [uO] at e3
  open_k with [zaw,hm,mi,mj,c3,e3]
  rw [b,if_pos rfl] at hg
  refine h H3 H.length _ (st0.fresh s3 le1) a3 (by rw [hg]; exact R3) (Nat.le_refl _)
 ·open_k with [zaw,hm]
  rw [b] at hg
  exact h H' H.length _ st0 ha (by rw [hg]; exact R) (Nat.le_refl _)
end
structure Gw (K:Wd):Prop where
 units:(prg K).glob "_law_units" = some (.top (.ref 784))
 plain:(prg K).glob "_law_plain" = some (.top (.ref 789))
 words:(prg K).glob "_law_words" = some (.top (.ref 803))
 split:(prg K).glob "split" = some (.top (.ref 777))
 decode:(prg K).glob "decode" = some (.top (.ref 82))
 sum:(prg K).glob "sum" = some (.top (.builtin "sum"))
 range:(prg K).glob "range" = some (.top (.type "range"))
noncomputable def zhh:Stmt:=nthS za5 45
noncomputable def sc_law:Scope:=zbj zhh
theorem zbg:kd sc_law "script" = some .cell∧kd sc_law "own" = some .cell∧kd sc_law "units" = some .local∧kd sc_law "total" = some .local∧kd sc_law "noted" = some .local∧kd sc_law "shell" = some .local∧kd sc_law "text" = some .local∧kd sc_law "due" = some .local∧kd sc_law "told" = some .local∧kd sc_law "words" = some .local∧kd sc_law "_law_units" = some .globalImplicit∧kd sc_law "range" = some .globalImplicit∧kd sc_law "sum" = some .globalImplicit∧kd sc_law "_law_words" = some .globalImplicit∧kd sc_law "_law_plain" = some .globalImplicit∧kd sc_law "split" = some .globalImplicit∧kd sc_law "decode" = some .globalImplicit∧kd sc_law "ValueError" = some .globalImplicit:=by decide +kernel
section
variable {P:Prg} {d:Nat} {sc:Scope} {m:Lo} {H:Hp} {Q:V→Hp→Prop} {E:EK→Hp→Prop}
theorem ev_mono {e:Expr} {Q':V→Hp→Prop} (h:@WpI _ ⟨Q⟩ ⟨E⟩ (ev P d sc m e) H) (hq:∀ v H1,Q v H1→Q' v H1):@WpI _ ⟨Q'⟩ ⟨E⟩ (ev P d sc m e) H:=fun O _ _ _ _ _ _ _ N=>
 wpAny_mono (h O N) (fun _ _ z=>by cases z with | mk x H2 ρ2 r p N q=>exact ⟨x,H2,ρ2,r,p,N,hq _ _ q⟩) fun _ _ z=>z
theorem z81 (elt t:Expr) (x:Src) (acc n:Nat) (M:Lo→Prop) (J:Nat→List V→Hp→Prop) (hcap:n≤90000)
  (hnext:∀ i ys H m,i < n→M m→J i ys H→H[acc]? = some (.list ys)→ys.length = i→∃ v m',itemAt H x i = some (some v)∧assignM sc m H t v = some m'∧M m'∧
   @WpI _ ⟨fun y H1=>H1[acc]? = some (.list ys)∧J (i + 1) (ys++[y]) (H1.set acc (.list (ys++[y])))⟩ ⟨E⟩ (ev P d sc m' elt) H)
  (hend:∀ ys H,J n ys H→H[acc]? = some (.list ys)→itemAt H x n = some none)
  (hQ:∀ ys H,J n ys H→H[acc]? = some (.list ys)→ys.length = n→Q (.obj acc) H) (k:Nat):
  ∀ (i:Nat) (ys:List V) (H:Hp) (m:Lo),i + k = n→M m→J i ys H→H[acc]? = some (.list ys)→ys.length = i→@WpI _ ⟨Q⟩ ⟨E⟩ (comp P d sc m elt t x (.obj acc) i) H:=by
 induction k with
 | zero=>
   intro i ys H m e hm hj ha hl
   have e:i = n:=e
   subst e
   refine zs3 ?_; rw [hend ys H hj ha,zaz]
   exact hQ ys H hj ha hl
 | succ k ih=>
   intro i ys H m e hm hj ha hl
   have hi:i < n:=e ▸ Nat.lt_add_of_pos_right (Nat.succ_pos k)
   obtain ⟨v,m',h1,h2,h3,h4⟩:=hnext i ys H m hi hm hj ha hl
   refine zs3 ?_; rw [h1,zaz,zg5,h2,zaz]
   refine ev_mono h4 fun y H1 q=>?_
   have hb:mAppend H1 [.obj acc,y] = some (.none,H1.set acc (.list (ys++[y]))):=by
    show onLs _ H1[acc]? = _
    rw [q.1]; exact if_pos (hl ▸ Nat.lt_of_lt_of_le hi (Nat.le_trans hcap (by decide)))
   show @optI _ ⟨_⟩ (mAppend H1 [.obj acc,y])
   rw [hb,zaz]
   exact ih (i + 1) _ _ m' ((Nat.succ_add_eq_add_succ i k).trans e) h3 q.2 (by rw [List.getElem?_set_self (List.getElem?_eq_some_iff.mp q.1).1]) (by rw [List.length_append,hl]; rfl)
end
theorem zkz {P:Prg} {d:Nat} {sc:Scope} {m:Lo} {H:Hp} {Q:V→Hp→Prop} {E:EK→Hp→Prop} {elt t:Expr} {x:Src} (n:Nat) (M:Lo→Prop) (J:Nat→List V→Hp→Prop) (hcap:n≤90000)
  (hnext:∀ i ys H1 m,i < n→M m→J i ys H1→H1[H.length]? = some (.list ys)→ys.length = i→∃ v m',itemAt H1 x i = some (some v)∧assignM sc m H1 t v = some m'∧M m'∧
   @WpI _ ⟨fun y H2=>H2[H.length]? = some (.list ys)∧J (i + 1) (ys++[y]) (H2.set H.length (.list (ys++[y])))⟩ ⟨E⟩ (ev P d sc m' elt) H1)
  (hend:∀ ys H1,J n ys H1→H1[H.length]? = some (.list ys)→itemAt H1 x n = some none)
  (hm:M m) (hj:J 0 [] (H++[.list []]))
  (hQ:∀ ys H1,J n ys H1→H1[H.length]? = some (.list ys)→ys.length = n→Q (.obj H.length) H1):
  @WpI _ ⟨Q⟩ ⟨E⟩ (comp P d sc m elt t x (.obj H.length) 0) (H++[.list []]):=
 z81 elt t x H.length n M J hcap hnext hend hQ n 0 [] _ m (Nat.zero_add n) hm hj List.getElem?_concat_length rfl
noncomputable def OWN:List Int:=[7,12,9,3,1,28,2,1,3,4,1,12,26,3775]
noncomputable def numAt (script:List Int) (k:Nat):Int:=OWN[k]?.getD 0 + (zgj script (k:Int) 14).sum
noncomputable def nums (script:List Int):List Int:=(List.range 14).map (numAt script)
theorem znp (script:List Int):(nums script).length = 14:=by rw [nums,List.length_map,List.length_range]
theorem z15 (script:List Int):nums script≠[]:=fun e=>by have:=znp script; rw [e] at this; cases this
noncomputable def zpg (s:Stmt):Expr:=(sV s).2.2.1
noncomputable def nthE (e:Expr) (n:Nat):Expr:=(xV e).1[n]?.getD dXp
noncomputable def lwC1:Expr:=argE (zpg (nthS (zar zhh) 1))
noncomputable def lwC2:Expr:=argE (zpg (nthS (zar zhh) 5))
noncomputable def lwC3:Expr:=argE (nthE (zpg (nthS (zar zhh) 6)) 0)
noncomputable def lwC4:Expr:=argE (nthE (zpg (nthS (zar zhh) 6)) 1)
noncomputable def lwS1:Scope:=zhs (zci lwC1) sc_law
noncomputable def lwS2:Scope:=zhs (zci lwC2) sc_law
noncomputable def lwS3:Scope:=zhs (zci lwC3) sc_law
noncomputable def lwS4:Scope:=zhs (zci lwC4) sc_law
theorem z22:kd lwS1 "k" = some .local∧kd lwS1 "sum" = some .globalImplicit∧kd lwS1 "own" = some .cell∧kd lwS1 "script" = some .cell:=by decide +kernel
theorem z21:kd lwS2 "shown" = some .local∧kd lwS2 "sign" = some .local∧kd lwS2 "raw" = some .local:=by decide +kernel
theorem z20:kd lwS3 "sign" = some .local:=by decide +kernel
theorem z2z:kd lwS4 "shown" = some .local∧kd lwS4 "sign" = some .local∧kd lwS4 "raw" = some .local:=by decide +kernel
theorem lw_ok1 (m:Lo) (a b:V) (h1:m "own" = some a) (h2:m "script" = some b):zdq (zci lwC1) sc_law m = true:=by
 have e:zdq (zci lwC1) sc_law m = (((m "own").isSome && true) && (((m "script").isSome && true) && true)):=by kernel_rfl
 rw [e,h1,h2]; rfl
theorem lw_ok2 (m:Lo):zdq (zci lwC2) sc_law m = true:=by kernel_rfl
theorem lw_ok3 (m:Lo):zdq (zci lwC3) sc_law m = true:=by kernel_rfl
theorem lw_ok4 (m:Lo):zdq (zci lwC4) sc_law m = true:=by kernel_rfl
theorem zwy:(lwS1.names.lookup ("own" : Str) == some NameKind.cell) = true∧(lwS1.names.lookup ("script" : Str) == some NameKind.cell) = true:=by decide +kernel
theorem zpf {sc:Scope} {m:Lo} {H:Hp} {x:Str} {p:Pos} {v:V} (l:localB sc x = true):assignM sc m H (.Name x p) v = some (upd m x v):=(if_pos l:(if localB sc x = true then some (upd m x v) else none) = _)
theorem z04 {α β:Type} (f:α→β) (l:List α) (i k:Int):zgj (l.map f) i k = (zgj l i k).map f:=by
 unfold zgj
 rw [List.length_map]
 generalize sliceRange _ _ _ = r
 induction r with
 | nil=>rfl
 | cons j r ih=>
   rw [List.filterMap_cons,List.filterMap_cons,List.getElem?_map]
   cases l[j]? with
   | none=>exact ih
   | some a=>exact congrArg (f a::·) ih
theorem zw9 (l:List Int):ints? (l.map .int) = some l:=by
 induction l with
 | nil=>rfl
 | cons a l ih=>rw [List.map_cons,ints_c,ih]; rfl
theorem Stay.set_in {H H1:Hp} {a:Nat} (s:Stay H H1 [a]) (o:O):Stay H (H1.set a o) [a]:=s.trans (Stay.set o (.head _))
theorem Stay.cut {H H1:Hp} (s:Stay (H++[O.list []]) H1 [H.length]):Stay H H1 []:=s.new
theorem Stay.push {H H1:Hp} {ks:List Nat} (s:Stay H H1 ks) (o:O):Stay H (H1++[o]) ks:=s.trans (Stay.grow _ _)
theorem zgh {α:Type} {l:List α} {i:Nat} (h:i < l.length):l.take (i + 1) = l.take i++[l[i]]:=by
 rw [List.take_add_one,List.getElem?_eq_getElem h]; rfl
section
variable {K:Wd} (W:Gw K)
include W
theorem z16 (d a b:Nat) {o:Obj} (script:List Int) (m:Lo) (H:Hp) (Q:V→Hp→Prop) (E:EK→Hp→Prop) (ha:H[a]? = some (.fix o (script.map .int))) (hb:H[b]? = some (.list (OWN.map .int))) (m1:m "own" = some (.obj b)) (m2:m "script" = some (.obj a))
  (h:∀ n H1,H1[n]? = some (.list ((nums script).map .int))→Stay H H1 []→Q (.obj n) H1):@WpI _ ⟨Q⟩ ⟨E⟩ (ev (prg K) d sc_law m lwC1) H:=by
 show @WpI _ ⟨Q⟩ ⟨E⟩ (ev (prg K) d sc_law m (.ListComp (zk0 lwC1) [⟨compT lwC1,.Call (.Name "range" _) [.Constant (.int 14) 0 _] [] _,[],0⟩] (zci lwC1) _)) H
 refine zc3 rfl (lw_ok1 m _ _ m1 m2) (in_e ?_)
 have hr:zxq H [.int 14] = some (.obj H.length,H++[.rng 14]):=rfl
 open_k with [zbg,W.range,hr]
 have hs:srcM (H++[O.rng 14]) (.obj H.length) = some (.rng 14):=by show srcO _ _ = _; rw [List.getElem?_concat_length]; rfl
 refine ⟨_,hs,?_⟩
 have s0:Stay H (H++[O.rng 14]) []:=Stay.grow _ _
 have la:=(List.getElem?_eq_some_iff.mp ha).1
 have lb:=(List.getElem?_eq_some_iff.mp hb).1
 refine zkz 14 (fun m'=>m' "own" = some (.obj b)∧m' "script" = some (.obj a)) (fun i ys H2=>Stay (H++[O.rng 14]++[O.list []]) H2 [(H++[O.rng 14]).length]∧ys = (List.range i).map fun k=>V.int (numAt script k)) (Nat.le_add_left _ _)
  (fun i ys H2 m' hi hm hj hacc hl=>?_) (fun ys H2 hj hacc=>rfl) ⟨(if_pos zwy.1).trans m1,(if_pos zwy.2).trans m2⟩ ⟨Stay.refl _ _,rfl⟩ (fun ys H2 hj hacc hl=>h _ H2 ?_ ?_)
 ·have k1:localB lwS1 "k" = true:=by kernel_rfl
  refine ⟨.int i,upd m' "k" (.int i),congrArg some (if_pos hi),?_,⟨(by kernel_rfl:_ = _).trans hm.1,(by kernel_rfl:_ = _).trans hm.2⟩,?_⟩
  ·show assignM lwS1 m' H2 (.Name "k" _) _ = _
   exact zpf k1
  ·have a2:H2[a]? = some (.fix o (script.map .int)):=hj.1.at ((Stay.grow [O.list []] []).at ((Stay.grow [O.rng 14] []).at ha nm0) nm0) (nm1 (Nat.ne_of_lt (by rw [List.length_append]; exact Nat.lt_succ_of_lt la)))
   have b2:H2[b]? = some (.list (OWN.map .int)):=hj.1.at ((Stay.grow [O.list []] []).at ((Stay.grow [O.rng 14] []).at hb nm0) nm0) (nm1 (Nat.ne_of_lt (by rw [List.length_append]; exact Nat.lt_succ_of_lt lb)))
   have sb:subM K.F H2 (.obj b) (.int (i:Int)) = some (.int (OWN[i]?.getD 0)):=zbr b2 (by
    rw [List.getElem?_map]
    have:i < OWN.length:=hi
    rw [List.getElem?_eq_getElem this]; rfl)
   have st:z55 H2 (.obj a) (.int (i:Int)) (.int 14) = some (.obj H2.length,H2++[.list ((zgj script (i:Int) 14).map .int)]):=by
    show (z2n H2[a]?).bind _ = _
    rw [a2]
    exact congrArg (fun z=>some (V.obj H2.length,H2++[O.list z])) (z04 ..)
   have cs:cSum (H2++[O.list ((zgj script (i:Int) 14).map .int)]) [.obj H2.length] = some (.int (zgj script (i:Int) 14).sum,H2++[.list ((zgj script (i:Int) 14).map .int)]):=by
    show (z2n _).bind _ = _
    rw [List.getElem?_concat_length]
    show (ints? _).map _ = _
    rw [zw9]; rfl
   show @WpI _ ⟨_⟩ ⟨_⟩ (ev (prg K) d lwS1 (upd m' "k" (.int i)) (.BinOp (.Subscript (.Name "own" _) (.Name "k" _) _) .Add (.Call (.Name "sum" _) [.Subscript (.Name "script" _) (.Slice (some (.Name "k" _)) none (some (.Constant (.int 14) 0 _)) _) _] [] _) _)) H2
   refine in_e ?_
   open_k with [z22,hm.1,hm.2,W.sum,sb,st,cs]
   refine ⟨by rw [List.getElem?_append_left (List.getElem?_eq_some_iff.mp hacc).1]; exact hacc,(hj.1.push _).set_in _,?_⟩
   rw [hj.2,List.range_succ,List.map_append]
   rfl
 ·rw [hacc,hj.2]; rfl
 ·have q:=hj.1.cut
  exact s0.trans q
omit W in
theorem zyh (d u:Nat) (us:List U3) (vs:List V) (m:Lo) (H:Hp) (Q:V→Hp→Prop) (E:EK→Hp→Prop) (hlen:us.length≤1000) (hu:H[u]? = some (.list vs)) (R:RelU H vs us) (m1:m "units" = some (.obj u))
  (h:∀ n H1,H1[n]? = some (.list (us.map fun x=>.str x.1))→Stay H H1 []→Q (.obj n) H1):@WpI _ ⟨Q⟩ ⟨E⟩ (ev (prg K) d sc_law m lwC2) H:=by
 show @WpI _ ⟨Q⟩ ⟨E⟩ (ev (prg K) d sc_law m (.ListComp (.Name "shown" _) [⟨.Tuple [.Name "shown" _,.Name "sign" _,.Name "raw" _] _ _,.Name "units" _,[],0⟩] (zci lwC2) _)) H
 refine zc3 rfl (lw_ok2 m) (in_e ?_)
 have hs:srcM H (.obj u) = some (.list u):=zwl hu
 open_k with [zbg,m1]
 refine ⟨_,hs,?_⟩
 have lu:=(List.getElem?_eq_some_iff.mp hu).1
 have hl:=R.len
 refine zkz us.length (fun _=>True) (fun i ys H2=>Stay (H++[O.list []]) H2 [H.length]∧ys = (us.take i).map fun x=>V.str x.1) ((Nat.le_trans (by assumption) (by decide)))
  (fun i ys H2 m' hi _ hj hacc hl2=>?_) (fun ys H2 hj hacc=>?_) trivial ⟨Stay.refl _ _,rfl⟩ (fun ys H2 hj hacc hl2=>h _ H2 ?_ hj.1.cut)
 ·have s2:=hj.1.cut
  obtain ⟨k,hk1,hk2⟩:=R.at i us[i] (List.getElem?_eq_getElem hi)
  have k2:=s2.at hk2 (nm0)
  have l1:localB lwS2 "shown" = true:=by kernel_rfl
  have l2:localB lwS2 "sign" = true:=by kernel_rfl
  have l3:localB lwS2 "raw" = true:=by kernel_rfl
  refine ⟨.obj k,_,(zel (s2.at hu nm0)).trans (congrArg some hk1),zs8 k2 l1 l2 l3,trivial,?_⟩
  show @WpI _ ⟨_⟩ ⟨_⟩ (ev (prg K) d lwS2 _ (.Name "shown" _)) H2
  refine in_e ?_
  open_k with [z21]
  refine ⟨hacc,hj.1.set_in _,?_⟩
  rw [hj.2,zgh hi,List.map_append]
  rfl
 ·exact (zel (hj.1.cut.at hu nm0)).trans (congrArg some (List.getElem?_eq_none (Nat.le_of_eq hl)))
 ·rw [hacc,hj.2,List.take_length]
end
theorem RelI.stay2 {H H':Hp} {a:Nat} (s:Stay H H' [a]) {vs:List V} {is:List It} (r:RelI H vs is) (n:∀ k,.obj k∈vs→k≠a):RelI H' vs is:=Rel.stay s r n
theorem zma {us:List U3} {n:Nat} (h:(us.flatMap fun x=>x.2.1).length≤n):(plainU us).length≤n:=Nat.le_trans (zii us []) (Nat.le_trans (Nat.le_of_eq (Nat.zero_add _)) h)
theorem zqp {Hs H2:Hp} {ys:List V} {is:List It} (x:It) (s:Stay (Hs++[O.list []]) H2 [Hs.length]) (R:RelI H2 ys is) (hb:∀ k,V.obj k∈ys→Hs.length < k):
  Stay (Hs++[O.list []]) ((H2++[O.list [.str x.1,.bool x.2]]).set Hs.length (.list (ys++[.obj H2.length]))) [Hs.length]∧
  RelI ((H2++[O.list [.str x.1,.bool x.2]]).set Hs.length (.list (ys++[.obj H2.length]))) (ys++[.obj H2.length]) (is++[x])∧∀ k,V.obj k∈ys++[.obj H2.length]→Hs.length < k:=by
 have hl:Hs.length < H2.length:=by have:=s.1; rw [List.length_append] at this; exact this
 have st:Stay (H2++[O.list [.str x.1,.bool x.2]]) ((H2++[O.list [.str x.1,.bool x.2]]).set Hs.length (.list (ys++[.obj H2.length]))) [Hs.length]:=Stay.set _ (.head _)
 refine ⟨(s.push _).set_in _,Rel.app (RelI.stay2 st (Rel.grow (Grow.one H2 _) R) fun k hk=>Nat.ne_of_gt (hb k hk)) ⟨⟨H2.length,rfl,st.at List.getElem?_concat_length (nm1 (Nat.ne_of_gt hl))⟩,trivial⟩,fun k hk=>?_⟩
 rcases List.mem_append.mp hk with hk | hk
 ·exact hb k hk
 ·cases List.mem_singleton.mp hk; exact hl
section
variable {K:Wd} (W:Gw K) (G:Gl K)
include W G
theorem zyg (d u:Nat) (us:List U3) (vs:List V) (m:Lo) (H:Hp) (Q:V→Hp→Prop) (E:EK→Hp→Prop) (hlen:us.length≤1000) (hsz:(us.flatMap fun x=>x.2.1).length≤1000) (hu:H[u]? = some (.list vs)) (R:RelU H vs us) (m1:m "units" = some (.obj u))
  (h:∀ n H1 ys,H1[n]? = some (.list ys)→RelI H1 ys ((plainU us).map fun c=>([c],true))→Stay H H1 []→Q (.obj n) H1):@WpI _ ⟨Q⟩ ⟨E⟩ (ev (prg K) (d + 1) sc_law m lwC3) H:=by
 show @WpI _ ⟨Q⟩ ⟨E⟩ (ev (prg K) (d + 1) sc_law m (.ListComp (zk0 lwC3) [⟨.Name "sign" _,.Call (.Name "_law_plain" _) [.Name "units" _] [] _,[],0⟩] (zci lwC3) _)) H
 refine zc3 rfl (lw_ok3 m) (in_e ?_)
 open_k with [zbg,W.plain,m1]
 refine z61 G d u us vs hlen ((Nat.le_trans (by assumption) (by decide))) H _ E hu R (fun H0 s0=>?_)
 refine ⟨_,rfl,?_⟩
 have hpl:(plainU us).length≤1000:=zma hsz
 refine zkz (plainU us).length (fun _=>True) (fun i ys H2=>Stay (H0++[O.list []]) H2 [H0.length]∧RelI H2 ys (((plainU us).take i).map fun c=>([c],true))∧∀ k,V.obj k∈ys→H0.length < k) ((Nat.le_trans (by assumption) (by decide)))
  (fun i ys H2 m' hi _ hj hacc hl2=>?_) (fun ys H2 hj hacc=>by show some (((plainU us)[(plainU us).length]?).map _) = _; rw [List.getElem?_eq_none (Nat.le_refl _)]; rfl) trivial ⟨Stay.refl _ _,trivial,fun _ h=>nomatch h⟩ (fun ys H2 hj hacc hl2=>h _ H2 ys hacc (by have:=hj.2.1; rwa [List.take_length] at this) ?_)
 ·have l1:localB lwS3 "sign" = true:=by kernel_rfl
  refine ⟨.str [(plainU us)[i]],upd m' "sign" (.str [(plainU us)[i]]),by show some (((plainU us)[i]?).map _) = _; rw [List.getElem?_eq_getElem hi]; rfl,?_,trivial,?_⟩
  ·show assignM lwS3 m' H2 (.Name "sign" _) _ = _
   exact zpf l1
  ·have c2:(2 < cap) = True:=eq_true (by decide)
   show @WpI _ ⟨_⟩ ⟨_⟩ (ev (prg K) (d + 1) lwS3 _ (.List [.Name "sign" _,.Constant (.bool true) 0 _] _)) H2
   refine in_e ?_
   open_k with [z20,c2]
   obtain ⟨p1,p2,p3⟩:=zqp (([(plainU us)[i]],true):It) hj.1 hj.2.1 hj.2.2
   refine ⟨by rw [List.getElem?_append_left (List.getElem?_eq_some_iff.mp hacc).1]; exact hacc,p1,?_,p3⟩
   rw [zgh hi,List.map_append]
   exact p2
 ·have q:=hj.1.cut
  exact s0.trans q
omit W G in
theorem z1f (d u:Nat) (us:List U3) (vs:List V) (m:Lo) (H:Hp) (Q:V→Hp→Prop) (E:EK→Hp→Prop) (hlen:us.length≤1000) (hu:H[u]? = some (.list vs)) (R:RelU H vs us) (m1:m "units" = some (.obj u))
  (h:∀ n H1 ys,H1[n]? = some (.list ys)→RelI H1 ys (us.map fun x=>(x.2.1,x.2.2))→Stay H H1 []→Q (.obj n) H1):@WpI _ ⟨Q⟩ ⟨E⟩ (ev (prg K) d sc_law m lwC4) H:=by
 show @WpI _ ⟨Q⟩ ⟨E⟩ (ev (prg K) d sc_law m (.ListComp (zk0 lwC4) [⟨.Tuple [.Name "shown" _,.Name "sign" _,.Name "raw" _] _ _,.Name "units" _,[],0⟩] (zci lwC4) _)) H
 refine zc3 rfl (lw_ok4 m) (in_e ?_)
 have hs:srcM H (.obj u) = some (.list u):=zwl hu
 open_k with [zbg,m1]
 refine ⟨_,hs,?_⟩
 have lu:=(List.getElem?_eq_some_iff.mp hu).1
 have hl:=R.len
 refine zkz us.length (fun _=>True) (fun i ys H2=>Stay (H++[O.list []]) H2 [H.length]∧RelI H2 ys ((us.take i).map fun x=>(x.2.1,x.2.2))∧∀ k,V.obj k∈ys→H.length < k) ((Nat.le_trans (by assumption) (by decide)))
  (fun i ys H2 m' hi _ hj hacc hl2=>?_) (fun ys H2 hj hacc=>?_) trivial ⟨Stay.refl _ _,trivial,fun _ h=>nomatch h⟩ (fun ys H2 hj hacc hl2=>h _ H2 ys hacc (by have:=hj.2.1; rwa [List.take_length] at this) hj.1.cut)
 ·have s2:=hj.1.cut
  obtain ⟨k,hk1,hk2⟩:=R.at i us[i] (List.getElem?_eq_getElem hi)
  have k2:=s2.at hk2 (nm0)
  have l1:localB lwS4 "shown" = true:=by kernel_rfl
  have l2:localB lwS4 "sign" = true:=by kernel_rfl
  have l3:localB lwS4 "raw" = true:=by kernel_rfl
  have c2:(2 < cap) = True:=eq_true (by decide)
  refine ⟨.obj k,_,(zel (s2.at hu nm0)).trans (congrArg some hk1),zs8 k2 l1 l2 l3,trivial,?_⟩
  show @WpI _ ⟨_⟩ ⟨_⟩ (ev (prg K) d lwS4 _ (.List [.Name "sign" _,.Name "raw" _] _)) H2
  refine in_e ?_
  open_k with [z2z,c2]
  obtain ⟨p1,p2,p3⟩:=zqp ((us[i].2.1,us[i].2.2):It) hj.1 hj.2.1 hj.2.2
  refine ⟨by rw [List.getElem?_append_left (List.getElem?_eq_some_iff.mp hacc).1]; exact hacc,p1,?_,p3⟩
  rw [zgh hi,List.map_append]
  exact p2
 ·exact (zel (hj.1.cut.at hu nm0)).trans (congrArg some (List.getElem?_eq_none (Nat.le_of_eq hl)))
end
theorem zta {ns:List Int} (h:ns.length≤14):(guardU (unitsOf ns)).length≤29∧∀ u∈guardU (unitsOf ns),u.1.length≤3∧u.2.1.length≤1∧(u.2.2 = true→∃ c,u.2.1 = [c]):=by
 have one:∀ u∈unitsOf ns,u.1.length≤3∧u.2.1.length≤1∧(u.2.2 = true→∃ c,u.2.1 = [c]):=fun u hu=>by
  obtain ⟨p,_,hp⟩:=List.mem_flatMap.mp hu
  cases p <;> simp [unitsU] at hp
  case eqz=>rcases hp with rfl | rfl <;> simp
  all_goals (subst hp; simp)
 have hl:=zps ns
 unfold guardU
 split
 ·split
  ·refine ⟨by simp; lia,fun u hu=>?_⟩
   rcases List.mem_append.mp hu with hu | hu
   ·exact one u hu
   ·obtain rfl:=List.mem_singleton.mp hu
    simp
  ·exact ⟨by lia,one⟩
 ·exact ⟨by lia,one⟩
theorem z30 {α β:Type} (f:α→List β) (k:Nat) (l:List α):(∀ x∈l,(f x).length≤k)→(l.flatMap f).length≤k * l.length:=by
 induction l with
 | nil=>exact fun _=>Nat.le_refl _
 | cons x l ih=>
   intro h
   rw [List.flatMap_cons,List.length_append,List.length_cons,Nat.mul_succ,Nat.add_comm]
   exact Nat.add_le_add (ih fun y hy=>h y (.tail _ hy)) (h x (.head _))
theorem z8t (l:List Nat):(decL l).length≤l.length + 1:=by
 have h1:(linesD (linesL [] l)).length≤((linesL [] l).map fun x=>x.length + 1).sum:=by
  generalize linesL [] l = ls
  unfold linesD
  induction ls with
  | nil=>simp
  | cons x ls ih=>
    have:=zqe _ (za4 x) (Nat.le_refl _)
    have:=zj4 x
    simp only [List.flatMap_cons,List.length_append,List.map_cons,List.sum_cons]
    lia
 have h2:=zkl l []
 unfold decL
 split
 ·rw [List.length_dropLast]; simp at h2; lia
 ·simp at h2; lia
noncomputable def WL (H:Hp) (v:V):Option (List (List Nat))→Prop
 | none=>v = .none
 | some out=>∃ a,v = .obj a∧H[a]? = some (.list (out.map .str))
theorem WL.stay {H H':Hp} {v:V} {o:Option (List (List Nat))} (s:Stay H H' []) (w:WL H v o):WL H' v o:=by
 cases o with
 | none=>exact w
 | some out=>obtain ⟨a,e,h⟩:=w; exact ⟨a,e,s.at h (nm0)⟩
noncomputable def lwA:List Stmt:=((zar zhh).drop 1).take 7
noncomputable def lwUs (script:List Int):List U3:=guardU (unitsOf (nums script))
noncomputable def zd4 (script:List Int):List Nat:=(lwUs script).flatMap (·.1)
noncomputable def zdt (script:List Int):Bool:=decide (script.sum % 2 = 1)
noncomputable def zds (script:List Int):Bool:=decide (script.sum / 2 % 2 = 0)
noncomputable def lwO1 (script:List Int):Option (List (List Nat)):=wordsI (zdt script) (zds script) ((plainU (lwUs script)).map fun c=>([c],true))
noncomputable def lwO2 (script:List Int):Option (List (List Nat)):=wordsI (zdt script) (zds script) ((lwUs script).map fun u=>(u.2.1,u.2.2))
theorem zgu (script:List Int):(lwUs script).length≤29∧∀ u∈lwUs script,u.1.length≤3∧u.2.1.length≤1∧(u.2.2 = true→∃ c,u.2.1 = [c]):=zta (by rw [znp]; decide)
theorem zef (script:List Int):(zd4 script).length≤87:=by
 exact Nat.le_trans (z30 (fun u:U3=>u.1) 3 (lwUs script) fun u hu=>((zgu script).2 u hu).1) (Nat.mul_le_mul_left 3 (zgu script).1)
structure LawAt (script:List Int) (m:Lo) (H:Hp) (dn tn:Nat) (v1 v2:V):Prop where
 text:m "text" = some (.str (zd4 script))
 noted:m "noted" = some (.bool (zdt script))
 shell:m "shell" = some (.bool (zds script))
 due:m "due" = some (.obj dn)
 told:m "told" = some (.obj tn)
 hd:H[dn]? = some (.list [v1,v2])
 w1:WL H v1 (lwO1 script)
 w2:WL H v2 (lwO2 script)
 ht:H[tn]? = some (.list [])
 lt:∀ a,v1 = .obj a∨v2 = .obj a→a < tn
theorem WL.lt {H:Hp} {v:V} {o:Option (List (List Nat))} (w:WL H v o) {a:Nat} (e:v = .obj a):a < H.length:=by
 cases o with
 | none=>rw [show v = .none from w] at e; cases e
 | some out=>obtain ⟨a',e',h⟩:=w; rw [e] at e'; cases e'; exact (List.getElem?_eq_some_iff.mp h).1
theorem zu8 (l:List Nat):flatI (l.map fun c=>(([c],true):It)) = l:=by
 induction l with
 | nil=>rfl
 | cons c l ih=>simp only [flatI,List.map_cons,List.flatMap_cons] at ih ⊢; rw [ih]; rfl
theorem z7w {H:Hp} {a:Nat} {o:Obj} {l:List Int} (h:H[a]? = some (.fix o (l.map .int))):cSum H [.obj a] = some (.int l.sum,H):=by
 show (z2n H[a]?).bind _ = _
 rw [h]
 show (ints? _).map _ = _
 rw [zw9]; rfl
section
variable {K:Wd} (W:Gw K) (G:Gl K) (T:Gq K)
include W G T
omit W T in
theorem zpk (d g:Nat) (noted shell:Bool) (is:List It) (vs:List V) (H:Hp) (Q:V→Hp→Prop) (E:EK→Hp→Prop) (hlen:is.length≤1000) (hone:∀ x∈is,x.2 = true→∃ c,x.1 = [c]) (hcap:(flatI is).length≤20000) (hg:H[g]? = some (.list vs)) (R:RelI H vs is)
  (h:∀ v H',Stay H H' []→WL H' v (wordsI noted shell is)→Q v H'):@WpI _ ⟨Q⟩ ⟨E⟩ (call (prg K) (d + 2) (.top (.ref 803)) [.obj g,.bool noted,.bool shell] [] []) H:=
 z45 G d g noted shell is vs H Q E hlen hone hcap hg R (fun e H' s=>h _ H' s (by rw [e]; rfl)) (fun out e H' a s h'=>h _ H' s (by rw [e]; exact ⟨a,rfl,h'⟩))
theorem law_a (d a b:Nat) {o:Obj} (script:List Int) (H:Hp) (Q:Fl×Lo→Hp→Prop) (E:EK→Hp→Prop) (ha:H[a]? = some (.fix o (script.map .int))) (hb:H[b]? = some (.list (OWN.map .int)))
  (h:∀ m' H' dn tn v1 v2,LawAt script m' H' dn tn v1 v2→Stay H H' []→Q (.next,m') H'):
  @WpI _ ⟨Q⟩ ⟨E⟩ (exs (prg K) (d + 7) sc_law (lk [("own",.obj b),("script",.obj a)]) lwA) H:=by
 refine zaj rfl ?_
 open_k with [zbg,W.units]
 refine z10 <| z16 W (d + 7) a b script _ H _ E ha hb (by kernel_rfl) (by kernel_rfl) (fun nb H1 hn s1=>?_)
 open_k with [zbg]
 refine z5k G T (d + 5) nb (nums script) (by rw [znp]; decide) (z15 script) H1 _ E hn (fun H2 u uv s2 hu R _=>?_)
 have s02:Stay H H2 []:=s1.trans s2
 have ha2:=s02.at ha (nm0)
 open_k with [zbg,zat]
 refine zfy rfl ?_
 open_k with [zbg,W.sum,z7w ha2,zat]
 refine zfy rfl ?_
 open_k with [zbg,and_self,zat]
 refine zfy rfl ?_
 open_k with [zbg,and_self,zat]
 refine zfy rfl ?_
 open_k with [zbg,str0,zat]
 have hlen:=(zgu script).1
 refine z10 <| zyh (d + 7) u (lwUs script) uv _ H2 _ E ((Nat.le_trans (by assumption) (by decide))) hu R (by kernel_rfl) (fun c H3 hc s3=>?_)
 have hj:z2i H3 [.str [],.obj c] = some (.str (zd4 script),H3):=by
  have e3:strs? ((lwUs script).map fun x=>V.str x.1) = some ((lwUs script).map (·.1)):=by
   have:=zwf ((lwUs script).map (·.1))
   rw [List.map_map] at this
   exact this
  have e4:((lwUs script).map (·.1)).flatten = zd4 script:=by rw [zd4,List.flatMap_def]
  have:=zef script
  show onLs (joinL H3) H3[c]? = _
  rw [hc]
  show (strs? _).bind _ = _
  rw [e3]
  show (if _ then _ else _) = _
  rw [e4,if_pos ⟨Nat.le_trans this (by decide),by rw [List.length_map]; exact Nat.le_trans hlen (by decide)⟩]
 open_k with [zbg,hj,zat]
 refine zfy rfl ?_
 open_k with [zbg,W.words,zat]
 have R3:RelU H3 uv (lwUs script):=Rel.stay0 s3 R
 have hu3:=s3.at hu (nm0)
 have hsz:((lwUs script).flatMap fun x=>x.2.1).length≤29:=by
  exact Nat.le_trans (z30 (fun u:U3=>u.2.1) 1 (lwUs script) fun u hu=>((zgu script).2 u hu).2.1) (Nat.le_trans (Nat.le_of_eq (Nat.one_mul _)) hlen)
 refine z10 <| zyg W G (d + 6) u (lwUs script) uv _ H3 _ E ((Nat.le_trans (by assumption) (by decide))) (by lia) hu3 R3 (by kernel_rfl) (fun n4 H4 ys4 h4 R4 s4=>?_)
 open_k with [zbg,zat]
 have hpl:(plainU (lwUs script)).length≤29:=zma hsz
 have hone:∀ x∈(lwUs script).map (fun u=>((u.2.1,u.2.2):It)),x.2 = true→∃ c,x.1 = [c]:=fun x hx hq=>by
  obtain ⟨u,hu,rfl⟩:=List.mem_map.mp hx
  exact ((zgu script).2 u hu).2.2 hq
 have hfl:(flatI ((lwUs script).map fun u=>((u.2.1,u.2.2):It))).length≤29:=by
  have e:flatI ((lwUs script).map fun u=>((u.2.1,u.2.2):It)) = (lwUs script).flatMap fun x=>x.2.1:=List.flatMap_map ..
  rw [e]; exact hsz
 refine zpk G (d + 5) n4 _ _ _ ys4 H4 _ E (by rw [List.length_map]; exact Nat.le_trans hpl (by decide)) (fun x hx _=>?_) (by rw [zu8]; exact Nat.le_trans hpl (by decide)) h4 R4 (fun v1 H5 s5 w1=>?_)
 ·obtain ⟨c,_,rfl⟩:=List.mem_map.mp hx
  exact ⟨c,rfl⟩
 have hu5:=s5.at (s4.at hu3 nm0) nm0
 open_k with [zbg,W.words,zat]
 refine z10 <| z1f (d + 7) u (lwUs script) uv _ H5 _ E (Nat.le_trans hlen (by decide)) hu5 (Rel.stay0 (s4.trans s5) R3) (by kernel_rfl) (fun n6 H6 ys6 h6 R6 s6=>?_)
 open_k with [zbg,zat]
 refine zpk G (d + 5) n6 _ _ _ ys6 H6 _ E (by rw [List.length_map]; exact Nat.le_trans hlen (by decide)) hone (Nat.le_trans hfl (by decide)) h6 R6 (fun v2 H7 s67 w2=>?_)
 have s7:=s6.trans s67
 have c2:(2 < cap) = True:=eq_true (by decide)
 have c0:(0 < cap) = True:=eq_true (by decide)
 open_k with [zbg,c2,zat]
 refine zfy rfl ?_
 open_k with [zbg,c0,zat]
 have e0:List.take 0 (List.drop 8 (zar zhh)) = []:=rfl
 show @RecF.xs (RF (prg K) (d + 7) sc_law _) _ ⟨Q⟩ ⟨E⟩ _ []
 open_k with [rfl_]
 have g1:Stay H7 (H7++[O.list [v1,v2]]++[O.list []]) []:=(Stay.grow (H:=H7) _ _).trans (Stay.grow _ _)
 refine h _ _ H7.length (H7++[O.list [v1,v2]]).length v1 v2 ⟨?_,?_,?_,?_,?_,?_,(w1.stay s7).stay g1,w2.stay g1,?_,?_⟩ (((((s02.trans s3).trans s4).trans s5).trans s7).trans g1)
 ·kernel_rfl
 ·kernel_rfl
 ·kernel_rfl
 ·kernel_rfl
 ·kernel_rfl
 ·exact (Stay.grow _ []).at List.getElem?_concat_length nm0
 ·exact List.getElem?_concat_length ..
 ·intro a e
  rw [List.length_append]
  rcases e with e | e
  ·exact Nat.lt_add_right _ ((w1.stay s7).lt e)
  ·exact Nat.lt_add_right _ (w2.lt e)
end
noncomputable def cost {ι:Type} (ws:List (List ι)):Nat:=(ws.map fun v=>v.length + 1).sum
noncomputable def zfs {ι:Type} (w:Option (List ι)):Nat:=match w with | none=>0 | some v=>v.length + 1
theorem z8z {ι:Type} (a b:List (List ι)):cost (a++b) = cost a + cost b:=by simp [cost]
theorem zxn {ι:Type} (a:List (List ι)) (w:Option (List ι)):cost (a++w.toList) = cost a + zfs w:=by cases w <;> simp [cost,zfs]
theorem zsd {ι:Type} (w:Option (List ι)) (x:ι):zfs (some (w.getD []++[x]))≤zfs w + 2:=by cases w <;> simp [zfs]
theorem z4e {ι:Type} (w:Option (List ι)):zfs (some (w.getD []))≤zfs w + 1:=by cases w <;> simp [zfs]
theorem z1a {ι:Type} {noted shell:Bool} {key:ι→Option Nat} (n:Nat) (l:List ι) (hl:l.length≤n) (st:St) (ws:List (List ι)) (w:Option (List ι)) (out:List (List ι)) (e:runF noted shell key st ws w l = some out):cost out≤cost ws + zfs w + 2 * l.length:=by
 have add:∀ {a b:Nat} {r:List ι} {x:ι} {C:Nat},a + 2 * (r.length + 1)≤C→b≤a + 2→b + 2 * r.length≤C:=fun {a b r x C} h1 h2=>by lia
 have none0:zfs (none:Option (List ι)) = 0:=rfl
 refine zwp (I:=fun ws' w' l'=>cost ws' + zfs w' + 2 * l'.length≤cost ws + zfs w + 2 * l.length) (R:=fun o=>cost o≤cost ws + zfs w + 2 * l.length)
  (fun {ws w x r} h=>add (x:=x) h ?_) (fun {ws w x r} h=>add (x:=x) h (Nat.le_add_right _ _)) (fun {ws w x r} h=>add (x:=x) h ?_) (fun {ws w x r} h=>add (x:=x) h ?_) (fun {ws w x r} h=>add (x:=x) h ?_) (fun {ws w x r} h=>add (x:=x) h ?_) (fun {ws w} h=>?_) n l hl (Nat.le_refl _) e
 ·rw [zxn,none0]; exact Nat.le_add_right _ _
 ·have:=zsd w x; rw [Nat.add_assoc]; exact Nat.add_le_add_left this _
 ·have:=z4e w; rw [Nat.add_assoc]; exact Nat.add_le_add_left (Nat.le_succ_of_le this) _
 ·exact Nat.add_le_add (Nat.le_add_right _ _) (Nat.le_refl 2)
 ·rw [z8z,none0]
  have:=zsd w x
  have e2:cost [w.getD []++[x]] = zfs (some (w.getD []++[x])):=by simp [cost,zfs]
  rw [e2,Nat.add_zero,Nat.add_assoc]
  exact Nat.add_le_add_left this _
 ·rw [zxn]; exact h
theorem z8y {ι:Type} (l:List (List ι)):l.length≤cost l∧∀ w∈l,w.length≤cost l:=by
 induction l with
 | nil=>exact ⟨Nat.le_refl _,fun _ h=>nomatch h⟩
 | cons v l ih=>
   have e:cost (v::l) = v.length + 1 + cost l:=List.sum_cons
   rw [e]
   refine ⟨?_,fun w hw=>?_⟩
   ·rw [Nat.add_assoc,Nat.add_comm 1]; exact Nat.le_trans (Nat.succ_le_succ ih.1) (Nat.le_add_left _ _)
   rcases List.mem_cons.mp hw with rfl | hw
   ·rw [Nat.add_assoc]; exact Nat.le_add_right _ _
   ·exact Nat.le_trans (ih.2 w hw) (Nat.le_add_left _ _)
theorem zqi {c x:Nat} {z:List Nat} (h:¬ x = c):replL c z [x] = [x]:=congrArg (·++[]) (if_neg h)
theorem z8u (w:List Nat):(debT w).length≤3 * w.length:=by
 induction w with
 | nil=>exact Nat.le_refl _
 | cons c r ih=>
   have h:debT (c::r) = debT [c]++debT r:=zxk [c] r
   have h1:(debT [c]).length≤3:=by
    unfold debT
    by_cases h1:c = 32
    ·subst h1; decide
    ·by_cases h2:c = 9
     ·subst h2; decide
     ·rw [zqi h1,zqi h2]; exact Nat.le_add_left 1 2
   rw [h,List.length_append,List.length_cons]
   exact Nat.le_trans (Nat.add_le_add h1 ih) (Nat.le_of_eq (Nat.add_comm _ _))
theorem z1d (c:Nat) (z:List Nat) {k:Nat} (hk:1≤k) (hz:z.length≤k) (l:List Nat):(replL c z l).length≤k * l.length:=by
 induction l with
 | nil=>exact Nat.zero_le _
 | cons x r ih=>
   rw [replL_c,List.length_append,List.length_cons,Nat.mul_succ,Nat.add_comm]
   refine Nat.add_le_add ih ?_
   by_cases h:x = c
   ·rw [if_pos h]; exact hz
   ·rw [if_neg h]; exact hk
theorem zwq {l z:List Nat} {c:Nat} {a b:Str} (ea:a.cps.toList = [c]) (eb:b.cps.toList = z) (n:a≠b) (h1:l.length≤cap) (h2:z.length≤10) (h3:(replL c z l).length≤cap):zqh (.str l) a b = some (.str (replL c z l)):=by
 subst eb
 have e:zqh (.str l) a b = onC (fun c=>if l.length≤cap∧b.cps.toList.length≤10∧a≠b∧(replL c b.cps.toList l).length≤cap then some (V.str (replL c b.cps.toList l)) else none) a.cps.toList:=rfl
 rw [e,ea]; exact if_pos ⟨h1,h2,n,h3⟩
theorem deb_r {w:List Nat} (h:w.length≤174):zqh (.str w) " " "=20" = some (.str (replL 32 [61,50,48] w))∧zqh (.str (replL 32 [61,50,48] w)) "\t" "=09" = some (.str (debT w))∧(debT w).length + 1≤1000:=by
 have hd:=Nat.le_trans (z8u w) (Nat.mul_le_mul_left 3 h)
 have hr:=Nat.le_trans (z1d 32 [61,50,48] (k:=3) (by decide) (by decide) w) (Nat.mul_le_mul_left 3 h)
 exact ⟨zwq (by decide +kernel) (by decide +kernel) (by decide +kernel) (Nat.le_trans h (by decide)) (by decide) (Nat.le_trans hr (by decide)),
  zwq (by decide +kernel) (by decide +kernel) (by decide +kernel) (Nat.le_trans hr (by decide)) (by decide) (Nat.le_trans hd (by decide)),Nat.le_trans (Nat.succ_le_succ hd) (by decide)⟩
theorem zka (o:Expr) (x:Str) (p q:Pos) (es:List Expr) (kw:List Keyword):zbm (.Call (.Attribute o x p) es kw q) = true:=by cases es <;> cases kw <;> rfl
theorem zjd (script:List Int):wordsF (zdt script) (zds script) [] (decL (zd4 script)) = lwO1 script∧(wordsF (zdt script) (zds script) [] (zd4 script)).map (List.map fun w=>(decL (debT w++[46])).dropLast) = lwO2 script:=
 z1t (zdt script) (zds script) (nums script) (z15 script)
theorem zrr {script:List Int} {out:List (List Nat)} (h:wordsF (zdt script) (zds script) [] (zd4 script) = some out):out.length≤174∧∀ w∈out,w.length≤174:=by
 have h1:=z1a _ _ (Nat.le_refl _) _ _ _ _ h
 have h2:=zef script
 have h3:=z8y out
 have e1:cost ([]:List (List Nat)) = 0:=rfl
 have e2:zfs (none:Option (List Nat)) = 0:=rfl
 have h4:cost out≤174:=Nat.le_trans h1 (Nat.le_trans (Nat.le_of_eq (Nat.zero_add _)) (Nat.mul_le_mul_left 2 h2))
 exact ⟨Nat.le_trans h3.1 h4,fun w hw=>Nat.le_trans (h3.2 w hw) h4⟩
noncomputable def zeu (s:Stmt):List Stmt:=(sV s).1
noncomputable def exprE (s:Stmt):Expr:=(sV s).2.2.1
noncomputable def lwT1:Stmt:=nthS (zar zhh) 8
noncomputable def lwT2:Stmt:=nthS (zar zhh) 9
noncomputable def lwR:Stmt:=nthS (zar zhh) 10
noncomputable def lwE1:Expr:=exprE (nthS (zeu lwT1) 0)
noncomputable def lwE2:Expr:=exprE (nthS (zeu lwT2) 0)
noncomputable def lwC5:Expr:=argE (exprE (nthS (zeu lwT2) 1))
noncomputable def lwS5:Scope:=zhs (zci lwC5) sc_law
theorem z2y:kd lwS5 "word" = some .local∧kd lwS5 "decode" = some .globalImplicit:=by decide +kernel
theorem lw_ok5 (m:Lo):zdq (zci lwC5) sc_law m = true:=by kernel_rfl
structure TryAt (script:List Int) (m:Lo) (H:Hp) (tn:Nat) (ts:List V):Prop where
 text:m "text" = some (.str (zd4 script))
 noted:m "noted" = some (.bool (zdt script))
 shell:m "shell" = some (.bool (zds script))
 told:m "told" = some (.obj tn)
 ht:H[tn]? = some (.list ts)
 few:ts.length < 5
structure Told (H:Hp) (tn:Nat) (ts:List V) (o:Option (List (List Nat))) (H':Hp):Prop where
 more:∃ v,H'[tn]? = some (.list (ts++[v]))∧WL H' v o∧∀ a,v = .obj a→H.length≤a
 stay:Stay H H' [tn]
theorem zrn {K:Wd} {H:Hp} {tn:Nat} {ts:List V} (h:H[tn]? = some (.list ts)):methM (prg K) H (.obj tn) "append" = none∧zcd H (.obj tn) "append" = some "list.append" := by
 refine ⟨zcm h,(zb3 h).trans zbp⟩
theorem zjz {H H1:Hp} {tn:Nat} {ts:List V} {v:V} {o:Option (List (List Nat))} (ht:H[tn]? = some (.list ts)) (few:ts.length < 5) (s:Stay H H1 []) (w:WL H1 v o) (hv:∀ a,v = .obj a→H.length≤a):
  mAppend H1 [.obj tn,v] = some (.none,H1.set tn (.list (ts++[v])))∧Told H tn ts o (H1.set tn (.list (ts++[v]))):=by
 have h1:=s.at ht nm0
 have hl:=(List.getElem?_eq_some_iff.mp ht).1
 have hz:ts.length < cap:=Nat.lt_trans few (by decide)
 refine ⟨by show onLs _ H1[tn]? = _; rw [h1]; exact if_pos hz,⟨v,by rw [List.getElem?_set_self (List.getElem?_eq_some_iff.mp h1).1],?_,hv⟩,(s.sub fun _ h=>nomatch h).trans (Stay.set _ (.head _))⟩
 cases o with
 | none=>exact w
 | some out=>
   obtain ⟨a,e,h⟩:=w
   refine ⟨a,e,?_⟩
   have:=hv a e
   rw [List.getElem?_set_ne (Nat.ne_of_lt (Nat.lt_of_lt_of_le hl this))]; exact h
section
variable {K:Wd} (W:Gw K) (G:Gl K)
include W G
theorem law_e1 (d tn:Nat) (script:List Int) (ts:List V) (m:Lo) (H:Hp) (Q:V→Hp→Prop) (E:EK→Hp→Prop) (A:TryAt script m H tn ts)
  (hQ:∀ v H',Told H tn ts (lwO1 script) H'→Q v H') (hE:∀ H',lwO1 script = none→Stay H H' []→E .val H'):@WpI _ ⟨Q⟩ ⟨E⟩ (ev (prg K) (d + 7) sc_law m lwE1) H:=by
 show @WpI _ ⟨_⟩ ⟨_⟩ (ev (prg K) (d + 7) sc_law m (.Call (.Attribute (.Name "told" _) "append" ⟨873,8,873,19⟩) [.Call (.Name "split" _) [.Call (.Name "decode" _) [.Name "text" _] [] _,.Name "noted" _,.Name "shell" _] [] _] [] ⟨873,8,873,54⟩)) H
 refine in_e ?_
 obtain ⟨i1,i2⟩:=zrn (K:=K) A.ht
 open_k with [zbg,A.told,i1,i2,W.split,W.decode,A.text,A.noted,A.shell]
 have hl:=zef script
 refine zsa G (d + 5) (zd4 script) (Nat.le_trans hl (by decide)) H _ E (fun H1 g1=>?_)
 open_k with [zbg,A.told,i1,i2,W.split,W.decode,A.text,A.noted,A.shell]
 have hl2:=z8t (zd4 script)
 refine zwm G d (decL (zd4 script)) (zdt script) (zds script) (Nat.le_trans hl2 (Nat.le_trans (Nat.succ_le_succ hl) (by decide))) H1 _ E (fun out a H2 e h s la=>?_) (fun H2 e s=>hE H2 ((zjd script).1.symm.trans e) ((g1.stay []).trans s))
 have hs:=(g1.stay []).trans s
 obtain ⟨p1,p2⟩:=zjz (v:=.obj a) (o:=lwO1 script) A.ht A.few hs (by rw [← (zjd script).1,e]; exact ⟨a,rfl,h⟩) (fun a' q=>by cases q; exact Nat.le_trans (g1.stay []).1 la)
 open_k with [p1]
 exact hQ _ _ p2
theorem law_e2 (d tn:Nat) (script:List Int) (ts:List V) (m:Lo) (H:Hp) (S:Fl×Lo→Hp→Prop) (E:EK→Hp→Prop) (A:TryAt script m H tn ts)
  (hQ:∀ v H',Told H tn ts (lwO2 script) H'→S (.next,upd m "words" v) H') (hE:∀ H',lwO2 script = none→Stay H H' []→E .val H'):
  @WpI _ ⟨fun v H1=>exs (prg K) (d + 7) sc_law (upd m "words" v) [nthS (zeu lwT2) 1] H1 (fun p H2=>p.1 = .next∧S p H2) (fun _ _=>False)⟩ ⟨E⟩ (ev (prg K) (d + 7) sc_law m lwE2) H:=by
 show @WpI _ ⟨_⟩ ⟨_⟩ (ev (prg K) (d + 7) sc_law m (.Call (.Name "split" _) [.Name "text" _,.Name "noted" _,.Name "shell" _] [] _)) H
 refine in_e ?_
 open_k with [zbg,W.split,A.text,A.noted,A.shell]
 have hl:=zef script
 refine zwm G d (zd4 script) (zdt script) (zds script) (Nat.le_trans hl (by decide)) H _ E (fun out a H2 e h s la=>?_) (fun H2 e s=>hE H2 (by rw [← (zjd script).2,e]; rfl) s)
 have bd:[nthS (zeu lwT2) 1] = (zeu lwT2).drop 1:=by kernel_rfl
 show @WpI _ ⟨fun p H2=>p.1 = .next∧S p H2⟩ ⟨fun _ _=>False⟩ (exs (prg K) (d + 7) sc_law (upd m "words" (.obj a)) [nthS (zeu lwT2) 1]) H2
 rw [bd]
 refine zaj rfl ?_
 have ht2:=s.at A.ht nm0
 obtain ⟨i1,i2⟩:=zrn (K:=K) ht2
 open_k with [zbg,A.told,i1,i2]
 have lens:=zrr e
 refine z10 (zc3 rfl (lw_ok5 _) (in_e ?_))
 have hsrc:srcM H2 (.obj a) = some (.list a):=zwl h
 open_k with [zbg]
 refine ⟨_,hsrc,?_⟩
 have la2:=(List.getElem?_eq_some_iff.mp h).1
 let f:List Nat→List Nat:=fun w=>(decL (debT w++[46])).dropLast
 refine zkz out.length (fun _=>True) (fun i ys H3=>Stay (H2++[O.list []]) H3 [H2.length]∧ys = (out.take i).map fun w=>V.str (f w)) (Nat.le_trans lens.1 (by decide))
  (fun i ys H3 m' hi _ hj hacc hl2=>?_) (fun ys H3 hj hacc=>(zel (hj.1.cut.at h nm0)).trans (congrArg some (List.getElem?_eq_none (by rw [List.length_map]; exact Nat.le_refl _)))) trivial ⟨Stay.refl _ _,rfl⟩ (fun ys H3 hj hacc hl2=>?_)
 ·have h3:=hj.1.cut.at h nm0
  have l1:localB lwS5 "word" = true:=by kernel_rfl
  refine ⟨.str out[i],upd m' "word" (.str out[i]),(zel h3).trans (congrArg some (by rw [List.getElem?_map,List.getElem?_eq_getElem hi]; rfl)),?_,trivial,?_⟩
  ·show assignM lwS5 m' H3 (.Name "word" _) _ = _
   exact zpf l1
  ·have hw:=lens.2 _ (List.getElem_mem hi)
   obtain ⟨r1,r2,r3⟩:=deb_r hw
   have ba:binM .Add (.str (debT out[i])) (.str [46]) = some (.str (debT out[i]++[46])):=by
    show (if _ then _ else _) = _
    exact if_pos (Nat.le_trans r3 (by decide))
   show @WpI _ ⟨_⟩ ⟨_⟩ (ev (prg K) (d + 7) lwS5 _ (.Subscript (.Call (.Name "decode" _) [.BinOp (.Call (.Attribute (.Call (.Attribute (.Name "word" _) "replace" ⟨878,28,878,40⟩) [.Constant (.str " ") 0 _,.Constant (.str "=20") 0 _] [] ⟨878,28,878,52⟩) "replace" ⟨878,28,878,60⟩) [.Constant (.str "\t") 0 _,.Constant (.str "=09") 0 _] [] ⟨878,28,878,73⟩) .Add (.Constant (.str ".") 0 _) _] [] _) (.Slice none (some (.UnaryOp .USub (.Constant (.int 1) 0 _) _)) none _) _)) H3
   refine in_e ?_
   open_k with [z2y,W.decode,r1,r2,str14,ba,zka]
   refine zsa G (d + 5) (debT out[i]++[46]) (by rw [List.length_append]; exact r3) H3 _ _ (fun H4 g4=>?_)
   open_k with [zxm]
   refine ⟨g4.at hacc,(hj.1.trans (g4.stay _)).set_in _,?_⟩
   rw [hj.2,zgh hi,List.map_append]
   rfl
 ·have s3:=hj.1.cut
  have s03:=s.trans s3
  obtain ⟨p1,p2⟩:=zjz (v:=.obj H2.length) (o:=lwO2 script) A.ht A.few s03 (by rw [← (zjd script).2,e]; exact ⟨_,rfl,by rw [hacc,hj.2,List.take_length,List.map_map]; rfl⟩) (fun a' q=>by cases q; exact s.1)
  open_k with [p1]
  exact ⟨trivial,hQ _ _ p2⟩
end
noncomputable def hdl (np ep ap tp kp cp hpos:Pos):List ExceptHandler:=[.ExceptHandler (some (.Name "ValueError" np)) none [.Expr (.Call (.Attribute (.Name "told" tp) "append" ap) [.Constant .none 0 kp] [] cp) ep] hpos]
theorem lwT1_eq:lwT1 = .Try [.Expr lwE1 ⟨873,8,873,54⟩] (hdl ⟨874,11,874,21⟩ ⟨875,8,875,25⟩ ⟨875,8,875,19⟩ ⟨875,8,875,12⟩ ⟨875,20,875,24⟩ ⟨875,8,875,25⟩ ⟨874,4,875,25⟩) [] [] ⟨872,4,875,25⟩:=by kernel_rfl
theorem lwT2_eq:lwT2 = .Try (.Assign [.Name "words" ⟨877,8,877,13⟩] lwE2 ⟨877,8,877,41⟩::[nthS (zeu lwT2) 1]) (hdl ⟨879,11,879,21⟩ ⟨880,8,880,25⟩ ⟨880,8,880,19⟩ ⟨880,8,880,12⟩ ⟨880,20,880,24⟩ ⟨880,8,880,25⟩ ⟨879,4,880,25⟩) [] [] ⟨876,4,880,25⟩:=by kernel_rfl
theorem lwR_eq:lwR = .Return (some (.Compare (.Name "told" ⟨881,11,881,15⟩) [.Eq] [.Name "due" ⟨881,19,881,22⟩] ⟨881,11,881,22⟩)) ⟨881,4,881,22⟩:=by kernel_rfl
theorem lw_nc:zb5 lwE1 = false∧zb5 lwE2 = false:=⟨by kernel_rfl,by kernel_rfl⟩
theorem zp8 {H H1:Hp} {tn:Nat} {ts:List V} {o:Option (List (List Nat))} (ht:H[tn]? = some (.list ts)) (few:ts.length < 5) (s:Stay H H1 []) (e:o = none):H1[tn]? = some (.list ts)∧ts.length < cap∧Told H tn ts o (H1.set tn (.list (ts++[.none]))):=by
 subst e
 exact ⟨s.at ht nm0,Nat.lt_trans few (by decide),(zjz (o:=none) ht few s rfl (fun a q=>by cases q)).2⟩
section
variable {K:Wd} (W:Gw K) (G:Gl K)
include G
theorem law_ve (m:Lo):zac (prg K) sc_law m "ValueError" = some (.top (.type "ValueError")):=by
 unfold zac
 rw [zbg.2.2.2.2.2.2.2.2.2.2.2.2.2.2.2.2.2]
 exact G.valueError
omit G in
theorem zw1 {m:Lo} {tn:Nat} (h:m "told" = some (.obj tn)):zac (prg K) sc_law m "told" = some (.obj tn):=by unfold zac; rw [zbg.2.2.2.2.2.2.2.2.1]; exact h
include W
theorem law_t1 (d tn:Nat) (script:List Int) (ts:List V) (m:Lo) (H:Hp) (S:Fl×Lo→Hp→Prop) (E:EK→Hp→Prop) (A:TryAt script m H tn ts) (hS:∀ H',Told H tn ts (lwO1 script) H'→S (.next,m) H'):
  @WpI _ ⟨S⟩ ⟨E⟩ (exs (prg K) (d + 7) sc_law m [lwT1]) H:=by
 rw [lwT1_eq]
 refine z5z lw_nc.1 (law_ve G m) (zw1 A.told) rfl (law_e1 W G d tn script ts m H _ _ A (fun v H' t=>hS H' t) fun H' e s=>?_)
 obtain ⟨q1,q2,q3⟩:=zp8 (o:=lwO1 script) A.ht A.few s e
 exact ⟨rfl,ts,q1,q2,hS _ q3⟩
theorem law_t2 (d tn:Nat) (script:List Int) (ts:List V) (m:Lo) (H:Hp) (S:Fl×Lo→Hp→Prop) (E:EK→Hp→Prop) (A:TryAt script m H tn ts) (hS:∀ m' H',Told H tn ts (lwO2 script) H'→(m' = m∨∃ v,m' = upd m "words" v)→S (.next,m') H'):
  @WpI _ ⟨S⟩ ⟨E⟩ (exs (prg K) (d + 7) sc_law m [lwT2]) H:=by
 rw [lwT2_eq]
 have lb:localB sc_law "words" = true:=by kernel_rfl
 refine try_set lw_nc.2 lb (law_ve G m) (zw1 A.told) rfl ?_
 refine law_e2 W G d tn script ts m H S _ A (fun v H' t=>hS _ H' t (.inr ⟨v,rfl⟩)) fun H' e s=>?_
 obtain ⟨q1,q2,q3⟩:=zp8 (o:=lwO2 script) A.ht A.few s e
 exact ⟨rfl,ts,q1,q2,hS _ _ q3 (.inl rfl)⟩
omit W G in
theorem z41 {f:V→V→Option Bool} {l:List V} (h:∀ x∈l,f x x = some true):allM f l l = some true:=by
 induction l with
 | nil=>rfl
 | cons x l ih=>
   show and2 (f x x) (allM f l l) = _
   rw [h x (.head _),ih fun y hy=>h y (.tail _ hy)]
   rfl
omit W G in
theorem z32 {H:Hp} {d a b:Nat} {out:List (List Nat)} (ha:H[a]? = some (.list (out.map .str))) (hb:H[b]? = some (.list (out.map .str))) (n:a≠b):eqV H (d + 1) (.obj a) (.obj b) = some true:=by
 rw [zow n ha hb rfl]
 refine z41 fun x hx=>?_
 obtain ⟨w,_,rfl⟩:=List.mem_map.mp hx
 rw [zxi,beq_self_eq_true]
omit W G in
theorem eqV_two {H:Hp} {d a b:Nat} {x1 x2 v1 v2:V} (n:a≠b) (ha:H[a]? = some (.list [x1,x2])) (hb:H[b]? = some (.list [v1,v2])) (c1:eqV H d x1 v1 = some true) (c2:eqV H d x2 v2 = some true):eqV H (d + 1) (.obj a) (.obj b) = some true:=by
 rw [zow n ha hb rfl]
 show and2 (eqV H d x1 v1) (and2 (eqV H d x2 v2) (some true)) = _
 rw [c1,c2]
 rfl
omit W G in
theorem eqV_WL {H:Hp} {d:Nat} {t v:V} {o:Option (List (List Nat))} (ht:WL H t o) (hv:WL H v o) (n:∀ a b,t = .obj a→v = .obj b→a≠b):eqV H (d + 1) t v = some true:=by
 cases o with
 | none=>rw [show t = .none from ht,show v = .none from hv]; rfl
 | some out=>
   obtain ⟨a,rfl,h1⟩:=ht
   obtain ⟨b,rfl,h2⟩:=hv
   exact z32 h1 h2 (n a b rfl rfl)
set_option maxHeartbeats 4000000 in
theorem law_all (T:Gq K) (d a b:Nat) {o:Obj} (script:List Int) (H:Hp) (Q:Fl×Lo→Hp→Prop) (E:EK→Hp→Prop) (ha:H[a]? = some (.fix o (script.map .int))) (hb:H[b]? = some (.list (OWN.map .int)))
  (h:∀ m' H',H'[a]? = some (.fix o (script.map .int))→Q (.ret (.bool true),m') H'):
  @WpI _ ⟨Q⟩ ⟨E⟩ (exs (prg K) (d + 7) sc_law (lk [("own",.obj b),("script",.obj a)]) (lwA++[lwT1,lwT2,lwR])) H:=by
 refine zkw (a:=lwA) (r:=[lwT1,lwT2,lwR]) (law_a W G T d a b script H _ _ ha hb fun m1 H1 dn tn v1 v2 A s0=>?_)
 have htn:=(List.getElem?_eq_some_iff.mp A.ht).1
 have hdn:tn≠dn:=fun e=>by have:=A.ht; rw [e,A.hd] at this; cases this
 refine zkw (a:=[lwT1]) (r:=[lwT2,lwR]) (law_t1 W G d tn script [] m1 H1 _ _ ⟨A.text,A.noted,A.shell,A.told,A.ht,by decide⟩ fun H2 t1=>?_)
 obtain ⟨⟨x1,ht1,w1,f1⟩,s1⟩:=t1
 refine zkw (a:=[lwT2]) (r:=[lwR]) (law_t2 W G d tn script [x1] m1 H2 _ _ ⟨A.text,A.noted,A.shell,A.told,ht1,Nat.le_of_ble_eq_true rfl⟩ fun m3 H3 t2 hm=>?_)
 obtain ⟨⟨x2,ht2,w2,f2⟩,s2⟩:=t2
 have hf:H3[a]? = some (.fix o (script.map .int)):=by
  have h1:=s0.at ha nm0
  exact (s1.trans s2).at h1 (nm1 fun e=>by rw [e,A.ht] at h1; cases h1)
 have s12:=s1.trans s2
 have hd3:=s12.at A.hd (nm1 (Ne.symm hdn))
 have told3:m3 "told" = some (.obj tn):=by rcases hm with rfl | ⟨v,rfl⟩; exact A.told; exact (by kernel_rfl:_ = _).trans A.told
 have due3:m3 "due" = some (.obj dn):=by rcases hm with rfl | ⟨v,rfl⟩; exact A.due; exact (by kernel_rfl:_ = _).trans A.due
 have st:∀ {H H':Hp} {v:V} {o:Option (List (List Nat))} {n:Nat} {ts:List V},Stay H H' [n]→H[n]? = some (.list ts)→(∀ a,v = .obj a→a≠n)→WL H v o→WL H' v o:=fun {H H' v o n ts} s hn ne w=>by
  cases o with
  | none=>exact w
  | some out=>obtain ⟨a,e,h⟩:=w; exact ⟨a,e,s.at h (nm1 (ne a e))⟩
 have e12:=A.lt
 have n1:∀ a,v1 = .obj a→a≠tn:=fun a e=>Nat.ne_of_lt (e12 a (.inl e))
 have n2:∀ a,v2 = .obj a→a≠tn:=fun a e=>Nat.ne_of_lt (e12 a (.inr e))
 have W1:=st s12 A.ht n1 A.w1
 have W2:=st s12 A.ht n2 A.w2
 have X1:=st s2 ht1 (fun a e q=>Nat.lt_irrefl _ (Nat.lt_of_lt_of_le (q ▸ htn) (f1 a e))) w1
 have c1:eqV H3 3 x1 v1 = some true:=eqV_WL X1 W1 fun a b ea eb=>Nat.ne_of_gt (Nat.lt_of_lt_of_le (A.w1.lt eb) (f1 a ea))
 have c2:eqV H3 3 x2 v2 = some true:=eqV_WL w2 W2 fun a b ea eb=>Nat.ne_of_gt (Nat.lt_of_lt_of_le (A.w2.lt eb) (Nat.le_trans s1.1 (f2 a ea)))
 have hc:cmpM H3 .Eq (.obj tn) (.obj dn) = some true:=by
  have e4:cmpM H3 .Eq (.obj tn) (.obj dn) = eqV H3 4 (.obj tn) (.obj dn):=rfl
  rw [e4]
  exact eqV_two hdn ht2 hd3 c1 c2
 rw [lwR_eq]
 refine zaj rfl ?_
 open_k with [zbg,told3,due3,hc]
 exact h _ _ hf
end
noncomputable abbrev thePw:Program:=PySem.Challenge.pw_oy0352_01
noncomputable abbrev vS (x:String) (t:Nat):Value:=.str (Str.ofString x) t
noncomputable abbrev vR (a:Nat):Value:=.ref a
noncomputable abbrev dE (P:Params) (x:String) (t:Nat) (v:Value):DictEntry:=DictEntry.mk (PyData.keyHash P (Str.ofString x)) (vS x t) v
noncomputable def ho0 (P:Params):Obj:=Obj.mk (Value.type "dict") none (Data.dict #[dE P "__name__" 1 (vS "builtins" 160),dE P "__doc__" 2 (Value.builtin "builtins.__doc__:str#opaque"),dE P "__package__" 3 (Value.builtin "builtins.__package__:str#opaque"),dE P "__loader__" 4 (Value.builtin "builtins.__loader__:shared#opaque"),dE P "__spec__" 5 (Value.builtin "builtins.__spec__#opaque"),dE P "__build_class__" 6 (Value.builtin "__build_class__"),dE P "__im\x70ort__" 7 (Value.builtin "__im\x70ort__"),dE P "abs" 8 (Value.builtin "abs"),dE P "all" 9 (Value.builtin "all"),dE P "any" 10 (Value.builtin "any"),dE P "ascii" 11 (Value.builtin "ascii"),dE P "bin" 12 (Value.builtin "bin"),dE P "breakpoint" 13 (Value.builtin "breakpoint"),dE P "callable" 14 (Value.builtin "callable"),dE P "chr" 15 (Value.builtin "chr"),dE P "compile" 16 (Value.builtin "compile"),dE P "delattr" 17 (Value.builtin "delattr"),dE P "dir" 18 (Value.builtin "dir"),dE P "divmod" 19 (Value.builtin "divmod"),dE P "eval" 20 (Value.builtin "eval"),dE P "exec" 21 (Value.builtin "exec"),dE P "format" 22 (Value.builtin "format"),dE P "getattr" 23 (Value.builtin "getattr"),dE P "globals" 24 (Value.builtin "globals"),dE P "hasattr" 25 (Value.builtin "hasattr"),dE P "hash" 26 (Value.builtin "hash"),dE P "hex" 27 (Value.builtin "hex"),dE P "id" 28 (Value.builtin "id"),dE P "input" 29 (Value.builtin "input"),dE P "isinstance" 30 (Value.builtin "isinstance"),dE P "issubclass" 31 (Value.builtin "issubclass"),dE P "iter" 32 (Value.builtin "iter"),dE P "aiter" 33 (Value.builtin "aiter"),dE P "len" 34 (Value.builtin "len"),dE P "locals" 35 (Value.builtin "locals"),dE P "max" 36 (Value.builtin "max"),dE P "min" 37 (Value.builtin "min"),dE P "next" 38 (Value.builtin "next"),dE P "anext" 39 (Value.builtin "anext"),dE P "oct" 40 (Value.builtin "oct"),dE P "ord" 41 (Value.builtin "ord"),dE P "pow" 42 (Value.builtin "pow"),dE P "print" 43 (Value.builtin "print"),dE P "repr" 44 (Value.builtin "repr"),dE P "round" 45 (Value.builtin "round"),dE P "setattr" 46 (Value.builtin "setattr"),dE P "sorted" 47 (Value.builtin "sorted"),dE P "sum" 48 (Value.builtin "sum"),dE P "vars" 49 (Value.builtin "vars"),dE P "None" 50 Value.none,dE P "Ellipsis" 51 Value.ellipsis,dE P "NotImplemented" 52 Value.notImplemented,dE P "False" 53 (Value.bool false),dE P "True" 54 (Value.bool true),dE P "bool" 55 (Value.type "bool"),dE P "memoryview" 56 (Value.type "memoryview"),dE P "bytearray" 57 (Value.type "bytearray"),dE P "bytes" 58 (Value.type "bytes"),dE P "classmethod" 59 (Value.type "classmethod"),dE P "complex" 60 (Value.type "complex"),dE P "dict" 61 (Value.type "dict"),dE P "enumerate" 62 (Value.type "enumerate"),dE P "filter" 63 (Value.type "filter"),dE P "float" 64 (Value.type "float"),dE P "frozenset" 65 (Value.type "frozenset"),dE P "property" 66 (Value.type "property"),dE P "int" 67 (Value.type "int"),dE P "list" 68 (Value.type "list"),dE P "map" 69 (Value.type "map"),dE P "object" 70 (Value.type "object"),dE P "range" 71 (Value.type "range"),dE P "reversed" 72 (Value.type "reversed"),dE P "set" 73 (Value.type "set"),dE P "slice" 74 (Value.type "slice"),dE P "staticmethod" 75 (Value.type "staticmethod"),dE P "str" 76 (Value.type "str"),dE P "super" 77 (Value.type "super"),dE P "tuple" 78 (Value.type "tuple"),dE P "type" 79 (Value.type "type"),dE P "zip" 80 (Value.type "zip"),dE P "__debug__" 81 (Value.bool true),dE P "BaseException" 82 (Value.type "BaseException"),dE P "BaseExceptionGroup" 83 (Value.type "BaseExceptionGroup"),dE P "Exception" 84 (Value.type "Exception"),dE P "GeneratorExit" 85 (Value.type "GeneratorExit"),dE P "KeyboardInterrupt" 86 (Value.type "KeyboardInterrupt"),dE P "SystemExit" 87 (Value.type "SystemExit"),dE P "ArithmeticError" 88 (Value.type "ArithmeticError"),dE P "AssertionError" 89 (Value.type "AssertionError"),dE P "AttributeError" 90 (Value.type "AttributeError"),dE P "BufferError" 91 (Value.type "BufferError"),dE P "EOFError" 92 (Value.type "EOFError"),dE P "ImportError" 93 (Value.type "ImportError"),dE P "LookupError" 94 (Value.type "LookupError"),dE P "MemoryError" 95 (Value.type "MemoryError"),dE P "NameError" 96 (Value.type "NameError"),dE P "OSError" 97 (Value.type "OSError"),dE P "ReferenceError" 98 (Value.type "ReferenceError"),dE P "RuntimeError" 99 (Value.type "RuntimeError"),dE P "StopAsyncIteration" 100 (Value.type "StopAsyncIteration"),dE P "StopIteration" 101 (Value.type "StopIteration"),dE P "SyntaxError" 102 (Value.type "SyntaxError"),dE P "SystemError" 103 (Value.type "SystemError"),dE P "TypeError" 104 (Value.type "TypeError"),dE P "ValueError" 105 (Value.type "ValueError"),dE P "Warning" 106 (Value.type "Warning"),dE P "FloatingPointError" 107 (Value.type "FloatingPointError"),dE P "OverflowError" 108 (Value.type "OverflowError"),dE P "ZeroDivisionError" 109 (Value.type "ZeroDivisionError"),dE P "BytesWarning" 110 (Value.type "BytesWarning"),dE P "DeprecationWarning" 111 (Value.type "DeprecationWarning"),dE P "EncodingWarning" 112 (Value.type "EncodingWarning"),dE P "FutureWarning" 113 (Value.type "FutureWarning"),dE P "ImportWarning" 114 (Value.type "ImportWarning"),dE P "PendingDeprecationWarning" 115 (Value.type "PendingDeprecationWarning"),dE P "ResourceWarning" 116 (Value.type "ResourceWarning"),dE P "RuntimeWarning" 117 (Value.type "RuntimeWarning"),dE P "SyntaxWarning" 118 (Value.type "SyntaxWarning"),dE P "UnicodeWarning" 119 (Value.type "UnicodeWarning"),dE P "UserWarning" 120 (Value.type "UserWarning"),dE P "BlockingIOError" 121 (Value.type "BlockingIOError"),dE P "ChildProcessError" 122 (Value.type "ChildProcessError"),dE P "ConnectionError" 123 (Value.type "ConnectionError"),dE P "FileExistsError" 124 (Value.type "FileExistsError"),dE P "FileNotFoundError" 125 (Value.type "FileNotFoundError"),dE P "InterruptedError" 126 (Value.type "InterruptedError"),dE P "IsADirectoryError" 127 (Value.type "IsADirectoryError"),dE P "NotADirectoryError" 128 (Value.type "NotADirectoryError"),dE P "PermissionError" 129 (Value.type "PermissionError"),dE P "ProcessLookupError" 130 (Value.type "ProcessLookupError"),dE P "TimeoutError" 131 (Value.type "TimeoutError"),dE P "IndentationError" 132 (Value.type "IndentationError"),dE P "_IncompleteInputError" 133 (Value.type "_IncompleteInputError"),dE P "IndexError" 134 (Value.type "IndexError"),dE P "KeyError" 135 (Value.type "KeyError"),dE P "ModuleNotFoundError" 136 (Value.type "ModuleNotFoundError"),dE P "NotImplementedError" 137 (Value.type "NotImplementedError"),dE P "PythonFinalizationError" 138 (Value.type "PythonFinalizationError"),dE P "RecursionError" 139 (Value.type "RecursionError"),dE P "UnboundLocalError" 140 (Value.type "UnboundLocalError"),dE P "UnicodeError" 141 (Value.type "UnicodeError"),dE P "BrokenPipeError" 142 (Value.type "BrokenPipeError"),dE P "ConnectionAbortedError" 143 (Value.type "ConnectionAbortedError"),dE P "ConnectionRefusedError" 144 (Value.type "ConnectionRefusedError"),dE P "ConnectionResetError" 145 (Value.type "ConnectionResetError"),dE P "TabError" 146 (Value.type "TabError"),dE P "UnicodeDecodeError" 147 (Value.type "UnicodeDecodeError"),dE P "UnicodeEncodeError" 148 (Value.type "UnicodeEncodeError"),dE P "UnicodeTranslateError" 149 (Value.type "UnicodeTranslateError"),dE P "ExceptionGroup" 150 (Value.type "ExceptionGroup"),dE P "EnvironmentError" 151 (Value.type "OSError"),dE P "IOError" 152 (Value.type "OSError"),dE P "open" 153 (Value.builtin "open"),dE P "quit" 154 (Value.builtin "builtins.quit#opaque"),dE P "exit" 155 (Value.builtin "builtins.exit#opaque"),dE P "copyright" 156 (Value.builtin "builtins.copyright#opaque"),dE P "credits" 157 (Value.builtin "builtins.credits#opaque"),dE P "license" 158 (Value.builtin "builtins.license#opaque"),dE P "help" 159 (Value.builtin "builtins.help#opaque")] 159) #[]
noncomputable def ho1 (P:Params):Obj:=Obj.mk (Value.type "dict") none (Data.dict #[dE P "builtins" 162 (vR 4),dE P "__main__" 163 (vR 5),dE P "_collections" 246 (vR 13)] 3) #[]
noncomputable def ho2 (P:Params):Obj:=Obj.mk Value.none none (Data.dict #[dE P "im\x70ort.loaded._collections" 185 (Value.bool true),dE P "class._frozen_im\x70ortlib.BuiltinImporter" 187 (vR 15),dE P "watched.im\x70ort" 208 (vR 19),dE P "class._frozen_im\x70ortlib.ModuleSpec" 218 (vR 23),dE P "sys.modules.booked-epoch" 247 (Value.int 3 0),dE P "sys.modules.landed._collections" 248 (Value.bool true),dE P "im\x70ort.later-laid._collections" 263 (Value.bool true),dE P "watched.library" 265 (vR 28),dE P "watched.library-objects" 0 (Value.str (Str.ofString "\x0d") 0),dE P "watched.library-deep._collections" 266 (Value.str (Str.ofString "\x04\x00\x00\x0c\x04\x00\x00\x0c\x04\x00\x00\x03\x04\x00\x00\x0c\x08\x04dict\x02") 0)] 10) #[]
noncomputable def ho3 (P:Params):Obj:=Obj.mk (Value.type "dict") none (Data.dict #[dE P "__name__" 165 (vS "__main__" 164),dE P "__doc__" 166 Value.none,dE P "__package__" 167 Value.none,dE P "__loader__" 168 (Value.builtin "__main__.__loader__#opaque"),dE P "__spec__" 169 Value.none,dE P "__annotations__" 170 (vR 6),dE P "__builtins__" 171 (vR 4),dE P "__file__" 173 (vS "/claim/cut.py" 172),dE P "__cached__" 174 Value.none,dE P "deque" 272 (Value.type "collections.deque")] 10) #[]
noncomputable def ho4 (_:Params):Obj:=Obj.mk (Value.type "module") (some 0) Data.plain #[]
noncomputable def ho5 (_:Params):Obj:=Obj.mk (Value.type "module") (some 3) Data.plain #[]
noncomputable def ho6 (_:Params):Obj:=Obj.mk (Value.type "dict") none (Data.dict #[]) #[]
noncomputable def ho7 (_:Params):Obj:=Obj.mk (Value.type "tuple") none (Data.seq #[]) #[]
noncomputable def ho8 (_:Params):Obj:=Obj.mk Value.none none (Data.fields #[]) #[]
noncomputable def ho9 (_:Params):Obj:=Obj.mk (Value.type "code") none (Data.fields #[vS "<module>" 176,vS "<module>" 177,vS "/claim/cut.py" 178,Value.int 1 0,Value.int 0 0,Value.int 0 0,Value.int 0 0,Value.int 0 0,vR 7,Value.bool false,Value.int 175 0,vR 8,Value.none,Value.none,Value.none,Value.none,Value.int 179 0,Value.int 1 0,vS "/claim/cut.py" 180]) #[]
noncomputable def ho10 (_:Params):Obj:=Obj.mk (Value.type "frame") none Data.plain #[some (vR 9),some (vR 3),some (vR 3),none,some (vS "__main__" 164),none,some (vR 0)]
noncomputable def ho11 (_:Params):Obj:=Obj.mk (Value.type "tuple") none (Data.seq #[vS "deque" 182]) #[]
noncomputable def ho12 (P:Params):Obj:=Obj.mk (Value.type "dict") none (Data.dict #[dE P "__name__" 250 (vS "_collections" 249),dE P "__doc__" 251 (Value.builtin "off-the-table:_collections.__doc__:shared#opaque"),dE P "__package__" 253 (vS "" 252),dE P "__loader__" 254 (Value.builtin "off-the-table:_collections.__loader__:shared#opaque"),dE P "__spec__" 255 (Value.builtin "off-the-table:_collections.__spec__:shared#opaque"),dE P "_count_elements" 256 (Value.builtin "_collections._count_elements"),dE P "deque" 257 (Value.type "collections.deque"),dE P "defaultdict" 258 (Value.type "collections.defaultdict"),dE P "_deque_iterator" 259 (Value.builtin "off-the-table:_collections._deque_iterator:shared#opaque"),dE P "_deque_reverse_iterator" 260 (Value.builtin "off-the-table:_collections._deque_reverse_iterator:shared#opaque"),dE P "_tuplegetter" 261 (Value.type "collections._tuplegetter"),dE P "OrderedDict" 262 (Value.type "collections.OrderedDict")] 12) #[]
noncomputable def ho13 (_:Params):Obj:=Obj.mk (Value.type "module") (some 12) Data.plain #[]
noncomputable def ho14 (P:Params):Obj:=Obj.mk (Value.type "dict") none (Data.dict #[dE P "__module__" 191 (vS "_frozen_im\x70ortlib" 188),dE P "__firstlineno__" 192 (Value.int 971 189),dE P "__doc__" 193 (Value.builtin "_frozen_im\x70ortlib.BuiltinImporter.__doc__:str#opaque"),dE P "_ORIGIN" 194 (vS "built-in" 190),dE P "find_spec" 195 (Value.builtin "_frozen_im\x70ortlib.BuiltinImporter.find_spec#opaque"),dE P "create_module" 196 (Value.builtin "_frozen_im\x70ortlib.BuiltinImporter.create_module#opaque"),dE P "exec_module" 197 (Value.builtin "_frozen_im\x70ortlib.BuiltinImporter.exec_module#opaque"),dE P "get_code" 198 (Value.builtin "_frozen_im\x70ortlib.BuiltinImporter.get_code#opaque"),dE P "get_source" 199 (Value.builtin "_frozen_im\x70ortlib.BuiltinImporter.get_source#opaque"),dE P "is_package" 200 (Value.builtin "_frozen_im\x70ortlib.BuiltinImporter.is_package#opaque"),dE P "load_module" 201 (Value.builtin "_frozen_im\x70ortlib.BuiltinImporter.load_module#opaque"),dE P "__static_attributes__" 202 (vR 16),dE P "__dict__" 204 (vR 17),dE P "__weakref__" 206 (vR 18)] 14) #[]
noncomputable def ho15 (_:Params):Obj:=Obj.mk (Value.type "type") none (Data.cls (ClassData.mk (Str.ofString "BuiltinImporter") [Value.type "object"] [vR 15,Value.type "object"] 14 (Str.ofString "BuiltinImporter") true [] [] false none false)) #[]
noncomputable def ho16 (_:Params):Obj:=Obj.mk (Value.type "getset_descriptor") none (Data.fields #[vS "__dict__" 203,vR 15,Value.builtin "function.__dict__",Value.builtin "function.__dict__#set"]) #[]
noncomputable def ho17 (_:Params):Obj:=Obj.mk (Value.type "getset_descriptor") none (Data.fields #[vS "__weakref__" 205,vR 15,Value.builtin "ExceptionGroup.__weakref__",Value.none]) #[]
noncomputable def ho18 (_:Params):Obj:=Obj.mk Value.none none (Data.seq #[Value.int 14 0,Value.str ⟨#[6,191,10,95,95,109,111,100,117,108,101,95,95,6,188,17,95,102,114,111,122,101,110,95,105,109,112,111,114,116,108,105,98,6,192,15,95,95,102,105,114,115,116,108,105,110,101,110,111,95,95,4,189,0,971,6,193,7,95,95,100,111,99,95,95,9,52,95,102,114,111,122,101,110,95,105,109,112,111,114,116,108,105,98,46,66,117,105,108,116,105,110,73,109,112,111,114,116,101,114,46,95,95,100,111,99,95,95,58,115,116,114,35,111,112,97,113,117,101,6,194,7,95,79,82,73,71,73,78,6,190,8,98,117,105,108,116,45,105,110,6,195,9,102,105,110,100,95,115,112,101,99,9,50,95,102,114,111,122,101,110,95,105,109,112,111,114,116,108,105,98,46,66,117,105,108,116,105,110,73,109,112,111,114,116,101,114,46,102,105,110,100,95,115,112,101,99,35,111,112,97,113,117,101,6,196,13,99,114,101,97,116,101,95,109,111,100,117,108,101,9,54,95,102,114,111,122,101,110,95,105,109,112,111,114,116,108,105,98,46,66,117,105,108,116,105,110,73,109,112,111,114,116,101,114,46,99,114,101,97,116,101,95,109,111,100,117,108,101,35,111,112,97,113,117,101,6,197,11,101,120,101,99,95,109,111,100,117,108,101,9,52,95,102,114,111,122,101,110,95,105,109,112,111,114,116,108,105,98,46,66,117,105,108,116,105,110,73,109,112,111,114,116,101,114,46,101,120,101,99,95,109,111,100,117,108,101,35,111,112,97,113,117,101,6,198,8,103,101,116,95,99,111,100,101,9,49,95,102,114,111,122,101,110,95,105,109,112,111,114,116,108,105,98,46,66,117,105,108,116,105,110,73,109,112,111,114,116,101,114,46,103,101,116,95,99,111,100,101,35,111,112,97,113,117,101,6,199,10,103,101,116,95,115,111,117,114,99,101,9,51,95,102,114,111,122,101,110,95,105,109,112,111,114,116,108,105,98,46,66,117,105,108,116,105,110,73,109,112,111,114,116,101,114,46,103,101,116,95,115,111,117,114,99,101,35,111,112,97,113,117,101,6,200,10,105,115,95,112,97,99,107,97,103,101,9,51,95,102,114,111,122,101,110,95,105,109,112,111,114,116,108,105,98,46,66,117,105,108,116,105,110,73,109,112,111,114,116,101,114,46,105,115,95,112,97,99,107,97,103,101,35,111,112,97,113,117,101,6,201,11,108,111,97,100,95,109,111,100,117,108,101,9,52,95,102,114,111,122,101,110,95,105,109,112,111,114,116,108,105,98,46,66,117,105,108,116,105,110,73,109,112,111,114,116,101,114,46,108,111,97,100,95,109,111,100,117,108,101,35,111,112,97,113,117,101,6,202,21,95,95,115,116,97,116,105,99,95,97,116,116,114,105,98,117,116,101,115,95,95,4,0,0,16,6,204,8,95,95,100,105,99,116,95,95,4,0,0,17,6,206,11,95,95,119,101,97,107,114,101,102,95,95,4,0,0,18]⟩ 0,Value.bool true,Value.bool true,vS "" 207,Value.int 22 0,Value.str ⟨#[6,229,10,95,95,109,111,100,117,108,101,95,95,6,219,17,95,102,114,111,122,101,110,95,105,109,112,111,114,116,108,105,98,6,230,15,95,95,102,105,114,115,116,108,105,110,101,110,111,95,95,4,220,0,562,6,231,7,95,95,100,111,99,95,95,9,47,95,102,114,111,122,101,110,95,105,109,112,111,114,116,108,105,98,46,77,111,100,117,108,101,83,112,101,99,46,95,95,100,111,99,95,95,58,115,116,114,35,111,112,97,113,117,101,6,232,8,95,95,105,110,105,116,95,95,9,44,95,102,114,111,122,101,110,95,105,109,112,111,114,116,108,105,98,46,77,111,100,117,108,101,83,112,101,99,46,95,95,105,110,105,116,95,95,35,111,112,97,113,117,101,6,233,8,95,95,114,101,112,114,95,95,9,44,95,102,114,111,122,101,110,95,105,109,112,111,114,116,108,105,98,46,77,111,100,117,108,101,83,112,101,99,46,95,95,114,101,112,114,95,95,35,111,112,97,113,117,101,6,234,6,95,95,101,113,95,95,9,42,95,102,114,111,122,101,110,95,105,109,112,111,114,116,108,105,98,46,77,111,100,117,108,101,83,112,101,99,46,95,95,101,113,95,95,35,111,112,97,113,117,101,6,235,6,99,97,99,104,101,100,9,42,95,102,114,111,122,101,110,95,105,109,112,111,114,116,108,105,98,46,77,111,100,117,108,101,83,112,101,99,46,99,97,99,104,101,100,35,111,112,97,113,117,101,6,236,6,112,97,114,101,110,116,9,42,95,102,114,111,122,101,110,95,105,109,112,111,114,116,108,105,98,46,77,111,100,117,108,101,83,112,101,99,46,112,97,114,101,110,116,35,111,112,97,113,117,101,6,237,12,104,97,115,95,108,111,99,97,116,105,111,110,9,48,95,102,114,111,122,101,110,95,105,109,112,111,114,116,108,105,98,46,77,111,100,117,108,101,83,112,101,99,46,104,97,115,95,108,111,99,97,116,105,111,110,35,111,112,97,113,117,101,6,238,21,95,95,115,116,97,116,105,99,95,97,116,116,114,105,98,117,116,101,115,95,95,4,0,0,24,6,240,8,95,95,100,105,99,116,95,95,4,0,0,25,6,242,11,95,95,119,101,97,107,114,101,102,95,95,4,0,0,26,6,243,8,95,95,104,97,115,104,95,95,0]⟩ 0,Value.bool true,Value.bool true,vS "" 244] 1) #[]
noncomputable def ho19 (_:Params):Obj:=Obj.mk (Value.type "list") none (Data.seq #[]) #[]
noncomputable def ho20 (P:Params):Obj:=Obj.mk (Value.type "dict") none (Data.dict #[dE P "name" 210 (vS "_collections" 209),dE P "loader" 211 (vR 15),dE P "origin" 212 (vS "built-in" 186),dE P "loader_state" 213 Value.none,dE P "submodule_search_locations" 214 Value.none,dE P "_uninitialized_submodules" 215 (vR 20),dE P "_set_fileattr" 216 (Value.bool false),dE P "_cached" 217 Value.none,dE P "_initializing" 245 (Value.bool false)] 9) #[]
noncomputable def ho21 (P:Params):Obj:=Obj.mk (Value.type "dict") none (Data.dict #[dE P "__module__" 229 (vS "_frozen_im\x70ortlib" 219),dE P "__firstlineno__" 230 (Value.int 562 220),dE P "__doc__" 231 (Value.builtin "_frozen_im\x70ortlib.ModuleSpec.__doc__:str#opaque"),dE P "__init__" 232 (Value.builtin "_frozen_im\x70ortlib.ModuleSpec.__init__#opaque"),dE P "__repr__" 233 (Value.builtin "_frozen_im\x70ortlib.ModuleSpec.__repr__#opaque"),dE P "__eq__" 234 (Value.builtin "_frozen_im\x70ortlib.ModuleSpec.__eq__#opaque"),dE P "cached" 235 (Value.builtin "_frozen_im\x70ortlib.ModuleSpec.cached#opaque"),dE P "parent" 236 (Value.builtin "_frozen_im\x70ortlib.ModuleSpec.parent#opaque"),dE P "has_location" 237 (Value.builtin "_frozen_im\x70ortlib.ModuleSpec.has_location#opaque"),dE P "__static_attributes__" 238 (vR 24),dE P "__dict__" 240 (vR 25),dE P "__weakref__" 242 (vR 26),dE P "__hash__" 243 Value.none] 13) #[]
noncomputable def ho22 (_:Params):Obj:=Obj.mk (Value.type "type") none (Data.cls (ClassData.mk (Str.ofString "ModuleSpec") [Value.type "object"] [vR 23,Value.type "object"] 22 (Str.ofString "ModuleSpec") true [] [] false none false)) #[]
noncomputable def ho23 (_:Params):Obj:=Obj.mk (Value.type "tuple") none (Data.seq #[vS "_cached" 221,vS "_set_fileattr" 222,vS "_uninitialized_submodules" 223,vS "loader" 224,vS "loader_state" 225,vS "name" 226,vS "origin" 227,vS "submodule_search_locations" 228]) #[]
noncomputable def ho24 (_:Params):Obj:=Obj.mk (Value.type "getset_descriptor") none (Data.fields #[vS "__dict__" 239,vR 23,Value.builtin "function.__dict__",Value.builtin "function.__dict__#set"]) #[]
noncomputable def ho25 (_:Params):Obj:=Obj.mk (Value.type "getset_descriptor") none (Data.fields #[vS "__weakref__" 241,vR 23,Value.builtin "ExceptionGroup.__weakref__",Value.none]) #[]
noncomputable def ho26 (_:Params):Obj:=Obj.mk (vR 23) (some 21) Data.plain #[]
noncomputable def ho27 (_:Params):Obj:=Obj.mk Value.none none (Data.seq #[Value.int 12 0,Value.str ⟨#[6,250,8,95,95,110,97,109,101,95,95,6,249,12,95,99,111,108,108,101,99,116,105,111,110,115,6,251,7,95,95,100,111,99,95,95,9,31,95,99,111,108,108,101,99,116,105,111,110,115,46,95,95,100,111,99,95,95,58,115,116,114,35,111,112,97,113,117,101,6,253,11,95,95,112,97,99,107,97,103,101,95,95,6,252,0,6,254,10,95,95,108,111,97,100,101,114,95,95,4,0,0,15,6,255,8,95,95,115,112,101,99,95,95,4,0,0,27,6,256,15,95,99,111,117,110,116,95,101,108,101,109,101,110,116,115,9,28,95,99,111,108,108,101,99,116,105,111,110,115,46,95,99,111,117,110,116,95,101,108,101,109,101,110,116,115,6,257,5,100,101,113,117,101,8,17,99,111,108,108,101,99,116,105,111,110,115,46,100,101,113,117,101,6,258,11,100,101,102,97,117,108,116,100,105,99,116,8,23,99,111,108,108,101,99,116,105,111,110,115,46,100,101,102,97,117,108,116,100,105,99,116,6,259,15,95,100,101,113,117,101,95,105,116,101,114,97,116,111,114,8,27,99,111,108,108,101,99,116,105,111,110,115,46,95,100,101,113,117,101,95,105,116,101,114,97,116,111,114,6,260,23,95,100,101,113,117,101,95,114,101,118,101,114,115,101,95,105,116,101,114,97,116,111,114,8,35,99,111,108,108,101,99,116,105,111,110,115,46,95,100,101,113,117,101,95,114,101,118,101,114,115,101,95,105,116,101,114,97,116,111,114,6,261,12,95,116,117,112,108,101,103,101,116,116,101,114,8,24,99,111,108,108,101,99,116,105,111,110,115,46,95,116,117,112,108,101,103,101,116,116,101,114,6,262,11,79,114,100,101,114,101,100,68,105,99,116,8,23,99,111,108,108,101,99,116,105,111,110,115,46,79,114,100,101,114,101,100,68,105,99,116]⟩ 0,Value.bool true,Value.bool false,vS "_collections" 264]) #[]
noncomputable def hH0 (P:Params):Heap:=Heap.mk (Array.mk [ho0 P,ho1 P,ho2 P,ho3 P,ho4 P,ho5 P,ho6 P,ho7 P,ho8 P,ho9 P,ho10 P,ho11 P,ho12 P,ho13 P,ho14 P,ho15 P,ho7 P,ho16 P,ho17 P,ho18 P,ho19 P,ho20 P,ho21 P,ho22 P,ho23 P,ho24 P,ho25 P,ho26 P,ho27 P]) (PySem.Life.mk [] [] [] 0 [] [] Bool.false #[] [] 0 Bool.false Bool.false Bool.false 0 [2000,10,10] Bool.false 0 Bool.true [] [] 0 Bool.false)
noncomputable abbrev hdr0:Drawn:=PySem.Drawn.mk 0 0 0 0
noncomputable abbrev htk0:Nat:=273
noncomputable abbrev hS00 (P:Params) (os:OsState):Shared:=Shared.mk (hH0 P) (Array.mk []) hdr0 htk0 os
noncomputable def ho28 (_:Params):Obj:=Obj.mk (Value.type "code") none (Data.fields #[vS "<module>" 274,vS "<module>" 275,vS "/claim/cut.py" 276,Value.int 1 0,Value.int 0 0,Value.int 0 0,Value.int 0 0,Value.int 0 0,vR 29,Value.bool false,Value.int 273 0,vR 30,Value.none,Value.none,Value.none,Value.none,Value.int 277 0,Value.int 1 0,vS "/claim/cut.py" 278]) #[]
noncomputable def ho29 (_:Params):Obj:=Obj.mk (Value.type "frame") none Data.plain #[some (vR 31),some (vR 3),some (vR 3),none,some (vS "__main__" 164),none,some (vR 0)]
noncomputable def hla:Life:=Life.mk [] [] [] 0 [] [] Bool.false #[] [] 0 Bool.false Bool.false Bool.false 0 [2000,10,10] Bool.false 0 Bool.true [] [] 0 Bool.false
noncomputable def hta (P:Params):BT:=(BT.node (ho0 P) (BT.node (ho1 P) (BT.node (ho3 P) (BT.node (ho7 P) (BT.node (ho15 P) (BT.node (ho28 P) BT.nil BT.nil) BT.nil) (BT.node (ho22 P) BT.nil BT.nil)) (BT.node (ho11 P) (BT.node (ho18 P) BT.nil BT.nil) (BT.node (ho26 P) BT.nil BT.nil))) (BT.node (ho5 P) (BT.node (ho9 P) (BT.node (ho16 P) BT.nil BT.nil) (BT.node (ho24 P) BT.nil BT.nil)) (BT.node (ho13 P) (BT.node (ho20 P) BT.nil BT.nil) (BT.node (ho7 P) BT.nil BT.nil)))) (BT.node (ho2 P) (BT.node (ho4 P) (BT.node (ho8 P) (BT.node (ho7 P) (BT.node (ho29 P) BT.nil BT.nil) BT.nil) (BT.node (ho23 P) BT.nil BT.nil)) (BT.node (ho12 P) (BT.node (ho19 P) BT.nil BT.nil) (BT.node (ho27 P) BT.nil BT.nil))) (BT.node (ho6 P) (BT.node (ho10 P) (BT.node (ho17 P) BT.nil BT.nil) (BT.node (ho25 P) BT.nil BT.nil)) (BT.node (ho14 P) (BT.node (ho21 P) BT.nil BT.nil) (BT.node (ho8 P) BT.nil BT.nil)))))
noncomputable abbrev hSa (P:Params) (os:OsState):SharedT:=SharedT.mk (hta P) 33 hla (Array.mk []) (PySem.Drawn.mk 0 0 0 0) 279 os
noncomputable def hHa (P:Params):Heap:=Heap.mk (Array.mk [ho0 P,ho1 P,ho2 P,ho3 P,ho4 P,ho5 P,ho6 P,ho7 P,ho8 P,ho9 P,ho10 P,ho11 P,ho12 P,ho13 P,ho14 P,ho15 P,ho7 P,ho16 P,ho17 P,ho18 P,ho19 P,ho20 P,ho21 P,ho22 P,ho23 P,ho24 P,ho25 P,ho26 P,ho27 P,ho7 P,ho8 P,ho28 P,ho29 P]) hla
noncomputable abbrev hSA (P:Params) (os:OsState):Shared:=Shared.mk (hHa P) (Array.mk []) (PySem.Drawn.mk 0 0 0 0) 279 os
noncomputable def ho30 (P:Params):Obj:=Obj.mk (Value.type "dict") none (Data.dict #[dE P "__name__" 165 (vS "__main__" 164),dE P "__doc__" 166 Value.none,dE P "__package__" 167 Value.none,dE P "__loader__" 168 (Value.builtin "__main__.__loader__#opaque"),dE P "__spec__" 169 Value.none,dE P "__annotations__" 170 (vR 6),dE P "__builtins__" 171 (vR 4),dE P "__file__" 173 (vS "/claim/cut.py" 172),dE P "__cached__" 174 Value.none,dE P "deque" 272 (Value.type "collections.deque"),dE P "_wall" 285 (vR 39),dE P "NL" 287 (Value.str (Str.ofString "\n") 286),dE P "_QUOPRI_MAP" 1315 (vR 42)] 13) #[]
noncomputable def ho31 (_:Params):Obj:=Obj.mk Value.none none (Data.fields #[Value.int 2 0,Value.int 0 0,vR 38]) #[]
noncomputable def ho32 (_:Params):Obj:=Obj.mk (Value.type "tuple") none (Data.seq #[vS "k" 282]) #[]
noncomputable def ho33 (_:Params):Obj:=Obj.mk Value.none none (Data.func (FuncData.mk (Str.ofString "_wall") (Str.ofString "_wall") (Arguments.mk [] [Arg.mk (Str.ofString "k") none (Pos.mk 2 10 2 11)] none [] [] none []) (FuncBody.stmts [Stmt.While (Expr.Constant (Const.bool true) 0 (Pos.mk 3 10 3 14)) [Stmt.Pass (Pos.mk 4 8 4 12)] [] (Pos.mk 3 4 4 12)]) (Scope.mk ScopeKind.function [(Str.ofString "k",NameKind.local)] false false []) 0 [] Value.none Value.none Value.none Value.none none Value.none Value.none 0)) #[]
noncomputable def ho34 (_:Params):Obj:=Obj.mk (Value.type "code") none (Data.fields #[vS "_wall" 279,vS "_wall" 280,vS "/claim/cut.py" 281,Value.int 2 0,Value.int 1 0,Value.int 0 0,Value.int 0 0,Value.int 3 0,vR 33,Value.bool true,Value.int 273 0,vR 34,Value.none,vR 35,vR 36,vR 37,Value.int 283 0,Value.int 2 0,vS "/claim/cut.py" 284]) #[]
noncomputable def ho35 (_:Params):Obj:=Obj.mk (Value.type "function") none (Data.func (FuncData.mk (Str.ofString "_wall") (Str.ofString "_wall") (Arguments.mk [] [Arg.mk (Str.ofString "k") none (Pos.mk 2 10 2 11)] none [] [] none []) (FuncBody.stmts [Stmt.While (Expr.Constant (Const.bool true) 0 (Pos.mk 3 10 3 14)) [Stmt.Pass (Pos.mk 4 8 4 12)] [] (Pos.mk 3 4 4 12)]) (Scope.mk ScopeKind.function [(Str.ofString "k",NameKind.local)] false false []) 3 [] Value.none Value.none Value.none (vS "__main__" 164) none (vR 38) Value.none 0)) #[]
noncomputable def ho36 (_:Params):Obj:=Obj.mk (Value.type "range") none (Data.fields #[Value.int 0 289,Value.int 256 288,Value.int 1 290]) #[]
noncomputable def ho37 (_:Params):Obj:=Obj.mk (Value.type "range_iterator") none (Data.fields #[Value.int 256 0,Value.int 0 0,Value.int 1 0]) #[]
noncomputable def ho38 (_:Params):Obj:=Obj.mk (Value.type "list") none (Data.seq #[vS "=00" 294,vS "=01" 298,vS "=02" 302,vS "=03" 306,vS "=04" 310,vS "=05" 314,vS "=06" 318,vS "=07" 322,vS "=08" 326,vS "=09" 330,vS "=0A" 334,vS "=0B" 338,vS "=0C" 342,vS "=0D" 346,vS "=0E" 350,vS "=0F" 354,vS "=10" 358,vS "=11" 362,vS "=12" 366,vS "=13" 370,vS "=14" 374,vS "=15" 378,vS "=16" 382,vS "=17" 386,vS "=18" 390,vS "=19" 394,vS "=1A" 398,vS "=1B" 402,vS "=1C" 406,vS "=1D" 410,vS "=1E" 414,vS "=1F" 418,vS "=20" 422,vS "=21" 426,vS "=22" 430,vS "=23" 434,vS "=24" 438,vS "=25" 442,vS "=26" 446,vS "=27" 450,vS "=28" 454,vS "=29" 458,vS "=2A" 462,vS "=2B" 466,vS "=2C" 470,vS "=2D" 474,vS "=2E" 478,vS "=2F" 482,vS "=30" 486,vS "=31" 490,vS "=32" 494,vS "=33" 498,vS "=34" 502,vS "=35" 506,vS "=36" 510,vS "=37" 514,vS "=38" 518,vS "=39" 522,vS "=3A" 526,vS "=3B" 530,vS "=3C" 534,vS "=3D" 538,vS "=3E" 542,vS "=3F" 546,vS "=40" 550,vS "=41" 554,vS "=42" 558,vS "=43" 562,vS "=44" 566,vS "=45" 570,vS "=46" 574,vS "=47" 578,vS "=48" 582,vS "=49" 586,vS "=4A" 590,vS "=4B" 594,vS "=4C" 598,vS "=4D" 602,vS "=4E" 606,vS "=4F" 610,vS "=50" 614,vS "=51" 618,vS "=52" 622,vS "=53" 626,vS "=54" 630,vS "=55" 634,vS "=56" 638,vS "=57" 642,vS "=58" 646,vS "=59" 650,vS "=5A" 654,vS "=5B" 658,vS "=5C" 662,vS "=5D" 666,vS "=5E" 670,vS "=5F" 674,vS "=60" 678,vS "=61" 682,vS "=62" 686,vS "=63" 690,vS "=64" 694,vS "=65" 698,vS "=66" 702,vS "=67" 706,vS "=68" 710,vS "=69" 714,vS "=6A" 718,vS "=6B" 722,vS "=6C" 726,vS "=6D" 730,vS "=6E" 734,vS "=6F" 738,vS "=70" 742,vS "=71" 746,vS "=72" 750,vS "=73" 754,vS "=74" 758,vS "=75" 762,vS "=76" 766,vS "=77" 770,vS "=78" 774,vS "=79" 778,vS "=7A" 782,vS "=7B" 786,vS "=7C" 790,vS "=7D" 794,vS "=7E" 798,vS "=7F" 802,vS "=80" 806,vS "=81" 810,vS "=82" 814,vS "=83" 818,vS "=84" 822,vS "=85" 826,vS "=86" 830,vS "=87" 834,vS "=88" 838,vS "=89" 842,vS "=8A" 846,vS "=8B" 850,vS "=8C" 854,vS "=8D" 858,vS "=8E" 862,vS "=8F" 866,vS "=90" 870,vS "=91" 874,vS "=92" 878,vS "=93" 882,vS "=94" 886,vS "=95" 890,vS "=96" 894,vS "=97" 898,vS "=98" 902,vS "=99" 906,vS "=9A" 910,vS "=9B" 914,vS "=9C" 918,vS "=9D" 922,vS "=9E" 926,vS "=9F" 930,vS "=A0" 934,vS "=A1" 938,vS "=A2" 942,vS "=A3" 946,vS "=A4" 950,vS "=A5" 954,vS "=A6" 958,vS "=A7" 962,vS "=A8" 966,vS "=A9" 970,vS "=AA" 974,vS "=AB" 978,vS "=AC" 982,vS "=AD" 986,vS "=AE" 990,vS "=AF" 994,vS "=B0" 998,vS "=B1" 1002,vS "=B2" 1006,vS "=B3" 1010,vS "=B4" 1014,vS "=B5" 1018,vS "=B6" 1022,vS "=B7" 1026,vS "=B8" 1030,vS "=B9" 1034,vS "=BA" 1038,vS "=BB" 1042,vS "=BC" 1046,vS "=BD" 1050,vS "=BE" 1054,vS "=BF" 1058,vS "=C0" 1062,vS "=C1" 1066,vS "=C2" 1070,vS "=C3" 1074,vS "=C4" 1078,vS "=C5" 1082,vS "=C6" 1086,vS "=C7" 1090,vS "=C8" 1094,vS "=C9" 1098,vS "=CA" 1102,vS "=CB" 1106,vS "=CC" 1110,vS "=CD" 1114,vS "=CE" 1118,vS "=CF" 1122,vS "=D0" 1126,vS "=D1" 1130,vS "=D2" 1134,vS "=D3" 1138,vS "=D4" 1142,vS "=D5" 1146,vS "=D6" 1150,vS "=D7" 1154,vS "=D8" 1158,vS "=D9" 1162,vS "=DA" 1166,vS "=DB" 1170,vS "=DC" 1174,vS "=DD" 1178,vS "=DE" 1182,vS "=DF" 1186,vS "=E0" 1190,vS "=E1" 1194,vS "=E2" 1198,vS "=E3" 1202,vS "=E4" 1206,vS "=E5" 1210,vS "=E6" 1214,vS "=E7" 1218,vS "=E8" 1222,vS "=E9" 1226,vS "=EA" 1230,vS "=EB" 1234,vS "=EC" 1238,vS "=ED" 1242,vS "=EE" 1246,vS "=EF" 1250,vS "=F0" 1254,vS "=F1" 1258,vS "=F2" 1262,vS "=F3" 1266,vS "=F4" 1270,vS "=F5" 1274,vS "=F6" 1278,vS "=F7" 1282,vS "=F8" 1286,vS "=F9" 1290,vS "=FA" 1294,vS "=FB" 1298,vS "=FC" 1302,vS "=FD" 1306,vS "=FE" 1310,vS "=FF" 1314] 256) #[]
noncomputable def ho39 (_:Params):Obj:=Obj.mk (Value.type "dict") none (Data.dict #[] 2) #[]
noncomputable def ho40 (_:Params):Obj:=Obj.mk (Value.type "StopIteration") none (Data.fields #[vR 44,Value.none,Value.none,Value.none,Value.bool false,Value.none]) #[]
noncomputable def hl1:Life:=Life.mk [] [] [] 0 [] [] Bool.false #[] [] 0 Bool.false Bool.false Bool.false 0 [2000,10,10] Bool.false 0 Bool.true [] [] 0 Bool.false
noncomputable def ht1 (P:Params):BT:=(BT.node (ho0 P) (BT.node (ho1 P) (BT.node (ho30 P) (BT.node (ho7 P) (BT.node (ho15 P) (BT.node (ho28 P) BT.nil BT.nil) BT.nil) (BT.node (ho22 P) (BT.node (ho35 P) BT.nil BT.nil) BT.nil)) (BT.node (ho11 P) (BT.node (ho18 P) (BT.node (ho32 P) BT.nil BT.nil) BT.nil) (BT.node (ho26 P) (BT.node (ho39 P) BT.nil BT.nil) BT.nil))) (BT.node (ho5 P) (BT.node (ho9 P) (BT.node (ho16 P) (BT.node (ho7 P) BT.nil BT.nil) BT.nil) (BT.node (ho24 P) (BT.node (ho37 P) BT.nil BT.nil) BT.nil)) (BT.node (ho13 P) (BT.node (ho20 P) (BT.node (ho33 P) BT.nil BT.nil) BT.nil) (BT.node (ho7 P) (BT.node (ho40 P) BT.nil BT.nil) BT.nil)))) (BT.node (ho2 P) (BT.node (ho4 P) (BT.node (ho8 P) (BT.node (ho7 P) (BT.node (ho29 P) BT.nil BT.nil) BT.nil) (BT.node (ho23 P) (BT.node (ho36 P) BT.nil BT.nil) BT.nil)) (BT.node (ho12 P) (BT.node (ho19 P) (BT.node (ho7 P) BT.nil BT.nil) BT.nil) (BT.node (ho27 P) (BT.node (ho7 P) BT.nil BT.nil) BT.nil))) (BT.node (ho6 P) (BT.node (ho10 P) (BT.node (ho17 P) (BT.node (ho8 P) BT.nil BT.nil) BT.nil) (BT.node (ho25 P) (BT.node (ho38 P) BT.nil BT.nil) BT.nil)) (BT.node (ho14 P) (BT.node (ho21 P) (BT.node (ho34 P) BT.nil BT.nil) BT.nil) (BT.node (ho31 P) BT.nil BT.nil)))))
noncomputable abbrev hS1 (P:Params) (os:OsState):SharedT:=SharedT.mk (ht1 P) 46 hl1 (Array.mk []) (PySem.Drawn.mk 0 0 0 0) 1316 os
noncomputable def ho41 (P:Params):Obj:=Obj.mk (Value.type "dict") none (Data.dict #[dE P "__name__" 165 (vS "cpy313.email.quoprimime" 1331),dE P "__doc__" 166 Value.none,dE P "__package__" 167 Value.none,dE P "__loader__" 168 (Value.builtin "__main__.__loader__#opaque"),dE P "__spec__" 169 Value.none,dE P "__annotations__" 170 (vR 6),dE P "__builtins__" 171 (vR 4),dE P "__file__" 173 (vS "/claim/cut.py" 172),dE P "__cached__" 174 Value.none,dE P "deque" 272 (Value.type "collections.deque"),dE P "_wall" 285 (vR 39),dE P "NL" 287 (Value.str (Str.ofString "\n") 286),dE P "_QUOPRI_MAP" 1315 (vR 42),dE P "_QUOPRI_HEADER_MAP" 1316 (vR 47),dE P "_QUOPRI_BODY_MAP" 1317 (vR 49),dE P "ascii_lowercase" 1319 (vS "abcdefghijklmnopqrstuvwxyz" 1318),dE P "ascii_uppercase" 1321 (vS "ABCDEFGHIJKLMNOPQRSTUVWXYZ" 1320),dE P "ascii_letters" 1323 (vS "abcdefghijklmnopqrstuvwxyzABCDEFGHIJKLMNOPQRSTUVWXYZ" 1322),dE P "digits" 1325 (vS "0123456789" 1324),dE P "hexdigits" 1330 (vS "0123456789abcdefABCDEF" 1329),dE P "c" 1341 (Value.int 9 1827)] 21) #[]
noncomputable def ho42 (_:Params):Obj:=Obj.mk (Value.type "slice") none (Data.fields #[Value.none,Value.none,Value.none]) #[]
noncomputable def ho43 (P:Params):Obj:=Obj.mk (Value.type "list") none (Data.seq #[vS "=00" 294,vS "=01" 298,vS "=02" 302,vS "=03" 306,vS "=04" 310,vS "=05" 314,vS "=06" 318,vS "=07" 322,vS "=08" 326,vS "=09" 330,vS "=0A" 334,vS "=0B" 338,vS "=0C" 342,vS "=0D" 346,vS "=0E" 350,vS "=0F" 354,vS "=10" 358,vS "=11" 362,vS "=12" 366,vS "=13" 370,vS "=14" 374,vS "=15" 378,vS "=16" 382,vS "=17" 386,vS "=18" 390,vS "=19" 394,vS "=1A" 398,vS "=1B" 402,vS "=1C" 406,vS "=1D" 410,vS "=1E" 414,vS "=1F" 418,vS "_" 1541,vS "!" 1345,vS "=22" 430,vS "=23" 434,vS "=24" 438,vS "=25" 442,vS "=26" 446,vS "=27" 450,vS "=28" 454,vS "=29" 458,vS "*" 1348,vS "+" 1351,vS "=2C" 470,vS "-" 1342,vS "=2E" 478,vS "/" 1354,vS "0" 1513,vS "1" 1516,vS "2" 1519,vS "3" 1522,vS "4" 1525,vS "5" 1528,vS "6" 1531,vS "7" 1534,vS "8" 1537,vS "9" 1540,vS "=3A" 526,vS "=3B" 530,vS "=3C" 534,vS "=3D" 538,vS "=3E" 542,vS "=3F" 546,vS "=40" 550,vS "A" 1435,vS "B" 1438,vS "C" 1441,vS "D" 1444,vS "E" 1447,vS "F" 1450,vS "G" 1453,vS "H" 1456,vS "I" 1459,vS "J" 1462,vS "K" 1465,vS "L" 1468,vS "M" 1471,vS "N" 1474,vS "O" 1477,vS "P" 1480,vS "Q" 1483,vS "R" 1486,vS "S" 1489,vS "T" 1492,vS "U" 1495,vS "V" 1498,vS "W" 1501,vS "X" 1504,vS "Y" 1507,vS "Z" 1510,vS "=5B" 658,vS "=5C" 662,vS "=5D" 666,vS "=5E" 670,vS "=5F" 674,vS "=60" 678,vS "a" 1357,vS "b" 1360,vS "c" 1363,vS "d" 1366,vS "e" 1369,vS "f" 1372,vS "g" 1375,vS "h" 1378,vS "i" 1381,vS "j" 1384,vS "k" 1387,vS "l" 1390,vS "m" 1393,vS "n" 1396,vS "o" 1399,vS "p" 1402,vS "q" 1405,vS "r" 1408,vS "s" 1411,vS "t" 1414,vS "u" 1417,vS "v" 1420,vS "w" 1423,vS "x" 1426,vS "y" 1429,vS "z" 1432,vS "=7B" 786,vS "=7C" 790,vS "=7D" 794,vS "=7E" 798,vS "=7F" 802,vS "=80" 806,vS "=81" 810,vS "=82" 814,vS "=83" 818,vS "=84" 822,vS "=85" 826,vS "=86" 830,vS "=87" 834,vS "=88" 838,vS "=89" 842,vS "=8A" 846,vS "=8B" 850,vS "=8C" 854,vS "=8D" 858,vS "=8E" 862,vS "=8F" 866,vS "=90" 870,vS "=91" 874,vS "=92" 878,vS "=93" 882,vS "=94" 886,vS "=95" 890,vS "=96" 894,vS "=97" 898,vS "=98" 902,vS "=99" 906,vS "=9A" 910,vS "=9B" 914,vS "=9C" 918,vS "=9D" 922,vS "=9E" 926,vS "=9F" 930,vS "=A0" 934,vS "=A1" 938,vS "=A2" 942,vS "=A3" 946,vS "=A4" 950,vS "=A5" 954,vS "=A6" 958,vS "=A7" 962,vS "=A8" 966,vS "=A9" 970,vS "=AA" 974,vS "=AB" 978,vS "=AC" 982,vS "=AD" 986,vS "=AE" 990,vS "=AF" 994,vS "=B0" 998,vS "=B1" 1002,vS "=B2" 1006,vS "=B3" 1010,vS "=B4" 1014,vS "=B5" 1018,vS "=B6" 1022,vS "=B7" 1026,vS "=B8" 1030,vS "=B9" 1034,vS "=BA" 1038,vS "=BB" 1042,vS "=BC" 1046,vS "=BD" 1050,vS "=BE" 1054,vS "=BF" 1058,vS "=C0" 1062,vS "=C1" 1066,vS "=C2" 1070,vS "=C3" 1074,vS "=C4" 1078,vS "=C5" 1082,vS "=C6" 1086,vS "=C7" 1090,vS "=C8" 1094,vS "=C9" 1098,vS "=CA" 1102,vS "=CB" 1106,vS "=CC" 1110,vS "=CD" 1114,vS "=CE" 1118,vS "=CF" 1122,vS "=D0" 1126,vS "=D1" 1130,vS "=D2" 1134,vS "=D3" 1138,vS "=D4" 1142,vS "=D5" 1146,vS "=D6" 1150,vS "=D7" 1154,vS "=D8" 1158,vS "=D9" 1162,vS "=DA" 1166,vS "=DB" 1170,vS "=DC" 1174,vS "=DD" 1178,vS "=DE" 1182,vS "=DF" 1186,vS "=E0" 1190,vS "=E1" 1194,vS "=E2" 1198,vS "=E3" 1202,vS "=E4" 1206,vS "=E5" 1210,vS "=E6" 1214,vS "=E7" 1218,vS "=E8" 1222,vS "=E9" 1226,vS "=EA" 1230,vS "=EB" 1234,vS "=EC" 1238,vS "=ED" 1242,vS "=EE" 1246,vS "=EF" 1250,vS "=F0" 1254,vS "=F1" 1258,vS "=F2" 1262,vS "=F3" 1266,vS "=F4" 1270,vS "=F5" 1274,vS "=F6" 1278,vS "=F7" 1282,vS "=F8" 1286,vS "=F9" 1290,vS "=FA" 1294,vS "=FB" 1298,vS "=FC" 1302,vS "=FD" 1306,vS "=FE" 1310,vS "=FF" 1314]) #[]
noncomputable def ho44 (P:Params):Obj:=Obj.mk (Value.type "list") none (Data.seq #[vS "=00" 294,vS "=01" 298,vS "=02" 302,vS "=03" 306,vS "=04" 310,vS "=05" 314,vS "=06" 318,vS "=07" 322,vS "=08" 326,Value.str (Str.ofString "\t") 1829,vS "=0A" 334,vS "=0B" 338,vS "=0C" 342,vS "=0D" 346,vS "=0E" 350,vS "=0F" 354,vS "=10" 358,vS "=11" 362,vS "=12" 366,vS "=13" 370,vS "=14" 374,vS "=15" 378,vS "=16" 382,vS "=17" 386,vS "=18" 390,vS "=19" 394,vS "=1A" 398,vS "=1B" 402,vS "=1C" 406,vS "=1D" 410,vS "=1E" 414,vS "=1F" 418,vS " " 1547,vS "!" 1550,Value.str (Str.ofString "\"") 1553,vS "#" 1556,vS "$" 1559,vS "%" 1562,vS "&" 1565,vS "'" 1568,vS "(" 1571,vS ")" 1574,vS "*" 1577,vS "+" 1580,vS "," 1583,vS "-" 1586,vS "." 1589,vS "/" 1592,vS "0" 1595,vS "1" 1598,vS "2" 1601,vS "3" 1604,vS "4" 1607,vS "5" 1610,vS "6" 1613,vS "7" 1616,vS "8" 1619,vS "9" 1622,vS ":" 1625,vS ";" 1628,vS "<" 1631,vS "=3D" 538,vS ">" 1634,vS "?" 1637,vS "@" 1640,vS "A" 1643,vS "B" 1646,vS "C" 1649,vS "D" 1652,vS "E" 1655,vS "F" 1658,vS "G" 1661,vS "H" 1664,vS "I" 1667,vS "J" 1670,vS "K" 1673,vS "L" 1676,vS "M" 1679,vS "N" 1682,vS "O" 1685,vS "P" 1688,vS "Q" 1691,vS "R" 1694,vS "S" 1697,vS "T" 1700,vS "U" 1703,vS "V" 1706,vS "W" 1709,vS "X" 1712,vS "Y" 1715,vS "Z" 1718,vS "[" 1721,Value.str (Str.ofString "\\") 1724,vS "]" 1727,vS "^" 1730,vS "_" 1733,vS "`" 1736,vS "a" 1739,vS "b" 1742,vS "c" 1745,vS "d" 1748,vS "e" 1751,vS "f" 1754,vS "g" 1757,vS "h" 1760,vS "i" 1763,vS "j" 1766,vS "k" 1769,vS "l" 1772,vS "m" 1775,vS "n" 1778,vS "o" 1781,vS "p" 1784,vS "q" 1787,vS "r" 1790,vS "s" 1793,vS "t" 1796,vS "u" 1799,vS "v" 1802,vS "w" 1805,vS "x" 1808,vS "y" 1811,vS "z" 1814,vS "{" 1817,vS "|" 1820,vS "}" 1823,vS "~" 1826,vS "=7F" 802,vS "=80" 806,vS "=81" 810,vS "=82" 814,vS "=83" 818,vS "=84" 822,vS "=85" 826,vS "=86" 830,vS "=87" 834,vS "=88" 838,vS "=89" 842,vS "=8A" 846,vS "=8B" 850,vS "=8C" 854,vS "=8D" 858,vS "=8E" 862,vS "=8F" 866,vS "=90" 870,vS "=91" 874,vS "=92" 878,vS "=93" 882,vS "=94" 886,vS "=95" 890,vS "=96" 894,vS "=97" 898,vS "=98" 902,vS "=99" 906,vS "=9A" 910,vS "=9B" 914,vS "=9C" 918,vS "=9D" 922,vS "=9E" 926,vS "=9F" 930,vS "=A0" 934,vS "=A1" 938,vS "=A2" 942,vS "=A3" 946,vS "=A4" 950,vS "=A5" 954,vS "=A6" 958,vS "=A7" 962,vS "=A8" 966,vS "=A9" 970,vS "=AA" 974,vS "=AB" 978,vS "=AC" 982,vS "=AD" 986,vS "=AE" 990,vS "=AF" 994,vS "=B0" 998,vS "=B1" 1002,vS "=B2" 1006,vS "=B3" 1010,vS "=B4" 1014,vS "=B5" 1018,vS "=B6" 1022,vS "=B7" 1026,vS "=B8" 1030,vS "=B9" 1034,vS "=BA" 1038,vS "=BB" 1042,vS "=BC" 1046,vS "=BD" 1050,vS "=BE" 1054,vS "=BF" 1058,vS "=C0" 1062,vS "=C1" 1066,vS "=C2" 1070,vS "=C3" 1074,vS "=C4" 1078,vS "=C5" 1082,vS "=C6" 1086,vS "=C7" 1090,vS "=C8" 1094,vS "=C9" 1098,vS "=CA" 1102,vS "=CB" 1106,vS "=CC" 1110,vS "=CD" 1114,vS "=CE" 1118,vS "=CF" 1122,vS "=D0" 1126,vS "=D1" 1130,vS "=D2" 1134,vS "=D3" 1138,vS "=D4" 1142,vS "=D5" 1146,vS "=D6" 1150,vS "=D7" 1154,vS "=D8" 1158,vS "=D9" 1162,vS "=DA" 1166,vS "=DB" 1170,vS "=DC" 1174,vS "=DD" 1178,vS "=DE" 1182,vS "=DF" 1186,vS "=E0" 1190,vS "=E1" 1194,vS "=E2" 1198,vS "=E3" 1202,vS "=E4" 1206,vS "=E5" 1210,vS "=E6" 1214,vS "=E7" 1218,vS "=E8" 1222,vS "=E9" 1226,vS "=EA" 1230,vS "=EB" 1234,vS "=EC" 1238,vS "=ED" 1242,vS "=EE" 1246,vS "=EF" 1250,vS "=F0" 1254,vS "=F1" 1258,vS "=F2" 1262,vS "=F3" 1266,vS "=F4" 1270,vS "=F5" 1274,vS "=F6" 1278,vS "=F7" 1282,vS "=F8" 1286,vS "=F9" 1290,vS "=FA" 1294,vS "=FB" 1298,vS "=FC" 1302,vS "=FD" 1306,vS "=FE" 1310,vS "=FF" 1314]) #[]
noncomputable def ho45 (_:Params):Obj:=Obj.mk (Value.type "bytes_iterator") none (Data.fields #[Value.none,Value.int 67 0]) #[]
noncomputable def ho46 (_:Params):Obj:=Obj.mk (Value.type "StopIteration") none (Data.fields #[vR 51,Value.none,Value.none,Value.none,Value.bool false,Value.none]) #[]
noncomputable def ho47 (_:Params):Obj:=Obj.mk (Value.type "bytes_iterator") none (Data.fields #[Value.none,Value.int 95 0]) #[]
noncomputable def ho48 (_:Params):Obj:=Obj.mk (Value.type "StopIteration") none (Data.fields #[vR 54,Value.none,Value.none,Value.none,Value.bool false,Value.none]) #[]
noncomputable def hl2:Life:=Life.mk [] [] [] 0 [] [] Bool.false #[] [] 0 Bool.false Bool.false Bool.false 0 [2000,10,10] Bool.false 0 Bool.true [] [] 0 Bool.false
noncomputable def ht2 (P:Params):BT:=(BT.node (ho0 P) (BT.node (ho1 P) (BT.node (ho41 P) (BT.node (ho7 P) (BT.node (ho15 P) (BT.node (ho28 P) BT.nil BT.nil) (BT.node (ho43 P) BT.nil BT.nil)) (BT.node (ho22 P) (BT.node (ho35 P) BT.nil BT.nil) (BT.node (ho48 P) BT.nil BT.nil))) (BT.node (ho11 P) (BT.node (ho18 P) (BT.node (ho32 P) BT.nil BT.nil) (BT.node (ho7 P) BT.nil BT.nil)) (BT.node (ho26 P) (BT.node (ho39 P) BT.nil BT.nil) BT.nil))) (BT.node (ho5 P) (BT.node (ho9 P) (BT.node (ho16 P) (BT.node (ho7 P) BT.nil BT.nil) (BT.node (ho44 P) BT.nil BT.nil)) (BT.node (ho24 P) (BT.node (ho37 P) BT.nil BT.nil) BT.nil)) (BT.node (ho13 P) (BT.node (ho20 P) (BT.node (ho33 P) BT.nil BT.nil) (BT.node (ho47 P) BT.nil BT.nil)) (BT.node (ho7 P) (BT.node (ho40 P) BT.nil BT.nil) BT.nil)))) (BT.node (ho2 P) (BT.node (ho4 P) (BT.node (ho8 P) (BT.node (ho7 P) (BT.node (ho29 P) BT.nil BT.nil) (BT.node (ho42 P) BT.nil BT.nil)) (BT.node (ho23 P) (BT.node (ho36 P) BT.nil BT.nil) BT.nil)) (BT.node (ho12 P) (BT.node (ho19 P) (BT.node (ho7 P) BT.nil BT.nil) (BT.node (ho46 P) BT.nil BT.nil)) (BT.node (ho27 P) (BT.node (ho7 P) BT.nil BT.nil) BT.nil))) (BT.node (ho6 P) (BT.node (ho10 P) (BT.node (ho17 P) (BT.node (ho8 P) BT.nil BT.nil) (BT.node (ho45 P) BT.nil BT.nil)) (BT.node (ho25 P) (BT.node (ho38 P) BT.nil BT.nil) BT.nil)) (BT.node (ho14 P) (BT.node (ho21 P) (BT.node (ho34 P) BT.nil BT.nil) (BT.node (ho7 P) BT.nil BT.nil)) (BT.node (ho31 P) (BT.node (ho42 P) BT.nil BT.nil) BT.nil)))))
noncomputable abbrev hS2 (P:Params) (os:OsState):SharedT:=SharedT.mk (ht2 P) 56 hl2 (Array.mk []) (PySem.Drawn.mk 0 0 0 0) 1830 os
theorem left_of {p q:Program} {loose:List Str} {Xt:Shared→Bool} {α:Type} {Yf:Shared→α} {Ya:World→α} {N:Nat} {g0:Bool} {H₀:Params→Heap} {gs₀:Array GenState} {d₀:Drawn} {k₀ m₀:Nat} {ann:Option Value} {M:Nat}
  (open_:∀ w:World,(fencedOpening treeTable p w N).map (fun s=>(s.heap,s.gens,s.drawn,s.toks)) = some (H₀ w.params,gs₀,d₀,k₀))
  (size:∀ w:World,((H₀ w.params).isNs mainGlobals && gs₀.size == 0,(H₀ w.params).objs.size,(H₀ w.params).nsMap mainGlobals "__annotations__") = (true,m₀,ann))
  (run:∀ (w:World) (os:OsState),∃ s₁,topRun treeTable p w m₀ ann M ⟨H₀ w.params,gs₀,d₀,k₀,os⟩ (topStub p) = some s₁∧
   (staticsOk (importedModules p.main.body) (H₀ w.params) s₁.heap && namesBound p s₁.heap && gensDone s₁ && laidKept (H₀ w.params) s₁.heap) = true∧openSeen q loose (importedModules p.main.body) Xt g0 s₁ = openGood q loose∧Yf s₁ = Ya w) (le:Nat.ble M N = true):
  LeftO p q loose Xt Yf Ya N g0:=fun w=>by
 obtain ⟨⟨h,gs,d,k,os⟩,e,e'⟩:=Option.map_eq_some_iff.mp (open_ w)
 obtain ⟨rfl,rfl,rfl,rfl⟩:h = H₀ w.params∧gs = gs₀∧d = d₀∧k = k₀:=by simpa using e'
 obtain ⟨z1,z2,z3⟩:_∧_∧_:=by simpa only [Prod.mk.injEq] using size w
 obtain ⟨s₁,r0,l1,l2,l3⟩:=run w os
 have r:=topRun_mono (N - M) _ _ _ _ r0
 rw [show M + (N - M) = N by have:=Nat.le_of_ble_eq_true le; lia] at r
 have t:topFrom treeTable p w N ⟨H₀ w.params,gs,d,k,os⟩ = some s₁:=by
  unfold topFrom
  dsimp only
  rw [z1,z2,z3,r]
  show (match staticsOk (importedModules p.main.body) (H₀ w.params) s₁.heap && namesBound p s₁.heap && gensDone s₁ && laidKept (H₀ w.params) s₁.heap with | true=>_ | false=>_) = _
  rw [l1]
 unfold openEnds
 rw [e]
 show (topFrom treeTable p w N _).map _ = _
 rw [t]
 exact congrArg some (Prod.ext l2 l3)
theorem fin_run {tb:String→Option Builtin} {p:Program} {w:World} {n₀:Nat} {ann:Option Value} {c:Code} {pos q:Pos} (s:Shared):topRun tb p w n₀ ann 3 s ⟨doneF .next,c,pos,[topFrame q]⟩ = some s:=by
 obtain ⟨h,g,d,t,os⟩:=s
 rfl
section
variable {tb:String→Option Builtin} {p:Program} {w:World} {n₀:Nat} {ann:Option Value} {b:Nat}
theorem zqf (k:Nat):∀ {n:Nat} {s:SharedT} {t:Thread} {r:Flow×SharedT×Code×Pos},segRunT tb p w n₀ ann b n s t = some r→segRunT tb p w n₀ ann b (n + k) s t = some r:=by
 intro n
 induction n with
 | zero=>intro _ _ _ h; cases h
 | succ n ih=>
   intro s t r h
   rw [Nat.succ_add]
   unfold segRunT at h ⊢
   cases he:endAt b t with
   | some x=>rw [he] at h; exact h
   | none=>
     rw [he] at h
     cases hk:stepOk n₀ ann t with
     | false=>rw [hk] at h; cases h
     | true=>
       rw [hk] at h
       cases hs:PySem.W.stepT (denote tb) p w s t with
       | none=>rw [hs] at h; cases h
       | some q=>obtain ⟨s₂,t₂⟩:=q; rw [hs] at h; exact ih h
theorem zoq {N:Nat} {r:Flow×SharedT×Code×Pos}:∀ {n:Nat} {s:SharedT} {t:Thread},((segGoT tb p w n₀ ann b n s t).bind fun q=>segRunT tb p w n₀ ann b N q.1 q.2) = some r→segRunT tb p w n₀ ann b (n + N) s t = some r:=by
 intro n
 induction n with
 | zero=>intro s t h; rw [Nat.zero_add]; exact h
 | succ n ih=>
   intro s t h
   rw [Nat.succ_add]
   unfold segGoT at h
   unfold segRunT
   cases he:endAt b t with
   | some x=>rw [he] at h; cases h
   | none=>
     rw [he] at h
     cases hk:stepOk n₀ ann t with
     | false=>rw [hk] at h; cases h
     | true=>
       rw [hk] at h
       cases hs:PySem.W.stepT (denote tb) p w s t with
       | none=>rw [hs] at h; cases h
       | some q=>obtain ⟨s₂,t₂⟩:=q; rw [hs] at h; exact ih h
theorem zji {x:Option (SharedT×Thread)} {n N:Nat} {r:Flow×SharedT×Code×Pos} (h:((x.bind fun q=>segGoT tb p w n₀ ann b n q.1 q.2).bind fun q=>segRunT tb p w n₀ ann b N q.1 q.2) = some r):(x.bind fun q=>segRunT tb p w n₀ ann b (n + N) q.1 q.2) = some r:=by
 cases x with
 | none=>cases h
 | some q=>exact zoq h
theorem way_ {row:String} {x:Option (SharedT×Thread)} {k:Nat} (e:(x.bind fun q=>segGoT tb p (w.withFollow row true) n₀ ann b k q.1 q.2) = x.bind fun q=>segGoT tb p (w.withFollow row false) n₀ ann b k q.1 q.2):(x.bind fun q=>segGoT tb p (w.withFollow row false) n₀ ann b k q.1 q.2) = x.bind fun q=>segGoT tb p w n₀ ann b k q.1 q.2:=by
 have h:∀ c,(x.bind fun q=>segGoT tb p (w.withFollow row c) n₀ ann b k q.1 q.2) = x.bind fun q=>segGoT tb p (w.withFollow row false) n₀ ann b k q.1 q.2:=fun c=>by
  cases c
  ·rfl
  ·exact e
 have:=h (w.params.followText row)
 rw [World.withFollow_self] at this
 exact this.symm
end
noncomputable def fParams (s:Stmt):Arguments:=(sV s).2.2.2.2
noncomputable def z0c:Stmt:=nthS (zar (nthS za5 25)) 1
noncomputable def kFd (S:Stmt) (n q:String) (dv:Value) (mod:String) (t:Nat) (c:Addr):FuncData:={ name:=n,qualname:=q,params:=fParams S,body:=.stmts (zar S),scope:=zbj S,globals:=3,closure:=[],defaults:=dv,kwdefaults:=.none,doc:=.none,pyModule:=.str mod t,annotations:=none,code:=.ref c,closureTuple:=.none,builtins:=0 }
noncomputable def kFn (S:Stmt) (n q:String) (dv:Value) (mod:String) (t:Nat) (c:Addr):Obj:=⟨.type "function",none,.func (kFd S n q dv mod t c),#[]⟩
noncomputable def ko2 (P:Params):Obj:=Obj.mk Value.none none (Data.dict #[dE P "im\x70ort.loaded._collections" 185 (Value.bool true),dE P "class._frozen_im\x70ortlib.BuiltinImporter" 187 (vR 15),dE P "watched.im\x70ort" 208 (vR 19),dE P "class._frozen_im\x70ortlib.ModuleSpec" 218 (vR 23),dE P "sys.modules.booked-epoch" 247 (Value.int 3 0),dE P "sys.modules.landed._collections" 248 (Value.bool true),dE P "im\x70ort.later-laid._collections" 263 (Value.bool true),dE P "watched.library" 265 (vR 28),dE P "watched.library-objects" 0 (vS "\x0d" 0),dE P "watched.library-deep._collections" 266 (vS "\x04\x00\x00\x0c\x04\x00\x00\x0c\x04\x00\x00\x03\x04\x00\x00\x0c\x08\x04dict\x02" 0),dE P "type.__subclasses__.OSError.0" 1901 (Value.int 106 0),dE P "type.__subclasses__.OSError.n" 1902 (Value.int 1 0)] 12) #[]
noncomputable def ko3 (P:Params):Obj:=Obj.mk (Value.type "dict") none (Data.dict #[dE P "__name__" 165 (vS "law_oy0352_01" 2731),dE P "__doc__" 166 Value.none,dE P "__package__" 167 Value.none,dE P "__loader__" 168 (Value.builtin "__main__.__loader__#opaque"),dE P "__spec__" 169 Value.none,dE P "__annotations__" 170 (vR 6),dE P "__builtins__" 171 (vR 4),dE P "__file__" 173 (vS "/claim/cut.py" 172),dE P "__cached__" 174 Value.none,dE P "deque" 272 (Value.type "collections.deque"),dE P "_wall" 285 (vR 39),dE P "NL" 287 (vS "\n" 286),dE P "_QUOPRI_MAP" 1315 (vR 42),dE P "_QUOPRI_HEADER_MAP" 1316 (vR 47),dE P "_QUOPRI_BODY_MAP" 1317 (vR 49),dE P "ascii_lowercase" 1319 (vS "abcdefghijklmnopqrstuvwxyz" 1318),dE P "ascii_uppercase" 1321 (vS "ABCDEFGHIJKLMNOPQRSTUVWXYZ" 1320),dE P "ascii_letters" 1323 (vS "abcdefghijklmnopqrstuvwxyzABCDEFGHIJKLMNOPQRSTUVWXYZ" 1322),dE P "digits" 1325 (vS "0123456789" 1324),dE P "hexdigits" 1330 (vS "0123456789abcdefABCDEF" 1329),dE P "unquote" 1836 (vR 62),dE P "quote" 1843 (vR 69),dE P "_QUOPRI_BODY_ENCODE_MAP" 1844 (vR 71),dE P "decode" 1864 (vR 82),dE P "_whence" 1874 (vR 89),dE P "_index" 1882 (vR 96),dE P "UnsupportedOperation" 1904 (vR 106),dE P "IOBase" 1936 (vR 126),dE P "BufferedIOBase" 1954 (vR 141),dE P "TextIOBase" 1972 (vR 153),dE P "BytesIO" 2234 (vR 383),dE P "StringIO" 2521 (vR 630),dE P "_kind" 2532 (vR 639),dE P "_fspath" 2541 (vR 646),dE P "_check_arg_types" 2551 (vR 653),dE P "isabs" 2558 (vR 660),dE P "join" 2569 (vR 667),dE P "dirname" 2579 (vR 674),dE P "shlex" 2720 (vR 765),dE P "split" 2730 (vR 777),dE P "_law_units" 2746 (vR 784),dE P "_law_plain" 2752 (vR 789),dE P "_law_quoted" 2765 (vR 796),dE P "_law_words" 2780 (vR 803),dE P "law" 2786 (vR 808)] 47) #[]
noncomputable def ko42 (_:Params):Obj:=Obj.mk (Value.type "list") none (Data.seq #[vS "=00" 294,vS "=01" 298,vS "=02" 302,vS "=03" 306,vS "=04" 310,vS "=05" 314,vS "=06" 318,vS "=07" 322,vS "=08" 326,vS "=09" 330,vS "=0A" 334,vS "=0B" 338,vS "=0C" 342,vS "=0D" 346,vS "=0E" 350,vS "=0F" 354,vS "=10" 358,vS "=11" 362,vS "=12" 366,vS "=13" 370,vS "=14" 374,vS "=15" 378,vS "=16" 382,vS "=17" 386,vS "=18" 390,vS "=19" 394,vS "=1A" 398,vS "=1B" 402,vS "=1C" 406,vS "=1D" 410,vS "=1E" 414,vS "=1F" 418,vS "=20" 422,vS "=21" 426,vS "=22" 430,vS "=23" 434,vS "=24" 438,vS "=25" 442,vS "=26" 446,vS "=27" 450,vS "=28" 454,vS "=29" 458,vS "=2A" 462,vS "=2B" 466,vS "=2C" 470,vS "=2D" 474,vS "=2E" 478,vS "=2F" 482,vS "=30" 486,vS "=31" 490,vS "=32" 494,vS "=33" 498,vS "=34" 502,vS "=35" 506,vS "=36" 510,vS "=37" 514,vS "=38" 518,vS "=39" 522,vS "=3A" 526,vS "=3B" 530,vS "=3C" 534,vS "=3D" 538,vS "=3E" 542,vS "=3F" 546,vS "=40" 550,vS "=41" 554,vS "=42" 558,vS "=43" 562,vS "=44" 566,vS "=45" 570,vS "=46" 574,vS "=47" 578,vS "=48" 582,vS "=49" 586,vS "=4A" 590,vS "=4B" 594,vS "=4C" 598,vS "=4D" 602,vS "=4E" 606,vS "=4F" 610,vS "=50" 614,vS "=51" 618,vS "=52" 622,vS "=53" 626,vS "=54" 630,vS "=55" 634,vS "=56" 638,vS "=57" 642,vS "=58" 646,vS "=59" 650,vS "=5A" 654,vS "=5B" 658,vS "=5C" 662,vS "=5D" 666,vS "=5E" 670,vS "=5F" 674,vS "=60" 678,vS "=61" 682,vS "=62" 686,vS "=63" 690,vS "=64" 694,vS "=65" 698,vS "=66" 702,vS "=67" 706,vS "=68" 710,vS "=69" 714,vS "=6A" 718,vS "=6B" 722,vS "=6C" 726,vS "=6D" 730,vS "=6E" 734,vS "=6F" 738,vS "=70" 742,vS "=71" 746,vS "=72" 750,vS "=73" 754,vS "=74" 758,vS "=75" 762,vS "=76" 766,vS "=77" 770,vS "=78" 774,vS "=79" 778,vS "=7A" 782,vS "=7B" 786,vS "=7C" 790,vS "=7D" 794,vS "=7E" 798,vS "=7F" 802,vS "=80" 806,vS "=81" 810,vS "=82" 814,vS "=83" 818,vS "=84" 822,vS "=85" 826,vS "=86" 830,vS "=87" 834,vS "=88" 838,vS "=89" 842,vS "=8A" 846,vS "=8B" 850,vS "=8C" 854,vS "=8D" 858,vS "=8E" 862,vS "=8F" 866,vS "=90" 870,vS "=91" 874,vS "=92" 878,vS "=93" 882,vS "=94" 886,vS "=95" 890,vS "=96" 894,vS "=97" 898,vS "=98" 902,vS "=99" 906,vS "=9A" 910,vS "=9B" 914,vS "=9C" 918,vS "=9D" 922,vS "=9E" 926,vS "=9F" 930,vS "=A0" 934,vS "=A1" 938,vS "=A2" 942,vS "=A3" 946,vS "=A4" 950,vS "=A5" 954,vS "=A6" 958,vS "=A7" 962,vS "=A8" 966,vS "=A9" 970,vS "=AA" 974,vS "=AB" 978,vS "=AC" 982,vS "=AD" 986,vS "=AE" 990,vS "=AF" 994,vS "=B0" 998,vS "=B1" 1002,vS "=B2" 1006,vS "=B3" 1010,vS "=B4" 1014,vS "=B5" 1018,vS "=B6" 1022,vS "=B7" 1026,vS "=B8" 1030,vS "=B9" 1034,vS "=BA" 1038,vS "=BB" 1042,vS "=BC" 1046,vS "=BD" 1050,vS "=BE" 1054,vS "=BF" 1058,vS "=C0" 1062,vS "=C1" 1066,vS "=C2" 1070,vS "=C3" 1074,vS "=C4" 1078,vS "=C5" 1082,vS "=C6" 1086,vS "=C7" 1090,vS "=C8" 1094,vS "=C9" 1098,vS "=CA" 1102,vS "=CB" 1106,vS "=CC" 1110,vS "=CD" 1114,vS "=CE" 1118,vS "=CF" 1122,vS "=D0" 1126,vS "=D1" 1130,vS "=D2" 1134,vS "=D3" 1138,vS "=D4" 1142,vS "=D5" 1146,vS "=D6" 1150,vS "=D7" 1154,vS "=D8" 1158,vS "=D9" 1162,vS "=DA" 1166,vS "=DB" 1170,vS "=DC" 1174,vS "=DD" 1178,vS "=DE" 1182,vS "=DF" 1186,vS "=E0" 1190,vS "=E1" 1194,vS "=E2" 1198,vS "=E3" 1202,vS "=E4" 1206,vS "=E5" 1210,vS "=E6" 1214,vS "=E7" 1218,vS "=E8" 1222,vS "=E9" 1226,vS "=EA" 1230,vS "=EB" 1234,vS "=EC" 1238,vS "=ED" 1242,vS "=EE" 1246,vS "=EF" 1250,vS "=F0" 1254,vS "=F1" 1258,vS "=F2" 1262,vS "=F3" 1266,vS "=F4" 1270,vS "=F5" 1274,vS "=F6" 1278,vS "=F7" 1282,vS "=F8" 1286,vS "=F9" 1290,vS "=FA" 1294,vS "=FB" 1298,vS "=FC" 1302,vS "=FD" 1306,vS "=FE" 1310,vS "=FF" 1314] 256) #[]
noncomputable def ko61 (_:Params):Obj:=Obj.mk (Value.type "code") none (Data.fields #[vS "unquote" 1830,vS "unquote" 1831,vS "/claim/cut.py" 1832,Value.int 20 0,Value.int 1 0,Value.int 0 0,Value.int 0 0,Value.int 3 0,vR 56,Value.bool true,Value.int 273 0,vR 57,Value.none,vR 58,vR 59,vR 60,Value.int 1834 0,Value.int 20 0,vS "/claim/cut.py" 1835]) #[]
noncomputable def ko62 (_:Params):Obj:=kFn S_unquote "unquote" "unquote" (Value.none) "cpy313.email.quoprimime" 1331 61
noncomputable def ko68 (_:Params):Obj:=Obj.mk (Value.type "code") none (Data.fields #[vS "quote" 1837,vS "quote" 1838,vS "/claim/cut.py" 1839,Value.int 22 0,Value.int 1 0,Value.int 0 0,Value.int 0 0,Value.int 3 0,vR 63,Value.bool true,Value.int 273 0,vR 64,Value.none,vR 65,vR 66,vR 67,Value.int 1841 0,Value.int 22 0,vS "/claim/cut.py" 1842]) #[]
noncomputable def ko69 (_:Params):Obj:=kFn zgb "quote" "quote" (Value.none) "cpy313.email.quoprimime" 1331 68
noncomputable def ko75 (_:Params):Obj:=Obj.mk (Value.type "tuple") none (Data.seq #[vS "\n" 286]) #[]
noncomputable def ko81 (_:Params):Obj:=Obj.mk (Value.type "code") none (Data.fields #[vS "decode" 1852,vS "decode" 1853,vS "/claim/cut.py" 1854,Value.int 28 0,Value.int 2 0,Value.int 0 0,Value.int 0 0,Value.int 3 0,vR 76,Value.bool true,Value.int 273 0,vR 77,Value.none,vR 78,vR 79,vR 80,Value.int 1862 0,Value.int 28 0,vS "/claim/cut.py" 1863]) #[]
noncomputable def ko82 (_:Params):Obj:=kFn zdm "decode" "decode" (vR 75) "cpy313.email.quoprimime" 1331 81
noncomputable def ko95 (_:Params):Obj:=Obj.mk (Value.type "code") none (Data.fields #[vS "_index" 1875,vS "_index" 1876,vS "/claim/cut.py" 1877,Value.int 64 0,Value.int 2 0,Value.int 0 0,Value.int 0 0,Value.int 3 0,vR 90,Value.bool true,Value.int 273 0,vR 91,Value.none,vR 92,vR 93,vR 94,Value.int 1880 0,Value.int 64 0,vS "/claim/cut.py" 1881]) #[]
noncomputable def ko96 (_:Params):Obj:=kFn zgd "_index" "_index" (Value.none) "io" 1865 95
noncomputable def ko122 (_:Params):Obj:=Obj.mk (Value.type "code") none (Data.fields #[vS "__new__" 1919,vS "IOBase.__new__" 1920,vS "/claim/cut.py" 1921,Value.int 76 0,Value.int 1 0,Value.int 1 0,Value.int 0 0,Value.int 15 0,vR 117,Value.bool true,Value.int 273 0,vR 118,Value.none,vR 119,vR 120,vR 121,Value.int 1925 0,Value.int 76 0,vS "/claim/cut.py" 1926]) #[]
noncomputable def ko123 (_:Params):Obj:=kFn z0c "__new__" "IOBase.__new__" (Value.none) "io" 1865 122
noncomputable def ko125 (P:Params):Obj:=Obj.mk (Value.type "dict") none (Data.dict #[dE P "__module__" 1912 (vS "io" 1917),dE P "__firstlineno__" 1916 (Value.int 73 1915),dE P "__new__" 1927 (vR 127),dE P "__static_attributes__" 1928 (vR 124),dE P "__dict__" 1931 (vR 128),dE P "__weakref__" 1933 (vR 129),dE P "__doc__" 1934 Value.none] 4) #[]
noncomputable def ko126 (_:Params):Obj:=Obj.mk (Value.type "type") none (Data.cls (ClassData.mk (Str.ofString "IOBase") [Value.type "object"] [vR 126,Value.type "object"] 125 (Str.ofString "IOBase") true [] [vR 141,vR 153] false none false)) #[none,none,some (vS "IOBase" 1905),some (vS "IOBase" 1913),some Value.none,some (Value.bool true)]
noncomputable def ko127 (_:Params):Obj:=Obj.mk (Value.type "staticmethod") none (Data.fields #[vR 123]) #[]
noncomputable def ko152 (P:Params):Obj:=Obj.mk (Value.type "dict") none (Data.dict #[dE P "__module__" 1962 (vS "io" 1967),dE P "__firstlineno__" 1966 (Value.int 82 1965),dE P "__static_attributes__" 1969 (vR 151),dE P "__doc__" 1970 Value.none] 2) #[]
noncomputable def ko153 (_:Params):Obj:=Obj.mk (Value.type "type") none (Data.cls (ClassData.mk (Str.ofString "TextIOBase") [vR 126] [vR 153,vR 126,Value.type "object"] 152 (Str.ofString "TextIOBase") true [] [vR 630] false none false)) #[some (vR 144),none,some (vS "TextIOBase" 1955),some (vS "TextIOBase" 1963),some Value.none,some (Value.bool true)]
noncomputable def ko383 (_:Params):Obj:=Obj.mk (Value.type "type") none (Data.cls (ClassData.mk (Str.ofString "BytesIO") [vR 141] [vR 383,vR 141,vR 126,Value.type "object"] 382 (Str.ofString "BytesIO") true [] [] false none false)) #[some (vR 156),none,some (vS "BytesIO" 1973),some (vS "BytesIO" 1981),some Value.none,some (Value.bool true)]
noncomputable def ko393 (_:Params):Obj:=Obj.mk (Value.type "tuple") none (Data.seq #[vS "" 2249,vS "\n" 2250]) #[]
noncomputable def ko399 (_:Params):Obj:=Obj.mk (Value.type "code") none (Data.fields #[vS "__init__" 2251,vS "StringIO.__init__" 2252,vS "/claim/cut.py" 2253,Value.int 257 0,Value.int 3 0,Value.int 0 0,Value.int 0 0,Value.int 3 0,vR 394,Value.bool true,Value.int 273 0,vR 395,Value.none,vR 396,vR 397,vR 398,Value.int 2257 0,Value.int 257 0,vS "/claim/cut.py" 2258]) #[]
noncomputable def ko400 (_:Params):Obj:=kFn zga "__init__" "StringIO.__init__" (vR 393) "io" 1865 399
noncomputable def ko406 (_:Params):Obj:=Obj.mk (Value.type "code") none (Data.fields #[vS "__translated" 2260,vS "StringIO.__translated" 2261,vS "/claim/cut.py" 2262,Value.int 270 0,Value.int 2 0,Value.int 0 0,Value.int 0 0,Value.int 3 0,vR 401,Value.bool true,Value.int 273 0,vR 402,Value.none,vR 403,vR 404,vR 405,Value.int 2266 0,Value.int 270 0,vS "/claim/cut.py" 2267]) #[]
noncomputable def ko407 (_:Params):Obj:=kFn zb0 "__translated" "StringIO.__translated" (Value.none) "io" 1865 406
noncomputable def ko413 (_:Params):Obj:=Obj.mk (Value.type "code") none (Data.fields #[vS "__check" 2269,vS "StringIO.__check" 2270,vS "/claim/cut.py" 2271,Value.int 278 0,Value.int 1 0,Value.int 0 0,Value.int 0 0,Value.int 3 0,vR 408,Value.bool true,Value.int 273 0,vR 409,Value.none,vR 410,vR 411,vR 412,Value.int 2273 0,Value.int 278 0,vS "/claim/cut.py" 2274]) #[]
noncomputable def ko414 (_:Params):Obj:=kFn zge "__check" "StringIO.__check" (Value.none) "io" 1865 413
noncomputable def ko427 (_:Params):Obj:=Obj.mk (Value.type "code") none (Data.fields #[vS "__line" 2283,vS "StringIO.__line" 2284,vS "/claim/cut.py" 2285,Value.int 286 0,Value.int 2 0,Value.int 0 0,Value.int 0 0,Value.int 3 0,vR 422,Value.bool true,Value.int 273 0,vR 423,Value.none,vR 424,vR 425,vR 426,Value.int 2295 0,Value.int 286 0,vS "/claim/cut.py" 2296]) #[]
noncomputable def ko428 (_:Params):Obj:=kFn zk5 "__line" "StringIO.__line" (Value.none) "io" 1865 427
noncomputable def ko569 (_:Params):Obj:=Obj.mk (Value.type "tuple") none (Data.seq #[Value.int (-1) 2442]) #[]
noncomputable def ko575 (_:Params):Obj:=Obj.mk (Value.type "code") none (Data.fields #[vS "read" 2443,vS "StringIO.read" 2444,vS "/claim/cut.py" 2445,Value.int 400 0,Value.int 2 0,Value.int 2 0,Value.int 0 0,Value.int 3 0,vR 570,Value.bool true,Value.int 273 0,vR 571,Value.none,vR 572,vR 573,vR 574,Value.int 2450 0,Value.int 400 0,vS "/claim/cut.py" 2451]) #[]
noncomputable def ko576 (_:Params):Obj:=kFn zk4 "read" "StringIO.read" (vR 569) "io" 1865 575
noncomputable def ko577 (_:Params):Obj:=Obj.mk (Value.type "tuple") none (Data.seq #[Value.int (-1) 2454]) #[]
noncomputable def ko583 (_:Params):Obj:=Obj.mk (Value.type "code") none (Data.fields #[vS "readline" 2455,vS "StringIO.readline" 2456,vS "/claim/cut.py" 2457,Value.int 414 0,Value.int 2 0,Value.int 2 0,Value.int 0 0,Value.int 3 0,vR 578,Value.bool true,Value.int 273 0,vR 579,Value.none,vR 580,vR 581,vR 582,Value.int 2460 0,Value.int 414 0,vS "/claim/cut.py" 2461]) #[]
noncomputable def ko584 (_:Params):Obj:=kFn zcn "readline" "StringIO.readline" (vR 577) "io" 1865 583
noncomputable def ko629 (P:Params):Obj:=Obj.mk (Value.type "dict") none (Data.dict #[dE P "__module__" 2242 (vS "_io" 2247),dE P "__firstlineno__" 2246 (Value.int 254 2245),dE P "__init__" 2259 (vR 400),dE P "_StringIO__translated" 2268 (vR 407),dE P "_StringIO__check" 2275 (vR 414),dE P "_StringIO__check_dot" 2282 (vR 421),dE P "_StringIO__line" 2297 (vR 428),dE P "closed" 2305 (vR 436),dE P "line_buffering" 2313 (vR 444),dE P "newlines" 2321 (vR 452),dE P "encoding" 2329 (vR 460),dE P "errors" 2337 (vR 468),dE P "close" 2344 (vR 475),dE P "__enter__" 2351 (vR 482),dE P "__exit__" 2359 (vR 489),dE P "readable" 2366 (vR 496),dE P "writable" 2373 (vR 503),dE P "seekable" 2380 (vR 510),dE P "isatty" 2387 (vR 517),dE P "flush" 2394 (vR 524),dE P "fileno" 2401 (vR 531),dE P "detach" 2408 (vR 538),dE P "getvalue" 2415 (vR 545),dE P "tell" 2422 (vR 552),dE P "seek" 2432 (vR 560),dE P "truncate" 2440 (vR 568),dE P "read" 2452 (vR 576),dE P "readline" 2462 (vR 584),dE P "readlines" 2472 (vR 592),dE P "__iter__" 2479 (vR 599),dE P "__next__" 2487 (vR 606),dE P "write" 2499 (vR 613),dE P "writelines" 2507 (vR 620),dE P "__repr__" 2514 (vR 627),dE P "__static_attributes__" 2518 (vR 628),dE P "__doc__" 2519 Value.none] 2) #[]
noncomputable def ko630 (_:Params):Obj:=Obj.mk (Value.type "type") none (Data.cls (ClassData.mk (Str.ofString "StringIO") [vR 153] [vR 630,vR 153,vR 126,Value.type "object"] 629 (Str.ofString "StringIO") true [] [] false none false)) #[some (vR 386),none,some (vS "StringIO" 2235),some (vS "StringIO" 2243),some Value.none,some (Value.bool true)]
noncomputable def ko682 (_:Params):Obj:=Obj.mk (Value.type "tuple") none (Data.seq #[Value.none,Value.none,Value.bool false,Value.bool false]) #[]
noncomputable def ko688 (_:Params):Obj:=Obj.mk (Value.type "code") none (Data.fields #[vS "__init__" 2594,vS "shlex.__init__" 2595,vS "/claim/cut.py" 2596,Value.int 525 0,Value.int 5 0,Value.int 0 0,Value.int 0 0,Value.int 3 0,vR 683,Value.bool true,Value.int 273 0,vR 684,Value.none,vR 685,vR 686,vR 687,Value.int 2603 0,Value.int 525 0,vS "/claim/cut.py" 2604]) #[]
noncomputable def ko689 (_:Params):Obj:=kFn zb1 "__init__" "shlex.__init__" (vR 682) "cpy313.shlex" 2580 688
noncomputable def ko695 (_:Params):Obj:=Obj.mk (Value.type "code") none (Data.fields #[vS "punctuation_chars" 2606,vS "shlex.punctuation_chars" 2607,vS "/claim/cut.py" 2608,Value.int 566 0,Value.int 1 0,Value.int 0 0,Value.int 0 0,Value.int 3 0,vR 690,Value.bool true,Value.int 273 0,vR 691,Value.none,vR 692,vR 693,vR 694,Value.int 2610 0,Value.int 566 0,vS "/claim/cut.py" 2611]) #[]
noncomputable def ko696 (_:Params):Obj:=kFn zgc "punctuation_chars" "shlex.punctuation_chars" (Value.none) "cpy313.shlex" 2580 695
noncomputable def ko697 (_:Params):Obj:=Obj.mk (Value.type "property") none (Data.fields #[vR 696,Value.none,Value.none,Value.none,vS "punctuation_chars" 2613,Value.bool false]) #[]
noncomputable def ko725 (_:Params):Obj:=Obj.mk (Value.type "code") none (Data.fields #[vS "get_token" 2638,vS "shlex.get_token" 2639,vS "/claim/cut.py" 2640,Value.int 593 0,Value.int 1 0,Value.int 0 0,Value.int 0 0,Value.int 3 0,vR 720,Value.bool true,Value.int 273 0,vR 721,Value.none,vR 722,vR 723,vR 724,Value.int 2647 0,Value.int 593 0,vS "/claim/cut.py" 2648]) #[]
noncomputable def ko726 (_:Params):Obj:=kFn zb2 "get_token" "shlex.get_token" (Value.none) "cpy313.shlex" 2580 725
noncomputable def ko732 (_:Params):Obj:=Obj.mk (Value.type "code") none (Data.fields #[vS "read_token" 2650,vS "shlex.read_token" 2651,vS "/claim/cut.py" 2652,Value.int 620 0,Value.int 1 0,Value.int 0 0,Value.int 0 0,Value.int 3 0,vR 727,Value.bool true,Value.int 273 0,vR 728,Value.none,vR 729,vR 730,vR 731,Value.int 2658 0,Value.int 620 0,vS "/claim/cut.py" 2659]) #[]
noncomputable def ko733 (_:Params):Obj:=kFn zbe "read_token" "shlex.read_token" (Value.none) "cpy313.shlex" 2580 732
noncomputable def ko754 (_:Params):Obj:=Obj.mk (Value.type "code") none (Data.fields #[vS "__iter__" 2678,vS "shlex.__iter__" 2679,vS "/claim/cut.py" 2680,Value.int 767 0,Value.int 1 0,Value.int 0 0,Value.int 0 0,Value.int 3 0,vR 749,Value.bool true,Value.int 273 0,vR 750,Value.none,vR 751,vR 752,vR 753,Value.int 2682 0,Value.int 767 0,vS "/claim/cut.py" 2683]) #[]
noncomputable def ko755 (_:Params):Obj:=kFn zk6 "__iter__" "shlex.__iter__" (Value.none) "cpy313.shlex" 2580 754
noncomputable def ko761 (_:Params):Obj:=Obj.mk (Value.type "code") none (Data.fields #[vS "__next__" 2685,vS "shlex.__next__" 2686,vS "/claim/cut.py" 2687,Value.int 770 0,Value.int 1 0,Value.int 0 0,Value.int 0 0,Value.int 3 0,vR 756,Value.bool true,Value.int 273 0,vR 757,Value.none,vR 758,vR 759,vR 760,Value.int 2690 0,Value.int 770 0,vS "/claim/cut.py" 2691]) #[]
noncomputable def ko762 (_:Params):Obj:=kFn zvt "__next__" "shlex.__next__" (Value.none) "cpy313.shlex" 2580 761
noncomputable def ko764 (P:Params):Obj:=Obj.mk (Value.type "dict") none (Data.dict #[dE P "__module__" 2589 (vS "cpy313.shlex" 2580),dE P "__firstlineno__" 2593 (Value.int 523 2592),dE P "__init__" 2605 (vR 689),dE P "punctuation_chars" 2613 (vR 697),dE P "push_token" 2621 (vR 704),dE P "push_source" 2630 (vR 712),dE P "pop_source" 2637 (vR 719),dE P "get_token" 2649 (vR 726),dE P "read_token" 2660 (vR 733),dE P "sourcehook" 2668 (vR 740),dE P "error_leader" 2677 (vR 748),dE P "__iter__" 2684 (vR 755),dE P "__next__" 2692 (vR 762),dE P "__static_attributes__" 2713 (vR 763),dE P "__dict__" 2715 (vR 766),dE P "__weakref__" 2717 (vR 767),dE P "__doc__" 2718 Value.none] 4) #[]
noncomputable def ko765 (_:Params):Obj:=Obj.mk (Value.type "type") none (Data.cls (ClassData.mk (Str.ofString "shlex") [Value.type "object"] [vR 765,Value.type "object"] 764 (Str.ofString "shlex") true [] [] false none false)) #[none,none,some (vS "shlex" 2582),some (vS "shlex" 2590),some (Value.builtin "object.__new__"),some (Value.bool true)]
noncomputable def ko770 (_:Params):Obj:=Obj.mk (Value.type "tuple") none (Data.seq #[Value.bool false,Value.bool true]) #[]
noncomputable def ko776 (_:Params):Obj:=Obj.mk (Value.type "code") none (Data.fields #[vS "split" 2721,vS "split" 2722,vS "/claim/cut.py" 2723,Value.int 775 0,Value.int 3 0,Value.int 0 0,Value.int 0 0,Value.int 3 0,vR 771,Value.bool true,Value.int 273 0,vR 772,Value.none,vR 773,vR 774,vR 775,Value.int 2728 0,Value.int 775 0,vS "/claim/cut.py" 2729]) #[]
noncomputable def ko777 (_:Params):Obj:=kFn zf9 "split" "split" (vR 770) "cpy313.shlex" 2580 776
noncomputable def ko783 (_:Params):Obj:=Obj.mk (Value.type "code") none (Data.fields #[vS "_law_units" 2733,vS "_law_units" 2734,vS "/claim/cut.py" 2735,Value.int 784 0,Value.int 1 0,Value.int 0 0,Value.int 0 0,Value.int 3 0,vR 778,Value.bool true,Value.int 273 0,vR 779,Value.none,vR 780,vR 781,vR 782,Value.int 2744 0,Value.int 784 0,vS "/claim/cut.py" 2745]) #[]
noncomputable def ko784 (_:Params):Obj:=kFn zfg "_law_units" "_law_units" (Value.none) "law_oy0352_01" 2731 783
noncomputable def ko788 (_:Params):Obj:=Obj.mk (Value.type "code") none (Data.fields #[vS "_law_plain" 2747,vS "_law_plain" 2748,vS "/claim/cut.py" 2749,Value.int 806 0,Value.int 1 0,Value.int 0 0,Value.int 0 0,Value.int 3 0,vR 785,Value.bool true,Value.int 273 0,vR 786,Value.none,Value.none,Value.none,vR 787,Value.int 2750 0,Value.int 806 0,vS "/claim/cut.py" 2751]) #[]
noncomputable def ko789 (_:Params):Obj:=kFn zem "_law_plain" "_law_plain" (Value.none) "law_oy0352_01" 2731 788
noncomputable def ko795 (_:Params):Obj:=Obj.mk (Value.type "code") none (Data.fields #[vS "_law_quoted" 2753,vS "_law_quoted" 2754,vS "/claim/cut.py" 2755,Value.int 814 0,Value.int 4 0,Value.int 0 0,Value.int 0 0,Value.int 3 0,vR 790,Value.bool true,Value.int 273 0,vR 791,Value.none,vR 792,vR 793,vR 794,Value.int 2763 0,Value.int 814 0,vS "/claim/cut.py" 2764]) #[]
noncomputable def ko796 (_:Params):Obj:=kFn zdl "_law_quoted" "_law_quoted" (Value.none) "law_oy0352_01" 2731 795
noncomputable def ko802 (_:Params):Obj:=Obj.mk (Value.type "code") none (Data.fields #[vS "_law_words" 2766,vS "_law_words" 2767,vS "/claim/cut.py" 2768,Value.int 827 0,Value.int 3 0,Value.int 0 0,Value.int 0 0,Value.int 3 0,vR 797,Value.bool true,Value.int 273 0,vR 798,Value.none,vR 799,vR 800,vR 801,Value.int 2778 0,Value.int 827 0,vS "/claim/cut.py" 2779]) #[]
noncomputable def ko803 (_:Params):Obj:=kFn zff "_law_words" "_law_words" (Value.none) "law_oy0352_01" 2731 802
noncomputable def ko807 (_:Params):Obj:=Obj.mk (Value.type "code") none (Data.fields #[vS "law" 2781,vS "law" 2782,vS "/claim/cut.py" 2783,Value.int 863 0,Value.int 1 0,Value.int 0 0,Value.int 0 0,Value.int 3 0,vR 804,Value.bool true,Value.int 273 0,vR 805,Value.none,Value.none,Value.none,vR 806,Value.int 2784 0,Value.int 863 0,vS "/claim/cut.py" 2785]) #[]
noncomputable def ko808 (_:Params):Obj:=kFn zhh "law" "law" (Value.none) "law_oy0352_01" 2731 807
noncomputable def KO (P:Params):Frag:=[(2,ko2 P),(3,ko3 P),(42,ko42 P),(61,ko61 P),(62,ko62 P),(68,ko68 P),(69,ko69 P),(75,ko75 P),(81,ko81 P),(82,ko82 P),(95,ko95 P),(96,ko96 P),(122,ko122 P),(123,ko123 P),(125,ko125 P),(126,ko126 P),(127,ko127 P),(152,ko152 P),(153,ko153 P),(383,ko383 P),(393,ko393 P),(399,ko399 P),(400,ko400 P),(406,ko406 P),(407,ko407 P),(413,ko413 P),(414,ko414 P),(427,ko427 P),(428,ko428 P),(569,ko569 P),(575,ko575 P),(576,ko576 P),(577,ko577 P),(583,ko583 P),(584,ko584 P),(629,ko629 P),(630,ko630 P),(682,ko682 P),(688,ko688 P),(689,ko689 P),(695,ko695 P),(696,ko696 P),(697,ko697 P),(725,ko725 P),(726,ko726 P),(732,ko732 P),(733,ko733 P),(754,ko754 P),(755,ko755 P),(761,ko761 P),(762,ko762 P),(764,ko764 P),(765,ko765 P),(770,ko770 P),(776,ko776 P),(777,ko777 P),(783,ko783 P),(784,ko784 P),(788,ko788 P),(789,ko789 P),(795,ko795 P),(796,ko796 P),(802,ko802 P),(803,ko803 P),(807,ko807 P),(808,ko808 P)]
noncomputable def KA:List Addr:=[2,3,42,61,62,68,69,75,81,82,95,96,122,123,125,126,127,152,153,383,393,399,400,406,407,413,414,427,428,569,575,576,577,583,584,629,630,682,688,689,695,696,697,725,726,732,733,754,755,761,762,764,765,770,776,777,783,784,788,789,795,796,802,803,807,808]
theorem ka_eq:∀ P,KA = (KO P).map (·.1):=fun _=>by kernel_rfl
section
set_option maxHeartbeats 0
noncomputable def seg (l:List Stmt):Nat→Nat→List Stmt
 | _,0=>[]
 | i,n + 1=>nthS l i::seg l (i + 1) n
noncomputable abbrev hEnv:Env:={ scope:=thePw.main.scope,locals:=mainNs,globals:=mainNs,cells:=[],code:=.ref 31,frame:=some 32 }
noncomputable abbrev z3q:List Stmt:=thePw.main.body
noncomputable abbrev ze9:Code:=.body (behindTheImports thePw) hEnv
noncomputable abbrev hP0:Pos:=⟨0,0,0,0⟩
noncomputable abbrev hB:List Frame:=[topFrame hP0]
noncomputable abbrev hP1:Pos:=⟨6,0,6,11⟩
noncomputable abbrev hP2:Pos:=⟨18,9,18,110⟩
noncomputable abbrev hP3:Pos:=⟨863,0,881,22⟩
noncomputable abbrev hL1:List Stmt:=seg z3q 1 3
noncomputable abbrev hL2:List Stmt:=seg z3q 4 11
noncomputable abbrev hL3:List Stmt:=seg z3q 15 31
noncomputable abbrev rC:String := "comprehension-iter-twice"
noncomputable abbrev rS:String := "special-get-raises"
noncomputable abbrev hQ:Program:={ thePw with main:={ thePw.main with body:=seg z3q 0 1++seg z3q 45 1 } }
noncomputable abbrev zxd:List Str:=List.map Str.ofString ["_wall", "NL", "_QUOPRI_MAP", "_QUOPRI_HEADER_MAP", "_QUOPRI_BODY_MAP", "ascii_lowercase", "ascii_uppercase", "ascii_letters", "digits", "hexdigits", "unquote", "quote", "_QUOPRI_BODY_ENCODE_MAP", "decode", "_whence", "_index", "UnsupportedOperation", "IOBase", "BufferedIOBase", "TextIOBase", "BytesIO", "StringIO", "_kind", "_fspath", "_check_arg_types", "isabs", "join", "dirname", "shlex", "split", "_law_units", "_law_plain", "_law_quoted", "_law_words"]
theorem h_size (w:World):((hH0 w.params).isNs mainGlobals && (Array.mk []:Array GenState).size == 0,(hH0 w.params).objs.size,(hH0 w.params).nsMap mainGlobals "__annotations__") = (true,29,some (.ref 6)):=by
 rw [te8920871248978507458]
 kernel_rfl
theorem h_pre (w:World) (os:OsState):topGo treeTable thePw w 29 (some (.ref 6)) 12 (hS00 w.params os) (topStub thePw) = some (hSA w.params os,⟨denote treeTable ze9,ze9,hP0,hB⟩):=by
 rw [te15667345088766844465,te14364793385576792824,te11892475500146522536]
 kernel_rfl
theorem h_block (w:World) (os:OsState):segRun treeTable thePw w 29 (some (.ref 6)) 1 1 (hSA w.params os) (blockOf (behindTheImports thePw) hEnv ze9 hP0 hB) = some (.next,(hSa w.params os).abs,ze9,hP0):=by
 rw [te14374325043358763698,te14364793385576792824]
 kernel_rfl
end
section
set_option maxHeartbeats 0
theorem h_open (w:World):(fencedOpening treeTable thePw w 44576).map (fun s=>(s.heap,s.gens,s.drawn,s.toks)) = some (hH0 w.params,(Array.mk []:Array GenState),hdr0,htk0):=by
 unfold fencedOpening
 rw [te10274390034422433532,te14364793385576792824,te1435165496053646825,te14289696077712309145]
 kernel_rfl
end
section
set_option maxHeartbeats 0
noncomputable abbrev offW (w:World):World:=(w.withFollow rS false).withFollow rC false
noncomputable def A1 (w:World):Prop:=(fun os=>segGoT treeTable thePw w 29 (some (.ref 6)) 1 (bif w.params.followText rC then 90 else 100) (hSa w.params os) (piecesOf hL1 hEnv ze9 hP0 hB)) = fun os=>segGoT treeTable thePw (offW w) 29 (some (.ref 6)) 1 100 (hSa w.params os) (piecesOf hL1 hEnv ze9 hP0 hB)
theorem a1_ff (w:World):A1 ((w.withFollow rS false).withFollow rC false):=by
 unfold A1
 rw [te10295753902157049106,te14364793385576792824]
 kernel_rfl
theorem a1_ft (w:World):A1 ((w.withFollow rS false).withFollow rC true):=by
 unfold A1
 rw [te10295753902157049106,te14364793385576792824]
 kernel_rfl
theorem a1_tf (w:World):A1 ((w.withFollow rS true).withFollow rC false):=by
 unfold A1
 rw [te10295753902157049106,te14364793385576792824]
 kernel_rfl
theorem a1_tt (w:World):A1 ((w.withFollow rS true).withFollow rC true):=by
 unfold A1
 rw [te10295753902157049106,te14364793385576792824]
 kernel_rfl
theorem a_one:∀ w:World,A1 w:=byRow2 rC (byRow2 rS a1_ff a1_tf) (byRow2 rS a1_ft a1_tt)
theorem b_one (w:World):(fun os=>(segGoT treeTable thePw (offW w) 29 (some (.ref 6)) 1 100 (hSa w.params os) (piecesOf hL1 hEnv ze9 hP0 hB)).bind fun q=>segRunT treeTable thePw w 29 (some (.ref 6)) 1 9500 q.1 q.2) = fun os=>some (.next,hS1 w.params os,ze9,hP1):=by
 rw [te10295753902157049106,te10110043849684766642,te14364793385576792824]
 kernel_rfl
noncomputable def P1 (w:World):Prop:=(fun os=>segRunT treeTable thePw w 29 (some (.ref 6)) 1 9700 (hSa w.params os) (piecesOf hL1 hEnv ze9 hP0 hB)) = fun os=>some (.next,hS1 w.params os,ze9,hP1)
theorem h_one (w:World):P1 w:=funext fun os=>by
 have e:=congrFun (b_one w) os
 rw [← congrFun (a_one w) os] at e
 have:=zoq e
 revert this
 cases w.params.followText rC
 ·exact zqf 100
 ·exact zqf 110
end
section
set_option maxHeartbeats 0
noncomputable abbrev x1 (w:World) (os:OsState):=segGoT treeTable thePw w 29 (some (.ref 6)) 1 169 (hS1 w.params os) (piecesOf hL2 hEnv ze9 hP1 hB)
noncomputable abbrev y1 (b:Bool) (w:World) (os:OsState):=(x1 w os).bind fun q=>segGoT treeTable thePw (w.withFollow rS b) 29 (some (.ref 6)) 1 10 q.1 q.2
noncomputable abbrev x3 (w:World) (os:OsState):=(y1 false w os).bind fun q=>segGoT treeTable thePw w 29 (some (.ref 6)) 1 3056 q.1 q.2
noncomputable abbrev y3 (b:Bool) (w:World) (os:OsState):=(x3 w os).bind fun q=>segGoT treeTable thePw (w.withFollow rS b) 29 (some (.ref 6)) 1 10 q.1 q.2
noncomputable abbrev z3 (w:World) (os:OsState):=(y3 false w os).bind fun q=>segRunT treeTable thePw w 29 (some (.ref 6)) 1 4655 q.1 q.2
theorem c_two (w:World):(fun os=>(y1 true w os,y3 true w os,z3 w os)) = fun os=>(y1 false w os,y3 false w os,some (.next,hS2 w.params os,ze9,hP2)):=by
 unfold z3 y3 x3 y1 x1
 rw [te10295753902157049106,te10110043849684766642,te14364793385576792824]
 kernel_rfl
noncomputable def P2 (w:World):Prop:=(fun os=>segRunT treeTable thePw w 29 (some (.ref 6)) 1 7900 (hS1 w.params os) (piecesOf hL2 hEnv ze9 hP1 hB)) = fun os=>some (.next,hS2 w.params os,ze9,hP2)
theorem h_two (w:World):P2 w:=funext fun os=>by
 obtain ⟨e1,e3,e⟩:_∧_∧_:=by simpa only [Prod.mk.injEq] using congrFun (c_two w) os
 unfold z3 at e
 unfold y3 at e3 e
 rw [way_ e3] at e
 replace e:=zji e
 unfold x3 at e
 replace e:=zji e
 unfold y1 at e1 e
 rw [way_ e1] at e
 exact zoq (zji e)
end
section
set_option maxHeartbeats 0
noncomputable abbrev x5 (w:World) (os:OsState):=segGoT treeTable thePw w 29 (some (.ref 6)) 1 88 (hS2 w.params os) (piecesOf hL3 hEnv ze9 hP2 hB)
noncomputable abbrev y5 (b:Bool) (w:World) (os:OsState):=(x5 w os).bind fun q=>segGoT treeTable thePw (w.withFollow rS b) 29 (some (.ref 6)) 1 10 q.1 q.2
noncomputable abbrev F3 (w:World) (r:Flow×SharedT×Code×Pos):=(r.1,r.2.2,(staticsOk (importedModules thePw.main.body) (hH0 w.params) r.2.1.abs.heap && namesBound thePw r.2.1.abs.heap && gensDone r.2.1.abs && laidKept (hH0 w.params) r.2.1.abs.heap),
  openSeen hQ zxd (importedModules thePw.main.body) (fun _=>true) true r.2.1.abs,KA.map r.2.1.abs.heap.get?)
noncomputable abbrev V3 (w:World):=some (Flow.next,(ze9,hP3),true,openGood hQ zxd,(KO w.params).map fun p=>some p.2)
theorem c_three (w:World):(fun os=>(y5 true w os,((y5 false w os).bind fun q=>segRunT treeTable thePw w 29 (some (.ref 6)) 1 5102 q.1 q.2).map (F3 w))) = fun os=>(y5 false w os,V3 w):=by
 unfold y5 x5 F3
 rw [te10295753902157049106,te10110043849684766642,te14364793385576792824,te4187177175401517315,te5923862056798008813]
 kernel_rfl
noncomputable def P3 (w:World):Prop:=(fun os=>(segRunT treeTable thePw w 29 (some (.ref 6)) 1 5200 (hS2 w.params os) (piecesOf hL3 hEnv ze9 hP2 hB)).map (F3 w)) = fun _=>V3 w
theorem h_three (w:World):P3 w:=funext fun os=>by
 obtain ⟨e5,e⟩:_∧_:=by simpa only [Prod.mk.injEq] using congrFun (c_three w) os
 obtain ⟨r,e,e'⟩:=Option.map_eq_some_iff.mp e
 unfold y5 at e5 e
 rw [way_ e5] at e
 exact Option.map_eq_some_iff.mpr ⟨r,zoq (zji e),e'⟩
end
theorem gl_KO (K:Wd):Gl K where
 hexdigits:=by kernel_rfl
 unquote:=by kernel_rfl
 chr:=by kernel_rfl
 len:=by kernel_rfl
 int:=by kernel_rfl
 bool:=by kernel_rfl
 str:=by kernel_rfl
 type:=by kernel_rfl
 list:=by kernel_rfl
 ord:=by kernel_rfl
 isinstance:=by kernel_rfl
 map:=by kernel_rfl
 index:=by kernel_rfl
 deque:=by kernel_rfl
 stringIO:=by kernel_rfl
 shlex:=by kernel_rfl
 quote:=by kernel_rfl
 quoted:=by kernel_rfl
 valueError:=by kernel_rfl
 stop:=by kernel_rfl
theorem gw_KO (K:Wd):Gw K where
 units:=by kernel_rfl
 plain:=by kernel_rfl
 words:=by kernel_rfl
 split:=by kernel_rfl
 decode:=by kernel_rfl
 sum:=by kernel_rfl
 range:=by kernel_rfl
noncomputable def qList (P:Params):List Value:=match ko42 P with
 | ⟨_,_,.seq vs _,_⟩=>vs.toList
 | _=>[]
noncomputable def strOf:Option V→List Nat
 | some (.str l)=>l
 | _=>[]
theorem zye {o:Option V} {l:List Nat} (h:strOf o = l) (hl:l≠[]):o = some (.str l):=by
 cases o with
 | none=>exact absurd (show l = [] from h.symm) hl
 | some v=>cases v with
   | str x=>exact congrArg (fun z=>some (V.str z)) h
   | _=>exact absurd (show l = [] from h.symm) hl
theorem q_top (P:Params):topList (KO P) 42 = some (qList P):=by kernel_rfl
theorem q_all (P:Params):((List.range 256).all fun c=>strOf (((qList P)[c]?).bind zuf) == [61,hxU (c / 16),hxU (c % 16)]) = true:=by kernel_rfl
theorem gq_KO {K:Wd} {P:Params} (h:K.F = KO P):Gq K:=fun c hc=>by
 rw [h,q_top]
 have:=List.all_eq_true.mp (q_all P) c (List.mem_range.mpr hc)
 exact zye (beq_iff_eq.mp this) (by simp)
theorem all_of {α:Type} [BEq α] [LawfulBEq α] {p:α→Bool} {l:List α} (h:l.all p = true) {x:α} (hx:l.contains x = true):p x = true:=List.all_eq_true.mp h x (List.contains_iff_mem.mp hx)
noncomputable def zu0:Option (Option Value)→Bool
 | some none=>true
 | _=>false
theorem zmh {x:Option (Option Value)} (h:zu0 x = true):x = some none:=by
 cases x with
 | none=>cases h
 | some x=>cases x with
   | none=>rfl
   | some _=>cases h
noncomputable def isRef2 (f:Addr):Option (Option Value)→Bool
 | some (some (.ref g))=>g == f
 | _=>false
theorem z3d {f:Addr} {x:Option (Option Value)} (h:isRef2 f x = true):x = some (some (.ref f)):=by
 cases x with
 | none=>cases h
 | some x=>cases x with
   | none=>cases h
   | some v=>cases v with
     | ref a=>rw [beq_iff_eq.mp (show (a == f) = true from h)]
     | _=>cases h
noncomputable def z8x (K:Frag) (C:Addr) (x:Str):Bool:=plainGet K C x && zu0 (findIn K (.ref C) x) && zu0 (takerIn K C x)
noncomputable def z7d (K:Frag) (C:Addr) (x:Str×Addr):Bool:=plainGet K C x.1 && isRef2 x.2 (findIn K (.ref C) x.1) && isFn K (.ref x.2) && keepIn K (.ref x.2)
theorem z8w (P:Params):(lexA.all (z8x (KO P) 765)) = true:=by kernel_rfl
theorem z8v (P:Params):(sioA.all (z8x (KO P) 630)) = true:=by kernel_rfl
theorem z7a (P:Params):(lexM.all (z7d (KO P) 765)) = true:=by kernel_rfl
theorem z69 (P:Params):(sioM.all (z7d (KO P) 630)) = true:=by kernel_rfl
theorem z7p (P:Params):([62,69,82,96,765,630,777,784,789,796,803].all fun a=>keepIn (KO P) (.ref a)) = true:=by kernel_rfl
theorem zfb (P:Params):hasDictIn (KO P) 765 = true∧hasDictIn (KO P) 630 = true∧plainOver (KO P) 765 = true∧plainOver (KO P) 630 = true:=⟨by kernel_rfl,by kernel_rfl,by kernel_rfl,by kernel_rfl⟩
theorem zqb (P:Params):findIn (KO P) (.ref 765) "__setattr__" = some (some (.builtin "object.__setattr__"))∧findIn (KO P) (.ref 630) "__setattr__" = some (some (.builtin "object.__setattr__")):=⟨by kernel_rfl,by kernel_rfl⟩
theorem zud (P:Params):plainGet (KO P) 765 "punctuation_chars" = true∧findIn (KO P) (.ref 765) "punctuation_chars" = some (some (.ref 697))∧specialIn (KO P) (.ref 697) "__get__" = some (some (.builtin "property.__get__"))∧takesIn (KO P) (.ref 697) = some true∧recIn (KO P) 697 "property" = some (.ref 696::[.none,.none,.none,vS "punctuation_chars" 2613,.bool false]):=
 ⟨by kernel_rfl,by kernel_rfl,by kernel_rfl,by kernel_rfl,by kernel_rfl⟩
theorem zzl (P:Params):findIn (KO P) (.ref 765) "__len__" = some none∧findIn (KO P) (.ref 765) "__length_hint__" = some none:=⟨by kernel_rfl,by kernel_rfl⟩
theorem gl_all (P:Params):glL.map (fun p=>zu4 (KO P) p.1) = glL.map fun p=>some p.2:=by kernel_rfl
noncomputable abbrev vN:Value:=.none
noncomputable def zwo (sc:Scope) (xs:List Str):Bool:=sc.names.all (fun x=>x.2 != .cell) && !sc.isCoroutine && !sc.isGenerator && sc.kind == .function && xs.all fun x=>sc.names.lookup x == some .local
section
variable {B:Base} {P:Params}
theorem zbf (hB:B.K = KO P) {a n:Nat} {ns xs:List Str} {S:Stmt} {ps:List Str} {dv:List (Str×V)} {nm q mod:String} {dvv:Value} {t c:Nat} (h1:(KO P).lookup a = some (kFn S nm q dvv mod t c)) (h2:codeIn (KO P) (.ref c) q = true)
  (h3:zwo (zbj S) xs = true)
  (hb:∀ (s:Shared) (ρ:List Cell) (as ws:List V) (vs us:List Value),(KO P).In s.heap→VRs ρ as vs→VRs ρ ws us→as.length = n→ns.length = ws.length→as.length + ws.length = ps.length→
   ∃ binds,BindsTo s (kFd S nm q dvv mod t c) ⟨vs,ns.zip us⟩ binds∧binds.map (·.1) = xs∧∀ x v,(x,v)∈ps.zip (as++ws)++dv→∃ v',binds.reverse.lookup x = some v'∧VR ρ v v') (hk:B.K.In B.h₀):
  FnOk B a n ns (mkFn S ps dv) (kFd S nm q dvv mod t c):=by
 simp only [zwo,Bool.and_eq_true,Bool.not_eq_true',beq_iff_eq,List.all_eq_true,bne_iff_ne,ne_eq] at h3
 obtain ⟨⟨⟨⟨g1,g2⟩,g3⟩,g4⟩,g5⟩:=h3
 refine ⟨⟨_,_,_,by rw [hB]; exact h1⟩,by rw [hB]; exact h2,rfl,rfl,g1,g2,g3,g4,rfl,rfl,fun s ρ as ws vs us m keep rv ru hn hl hm=>?_⟩
 have hm':(if as.length + ws.length = ps.length then some (lk (ps.zip (as++ws)++dv)) else none) = some m:=hm
 obtain ⟨e,hm'⟩:=zaf hm'
 ·cases hm'
  obtain ⟨binds,b1,b2,b3⟩:=hb s ρ as ws vs us (hB ▸ hk.keeps keep) rv ru hn hl e
  refine ⟨binds,b1,fun x hx=>g5 x.1 (b2 ▸ List.mem_map_of_mem hx),fun x v h=>b3 x v (z2l h)⟩
theorem len0 {l:List V} (h:(0:Nat) = l.length):l = []:=List.length_eq_zero_iff.mp h.symm
theorem len1 {l:List V} (h:l.length = 1):∃ a,l = [a]:=List.length_eq_one_iff.mp h
theorem len2 {l:List V} (h:l.length = 2):∃ a b,l = [a,b]:=by
 cases l with
 | nil=>cases h
 | cons a l=>obtain ⟨b,rfl⟩:=len1 (Nat.succ.inj h); exact ⟨a,b,rfl⟩
theorem len3 {l:List V} (h:l.length = 3):∃ a b c,l = [a,b,c]:=by
 cases l with
 | nil=>cases h
 | cons a l=>obtain ⟨b,c,rfl⟩:=len2 (Nat.succ.inj h); exact ⟨a,b,c,rfl⟩
theorem len4 {l:List V} (h:l.length = 4):∃ a b c d,l = [a,b,c,d]:=by
 cases l with
 | nil=>cases h
 | cons a l=>obtain ⟨b,c,d,rfl⟩:=len3 (Nat.succ.inj h); exact ⟨a,b,c,d,rfl⟩
theorem VRs.zero {ρ:List Cell} {ws:List Value} (h:VRs ρ [] ws):ws = []:=by cases ws; rfl; exact h.elim
theorem zz2 (S:Setting) (v0:Value):peek (KO P) S (bindArgs (kFd S_unquote "unquote" "unquote" vN "cpy313.email.quoprimime" 1331 61) ⟨[v0],([]:List Str).zip []⟩) = some [(Str.ofString "s",v0)]:=by kernel_rfl
theorem zzr (hB:B.K = KO P) (hk:B.K.In B.h₀):FnOk B 62 1 [] zk7 (kFd S_unquote "unquote" "unquote" vN "cpy313.email.quoprimime" 1331 61):=by
 refine zbf (S:=S_unquote) (xs:=[Str.ofString "s"]) hB (by kernel_rfl) (by kernel_rfl) (by kernel_rfl) (fun s ρ as ws vs us X rv ru hn hl _=>?_) hk
 obtain ⟨a0,rfl⟩:=len1 hn
 obtain ⟨v0,rfl,h0⟩:=rv.one
 obtain rfl:=len0 hl
 obtain rfl:=ru.zero
 refine ⟨[(Str.ofString "s",v0)],kp_binds X (fun S=>zz2 S v0),rfl,fun x v h=>?_⟩
 simp only [List.zip_cons_cons,List.zip_nil_left,List.zip_nil_right,List.cons_append,List.nil_append,List.mem_cons,List.not_mem_nil,or_false,Prod.mk.injEq] at h
 obtain ⟨rfl,rfl⟩:=h
 ·exact ⟨v0,by kernel_rfl,h0⟩
theorem z9k (S:Setting) (v0:Value):peek (KO P) S (bindArgs (kFd zgb "quote" "quote" vN "cpy313.email.quoprimime" 1331 68) ⟨[v0],([]:List Str).zip []⟩) = some [(Str.ofString "c",v0)]:=by kernel_rfl
theorem z8b (hB:B.K = KO P) (hk:B.K.In B.h₀):FnOk B 69 1 [] zvx (kFd zgb "quote" "quote" vN "cpy313.email.quoprimime" 1331 68):=by
 refine zbf (S:=zgb) (xs:=[Str.ofString "c"]) hB (by kernel_rfl) (by kernel_rfl) (by kernel_rfl) (fun s ρ as ws vs us X rv ru hn hl _=>?_) hk
 obtain ⟨a0,rfl⟩:=len1 hn
 obtain ⟨v0,rfl,h0⟩:=rv.one
 obtain rfl:=len0 hl
 obtain rfl:=ru.zero
 refine ⟨[(Str.ofString "c",v0)],kp_binds X (fun S=>z9k S v0),rfl,fun x v h=>?_⟩
 simp only [List.zip_cons_cons,List.zip_nil_left,List.zip_nil_right,List.cons_append,List.nil_append,List.mem_cons,List.not_mem_nil,or_false,Prod.mk.injEq] at h
 obtain ⟨rfl,rfl⟩:=h
 ·exact ⟨v0,by kernel_rfl,h0⟩
theorem z4t (S:Setting) (v0:Value):peek (KO P) S (bindArgs (kFd zdm "decode" "decode" (vR 75) "cpy313.email.quoprimime" 1331 81) ⟨[v0],([]:List Str).zip []⟩) = some [(Str.ofString "encoded",v0),(Str.ofString "eol",vS "\n" 286)]:=by kernel_rfl
theorem z3w (hB:B.K = KO P) (hk:B.K.In B.h₀):FnOk B 82 1 [] zpj (kFd zdm "decode" "decode" (vR 75) "cpy313.email.quoprimime" 1331 81):=by
 refine zbf (S:=zdm) (xs:=[Str.ofString "encoded",Str.ofString "eol"]) hB (by kernel_rfl) (by kernel_rfl) (by kernel_rfl) (fun s ρ as ws vs us X rv ru hn hl _=>?_) hk
 obtain ⟨a0,rfl⟩:=len1 hn
 obtain ⟨v0,rfl,h0⟩:=rv.one
 obtain rfl:=len0 hl
 obtain rfl:=ru.zero
 refine ⟨[(Str.ofString "encoded",v0),(Str.ofString "eol",vS "\n" 286)],kp_binds X (fun S=>z4t S v0),rfl,fun x v h=>?_⟩
 simp only [List.zip_cons_cons,List.zip_nil_left,List.zip_nil_right,List.cons_append,List.nil_append,List.mem_cons,List.not_mem_nil,or_false,Prod.mk.injEq] at h
 rcases h with ⟨rfl,rfl⟩ | ⟨rfl,rfl⟩
 ·exact ⟨v0,by kernel_rfl,h0⟩
 ·exact ⟨vS "\n" 286,by kernel_rfl,⟨by decide,_,rfl⟩⟩
theorem z9o (S:Setting) (v0 v1:Value):peek (KO P) S (bindArgs (kFd zgd "_index" "_index" vN "io" 1865 95) ⟨[v0,v1],([]:List Str).zip []⟩) = some [(Str.ofString "n",v0),(Str.ofString "what",v1)]:=by kernel_rfl
theorem z8f (hB:B.K = KO P) (hk:B.K.In B.h₀):FnOk B 96 2 [] zv1 (kFd zgd "_index" "_index" vN "io" 1865 95):=by
 refine zbf (S:=zgd) (xs:=[Str.ofString "n",Str.ofString "what"]) hB (by kernel_rfl) (by kernel_rfl) (by kernel_rfl) (fun s ρ as ws vs us X rv ru hn hl _=>?_) hk
 obtain ⟨a0,a1,rfl⟩:=len2 hn
 obtain ⟨v0,v1,rfl,h0,h1⟩:=rv.two
 obtain rfl:=len0 hl
 obtain rfl:=ru.zero
 refine ⟨[(Str.ofString "n",v0),(Str.ofString "what",v1)],kp_binds X (fun S=>z9o S v0 v1),rfl,fun x v h=>?_⟩
 simp only [List.zip_cons_cons,List.zip_nil_left,List.zip_nil_right,List.cons_append,List.nil_append,List.mem_cons,List.not_mem_nil,or_false,Prod.mk.injEq] at h
 rcases h with ⟨rfl,rfl⟩ | ⟨rfl,rfl⟩
 ·exact ⟨v0,by kernel_rfl,h0⟩
 ·exact ⟨v1,by kernel_rfl,h1⟩
theorem z9j (S:Setting) (v0 v1:Value):peek (KO P) S (bindArgs (kFd zga "__init__" "StringIO.__init__" (vR 393) "io" 1865 399) ⟨[v0,v1],([]:List Str).zip []⟩) = some [(Str.ofString "self",v0),(Str.ofString "initial_value",v1),(Str.ofString "newline",vS "\n" 2250)]:=by kernel_rfl
theorem z8a (hB:B.K = KO P) (hk:B.K.In B.h₀):FnOk B 400 2 [] zph (kFd zga "__init__" "StringIO.__init__" (vR 393) "io" 1865 399):=by
 refine zbf (S:=zga) (xs:=[Str.ofString "self",Str.ofString "initial_value",Str.ofString "newline"]) hB (by kernel_rfl) (by kernel_rfl) (by kernel_rfl) (fun s ρ as ws vs us X rv ru hn hl _=>?_) hk
 obtain ⟨a0,a1,rfl⟩:=len2 hn
 obtain ⟨v0,v1,rfl,h0,h1⟩:=rv.two
 obtain rfl:=len0 hl
 obtain rfl:=ru.zero
 refine ⟨[(Str.ofString "self",v0),(Str.ofString "initial_value",v1),(Str.ofString "newline",vS "\n" 2250)],kp_binds X (fun S=>z9j S v0 v1),rfl,fun x v h=>?_⟩
 simp only [List.zip_cons_cons,List.zip_nil_left,List.zip_nil_right,List.cons_append,List.nil_append,List.mem_cons,List.not_mem_nil,or_false,Prod.mk.injEq] at h
 rcases h with ⟨rfl,rfl⟩ | ⟨rfl,rfl⟩ | ⟨rfl,rfl⟩
 ·exact ⟨v0,by kernel_rfl,h0⟩
 ·exact ⟨v1,by kernel_rfl,h1⟩
 ·exact ⟨vS "\n" 2250,by kernel_rfl,⟨by decide,_,rfl⟩⟩
theorem zo2 (S:Setting) (v0 v1:Value):peek (KO P) S (bindArgs (kFd zb0 "__translated" "StringIO.__translated" vN "io" 1865 406) ⟨[v0,v1],([]:List Str).zip []⟩) = some [(Str.ofString "self",v0),(Str.ofString "s",v1)]:=by kernel_rfl
theorem zor (hB:B.K = KO P) (hk:B.K.In B.h₀):FnOk B 407 2 [] zfh (kFd zb0 "__translated" "StringIO.__translated" vN "io" 1865 406):=by
 refine zbf (S:=zb0) (xs:=[Str.ofString "self",Str.ofString "s"]) hB (by kernel_rfl) (by kernel_rfl) (by kernel_rfl) (fun s ρ as ws vs us X rv ru hn hl _=>?_) hk
 obtain ⟨a0,a1,rfl⟩:=len2 hn
 obtain ⟨v0,v1,rfl,h0,h1⟩:=rv.two
 obtain rfl:=len0 hl
 obtain rfl:=ru.zero
 refine ⟨[(Str.ofString "self",v0),(Str.ofString "s",v1)],kp_binds X (fun S=>zo2 S v0 v1),rfl,fun x v h=>?_⟩
 simp only [List.zip_cons_cons,List.zip_nil_left,List.zip_nil_right,List.cons_append,List.nil_append,List.mem_cons,List.not_mem_nil,or_false,Prod.mk.injEq] at h
 rcases h with ⟨rfl,rfl⟩ | ⟨rfl,rfl⟩
 ·exact ⟨v0,by kernel_rfl,h0⟩
 ·exact ⟨v1,by kernel_rfl,h1⟩
theorem z9p (S:Setting) (v0:Value):peek (KO P) S (bindArgs (kFd zge "__check" "StringIO.__check" vN "io" 1865 413) ⟨[v0],([]:List Str).zip []⟩) = some [(Str.ofString "self",v0)]:=by kernel_rfl
theorem z8g (hB:B.K = KO P) (hk:B.K.In B.h₀):FnOk B 414 1 [] zv2 (kFd zge "__check" "StringIO.__check" vN "io" 1865 413):=by
 refine zbf (S:=zge) (xs:=[Str.ofString "self"]) hB (by kernel_rfl) (by kernel_rfl) (by kernel_rfl) (fun s ρ as ws vs us X rv ru hn hl _=>?_) hk
 obtain ⟨a0,rfl⟩:=len1 hn
 obtain ⟨v0,rfl,h0⟩:=rv.one
 obtain rfl:=len0 hl
 obtain rfl:=ru.zero
 refine ⟨[(Str.ofString "self",v0)],kp_binds X (fun S=>z9p S v0),rfl,fun x v h=>?_⟩
 simp only [List.zip_cons_cons,List.zip_nil_left,List.zip_nil_right,List.cons_append,List.nil_append,List.mem_cons,List.not_mem_nil,or_false,Prod.mk.injEq] at h
 obtain ⟨rfl,rfl⟩:=h
 ·exact ⟨v0,by kernel_rfl,h0⟩
theorem bd_line (S:Setting) (v0 v1:Value):peek (KO P) S (bindArgs (kFd zk5 "__line" "StringIO.__line" vN "io" 1865 427) ⟨[v0,v1],([]:List Str).zip []⟩) = some [(Str.ofString "self",v0),(Str.ofString "limit",v1)]:=by kernel_rfl
theorem fo_line (hB:B.K = KO P) (hk:B.K.In B.h₀):FnOk B 428 2 [] z43 (kFd zk5 "__line" "StringIO.__line" vN "io" 1865 427):=by
 refine zbf (S:=zk5) (xs:=[Str.ofString "self",Str.ofString "limit"]) hB (by kernel_rfl) (by kernel_rfl) (by kernel_rfl) (fun s ρ as ws vs us X rv ru hn hl _=>?_) hk
 obtain ⟨a0,a1,rfl⟩:=len2 hn
 obtain ⟨v0,v1,rfl,h0,h1⟩:=rv.two
 obtain rfl:=len0 hl
 obtain rfl:=ru.zero
 refine ⟨[(Str.ofString "self",v0),(Str.ofString "limit",v1)],kp_binds X (fun S=>bd_line S v0 v1),rfl,fun x v h=>?_⟩
 simp only [List.zip_cons_cons,List.zip_nil_left,List.zip_nil_right,List.cons_append,List.nil_append,List.mem_cons,List.not_mem_nil,or_false,Prod.mk.injEq] at h
 rcases h with ⟨rfl,rfl⟩ | ⟨rfl,rfl⟩
 ·exact ⟨v0,by kernel_rfl,h0⟩
 ·exact ⟨v1,by kernel_rfl,h1⟩
theorem bd_read (S:Setting) (v0 v1:Value):peek (KO P) S (bindArgs (kFd zk4 "read" "StringIO.read" (vR 569) "io" 1865 575) ⟨[v0,v1],([]:List Str).zip []⟩) = some [(Str.ofString "self",v0),(Str.ofString "size",v1)]:=by kernel_rfl
theorem fo_read (hB:B.K = KO P) (hk:B.K.In B.h₀):FnOk B 576 2 [] z42 (kFd zk4 "read" "StringIO.read" (vR 569) "io" 1865 575):=by
 refine zbf (S:=zk4) (xs:=[Str.ofString "self",Str.ofString "size"]) hB (by kernel_rfl) (by kernel_rfl) (by kernel_rfl) (fun s ρ as ws vs us X rv ru hn hl _=>?_) hk
 obtain ⟨a0,a1,rfl⟩:=len2 hn
 obtain ⟨v0,v1,rfl,h0,h1⟩:=rv.two
 obtain rfl:=len0 hl
 obtain rfl:=ru.zero
 refine ⟨[(Str.ofString "self",v0),(Str.ofString "size",v1)],kp_binds X (fun S=>bd_read S v0 v1),rfl,fun x v h=>?_⟩
 simp only [List.zip_cons_cons,List.zip_nil_left,List.zip_nil_right,List.cons_append,List.nil_append,List.mem_cons,List.not_mem_nil,or_false,Prod.mk.injEq] at h
 rcases h with ⟨rfl,rfl⟩ | ⟨rfl,rfl⟩
 ·exact ⟨v0,by kernel_rfl,h0⟩
 ·exact ⟨v1,by kernel_rfl,h1⟩
theorem zvk (S:Setting) (v0:Value):peek (KO P) S (bindArgs (kFd zcn "readline" "StringIO.readline" (vR 577) "io" 1865 583) ⟨[v0],([]:List Str).zip []⟩) = some [(Str.ofString "self",v0),(Str.ofString "size",.int (-1) 2454)]:=by kernel_rfl
theorem zu6 (hB:B.K = KO P) (hk:B.K.In B.h₀):FnOk B 584 1 [] zh4 (kFd zcn "readline" "StringIO.readline" (vR 577) "io" 1865 583):=by
 refine zbf (S:=zcn) (xs:=[Str.ofString "self",Str.ofString "size"]) hB (by kernel_rfl) (by kernel_rfl) (by kernel_rfl) (fun s ρ as ws vs us X rv ru hn hl _=>?_) hk
 obtain ⟨a0,rfl⟩:=len1 hn
 obtain ⟨v0,rfl,h0⟩:=rv.one
 obtain rfl:=len0 hl
 obtain rfl:=ru.zero
 refine ⟨[(Str.ofString "self",v0),(Str.ofString "size",.int (-1) 2454)],kp_binds X (fun S=>zvk S v0),rfl,fun x v h=>?_⟩
 simp only [List.zip_cons_cons,List.zip_nil_left,List.zip_nil_right,List.cons_append,List.nil_append,List.mem_cons,List.not_mem_nil,or_false,Prod.mk.injEq] at h
 rcases h with ⟨rfl,rfl⟩ | ⟨rfl,rfl⟩
 ·exact ⟨v0,by kernel_rfl,h0⟩
 ·exact ⟨.int (-1) 2454,by kernel_rfl,⟨_,rfl⟩⟩
theorem z9n (S:Setting) (v0 v1 u0:Value):peek (KO P) S (bindArgs (kFd zb1 "__init__" "shlex.__init__" (vR 682) "cpy313.shlex" 2580 688) ⟨[v0,v1],([Str.ofString "posix"]:List Str).zip [u0]⟩) = some [(Str.ofString "self",v0),(Str.ofString "instream",v1),(Str.ofString "infile",.none),(Str.ofString "posix",u0),(Str.ofString "punctuation_chars",.bool false)]:=by kernel_rfl
theorem z8e (hB:B.K = KO P) (hk:B.K.In B.h₀):FnOk B 689 2 [Str.ofString "posix"] zv0 (kFd zb1 "__init__" "shlex.__init__" (vR 682) "cpy313.shlex" 2580 688):=by
 refine zbf (S:=zb1) (xs:=[Str.ofString "self",Str.ofString "instream",Str.ofString "infile",Str.ofString "posix",Str.ofString "punctuation_chars"]) hB (by kernel_rfl) (by kernel_rfl) (by kernel_rfl) (fun s ρ as ws vs us X rv ru hn hl _=>?_) hk
 obtain ⟨a0,a1,rfl⟩:=len2 hn
 obtain ⟨v0,v1,rfl,h0,h1⟩:=rv.two
 obtain ⟨w0,rfl⟩:=len1 hl.symm
 obtain ⟨u0,rfl,k0⟩:=ru.one
 refine ⟨[(Str.ofString "self",v0),(Str.ofString "instream",v1),(Str.ofString "infile",.none),(Str.ofString "posix",u0),(Str.ofString "punctuation_chars",.bool false)],kp_binds X (fun S=>z9n S v0 v1 u0),rfl,fun x v h=>?_⟩
 simp only [List.zip_cons_cons,List.zip_nil_left,List.zip_nil_right,List.cons_append,List.nil_append,List.mem_cons,List.not_mem_nil,or_false,Prod.mk.injEq] at h
 rcases h with ⟨rfl,rfl⟩ | ⟨rfl,rfl⟩ | ⟨rfl,rfl⟩ | ⟨rfl,rfl⟩ | ⟨rfl,rfl⟩
 ·exact ⟨v0,by kernel_rfl,h0⟩
 ·exact ⟨v1,by kernel_rfl,h1⟩
 ·exact ⟨u0,by kernel_rfl,k0⟩
 ·exact ⟨.none,by kernel_rfl,rfl⟩
 ·exact ⟨.bool false,by kernel_rfl,rfl⟩
theorem z9l (S:Setting) (v0:Value):peek (KO P) S (bindArgs (kFd zgc "punctuation_chars" "shlex.punctuation_chars" vN "cpy313.shlex" 2580 695) ⟨[v0],([]:List Str).zip []⟩) = some [(Str.ofString "self",v0)]:=by kernel_rfl
theorem z8c (hB:B.K = KO P) (hk:B.K.In B.h₀):FnOk B 696 1 [] zvy (kFd zgc "punctuation_chars" "shlex.punctuation_chars" vN "cpy313.shlex" 2580 695):=by
 refine zbf (S:=zgc) (xs:=[Str.ofString "self"]) hB (by kernel_rfl) (by kernel_rfl) (by kernel_rfl) (fun s ρ as ws vs us X rv ru hn hl _=>?_) hk
 obtain ⟨a0,rfl⟩:=len1 hn
 obtain ⟨v0,rfl,h0⟩:=rv.one
 obtain rfl:=len0 hl
 obtain rfl:=ru.zero
 refine ⟨[(Str.ofString "self",v0)],kp_binds X (fun S=>z9l S v0),rfl,fun x v h=>?_⟩
 simp only [List.zip_cons_cons,List.zip_nil_left,List.zip_nil_right,List.cons_append,List.nil_append,List.mem_cons,List.not_mem_nil,or_false,Prod.mk.injEq] at h
 obtain ⟨rfl,rfl⟩:=h
 ·exact ⟨v0,by kernel_rfl,h0⟩
theorem zsn (S:Setting) (v0:Value):peek (KO P) S (bindArgs (kFd zb2 "get_token" "shlex.get_token" vN "cpy313.shlex" 2580 725) ⟨[v0],([]:List Str).zip []⟩) = some [(Str.ofString "self",v0)]:=by kernel_rfl
theorem zr5 (hB:B.K = KO P) (hk:B.K.In B.h₀):FnOk B 726 1 [] zgf (kFd zb2 "get_token" "shlex.get_token" vN "cpy313.shlex" 2580 725):=by
 refine zbf (S:=zb2) (xs:=[Str.ofString "self"]) hB (by kernel_rfl) (by kernel_rfl) (by kernel_rfl) (fun s ρ as ws vs us X rv ru hn hl _=>?_) hk
 obtain ⟨a0,rfl⟩:=len1 hn
 obtain ⟨v0,rfl,h0⟩:=rv.one
 obtain rfl:=len0 hl
 obtain rfl:=ru.zero
 refine ⟨[(Str.ofString "self",v0)],kp_binds X (fun S=>zsn S v0),rfl,fun x v h=>?_⟩
 simp only [List.zip_cons_cons,List.zip_nil_left,List.zip_nil_right,List.cons_append,List.nil_append,List.mem_cons,List.not_mem_nil,or_false,Prod.mk.injEq] at h
 obtain ⟨rfl,rfl⟩:=h
 ·exact ⟨v0,by kernel_rfl,h0⟩
theorem zo3 (S:Setting) (v0:Value):peek (KO P) S (bindArgs (kFd zbe "read_token" "shlex.read_token" vN "cpy313.shlex" 2580 732) ⟨[v0],([]:List Str).zip []⟩) = some [(Str.ofString "self",v0)]:=by kernel_rfl
theorem zos (hB:B.K = KO P) (hk:B.K.In B.h₀):FnOk B 733 1 [] zfi (kFd zbe "read_token" "shlex.read_token" vN "cpy313.shlex" 2580 732):=by
 refine zbf (S:=zbe) (xs:=[Str.ofString "self"]) hB (by kernel_rfl) (by kernel_rfl) (by kernel_rfl) (fun s ρ as ws vs us X rv ru hn hl _=>?_) hk
 obtain ⟨a0,rfl⟩:=len1 hn
 obtain ⟨v0,rfl,h0⟩:=rv.one
 obtain rfl:=len0 hl
 obtain rfl:=ru.zero
 refine ⟨[(Str.ofString "self",v0)],kp_binds X (fun S=>zo3 S v0),rfl,fun x v h=>?_⟩
 simp only [List.zip_cons_cons,List.zip_nil_left,List.zip_nil_right,List.cons_append,List.nil_append,List.mem_cons,List.not_mem_nil,or_false,Prod.mk.injEq] at h
 obtain ⟨rfl,rfl⟩:=h
 ·exact ⟨v0,by kernel_rfl,h0⟩
theorem bd_iter (S:Setting) (v0:Value):peek (KO P) S (bindArgs (kFd zk6 "__iter__" "shlex.__iter__" vN "cpy313.shlex" 2580 754) ⟨[v0],([]:List Str).zip []⟩) = some [(Str.ofString "self",v0)]:=by kernel_rfl
theorem fo_iter (hB:B.K = KO P) (hk:B.K.In B.h₀):FnOk B 755 1 [] z44 (kFd zk6 "__iter__" "shlex.__iter__" vN "cpy313.shlex" 2580 754):=by
 refine zbf (S:=zk6) (xs:=[Str.ofString "self"]) hB (by kernel_rfl) (by kernel_rfl) (by kernel_rfl) (fun s ρ as ws vs us X rv ru hn hl _=>?_) hk
 obtain ⟨a0,rfl⟩:=len1 hn
 obtain ⟨v0,rfl,h0⟩:=rv.one
 obtain rfl:=len0 hl
 obtain rfl:=ru.zero
 refine ⟨[(Str.ofString "self",v0)],kp_binds X (fun S=>bd_iter S v0),rfl,fun x v h=>?_⟩
 simp only [List.zip_cons_cons,List.zip_nil_left,List.zip_nil_right,List.cons_append,List.nil_append,List.mem_cons,List.not_mem_nil,or_false,Prod.mk.injEq] at h
 obtain ⟨rfl,rfl⟩:=h
 ·exact ⟨v0,by kernel_rfl,h0⟩
theorem bd_nxt (S:Setting) (v0:Value):peek (KO P) S (bindArgs (kFd zvt "__next__" "shlex.__next__" vN "cpy313.shlex" 2580 761) ⟨[v0],([]:List Str).zip []⟩) = some [(Str.ofString "self",v0)]:=by kernel_rfl
theorem fo_nxt (hB:B.K = KO P) (hk:B.K.In B.h₀):FnOk B 762 1 [] F_nxt (kFd zvt "__next__" "shlex.__next__" vN "cpy313.shlex" 2580 761):=by
 refine zbf (S:=zvt) (xs:=[Str.ofString "self"]) hB (by kernel_rfl) (by kernel_rfl) (by kernel_rfl) (fun s ρ as ws vs us X rv ru hn hl _=>?_) hk
 obtain ⟨a0,rfl⟩:=len1 hn
 obtain ⟨v0,rfl,h0⟩:=rv.one
 obtain rfl:=len0 hl
 obtain rfl:=ru.zero
 refine ⟨[(Str.ofString "self",v0)],kp_binds X (fun S=>bd_nxt S v0),rfl,fun x v h=>?_⟩
 simp only [List.zip_cons_cons,List.zip_nil_left,List.zip_nil_right,List.cons_append,List.nil_append,List.mem_cons,List.not_mem_nil,or_false,Prod.mk.injEq] at h
 obtain ⟨rfl,rfl⟩:=h
 ·exact ⟨v0,by kernel_rfl,h0⟩
theorem z9i (S:Setting) (v0 v1 v2:Value):peek (KO P) S (bindArgs (kFd zf9 "split" "split" (vR 770) "cpy313.shlex" 2580 776) ⟨[v0,v1,v2],([]:List Str).zip []⟩) = some [(Str.ofString "s",v0),(Str.ofString "comments",v1),(Str.ofString "posix",v2)]:=by kernel_rfl
theorem z79 (hB:B.K = KO P) (hk:B.K.In B.h₀):FnOk B 777 3 [] zvw (kFd zf9 "split" "split" (vR 770) "cpy313.shlex" 2580 776):=by
 refine zbf (S:=zf9) (xs:=[Str.ofString "s",Str.ofString "comments",Str.ofString "posix"]) hB (by kernel_rfl) (by kernel_rfl) (by kernel_rfl) (fun s ρ as ws vs us X rv ru hn hl _=>?_) hk
 obtain ⟨a0,a1,a2,rfl⟩:=len3 hn
 obtain ⟨v0,v1,v2,rfl,h0,h1,h2⟩:=rv.three
 obtain rfl:=len0 hl
 obtain rfl:=ru.zero
 refine ⟨[(Str.ofString "s",v0),(Str.ofString "comments",v1),(Str.ofString "posix",v2)],kp_binds X (fun S=>z9i S v0 v1 v2),rfl,fun x v h=>?_⟩
 simp only [List.zip_cons_cons,List.zip_nil_left,List.zip_nil_right,List.cons_append,List.nil_append,List.mem_cons,List.not_mem_nil,or_false,Prod.mk.injEq] at h
 rcases h with ⟨rfl,rfl⟩ | ⟨rfl,rfl⟩ | ⟨rfl,rfl⟩
 ·exact ⟨v0,by kernel_rfl,h0⟩
 ·exact ⟨v1,by kernel_rfl,h1⟩
 ·exact ⟨v2,by kernel_rfl,h2⟩
theorem z9h (S:Setting) (v0:Value):peek (KO P) S (bindArgs (kFd zfg "_law_units" "_law_units" vN "law_oy0352_01" 2731 783) ⟨[v0],([]:List Str).zip []⟩) = some [(Str.ofString "numbers",v0)]:=by kernel_rfl
theorem z78 (hB:B.K = KO P) (hk:B.K.In B.h₀):FnOk B 784 1 [] zvv (kFd zfg "_law_units" "_law_units" vN "law_oy0352_01" 2731 783):=by
 refine zbf (S:=zfg) (xs:=[Str.ofString "numbers"]) hB (by kernel_rfl) (by kernel_rfl) (by kernel_rfl) (fun s ρ as ws vs us X rv ru hn hl _=>?_) hk
 obtain ⟨a0,rfl⟩:=len1 hn
 obtain ⟨v0,rfl,h0⟩:=rv.one
 obtain rfl:=len0 hl
 obtain rfl:=ru.zero
 refine ⟨[(Str.ofString "numbers",v0)],kp_binds X (fun S=>z9h S v0),rfl,fun x v h=>?_⟩
 simp only [List.zip_cons_cons,List.zip_nil_left,List.zip_nil_right,List.cons_append,List.nil_append,List.mem_cons,List.not_mem_nil,or_false,Prod.mk.injEq] at h
 obtain ⟨rfl,rfl⟩:=h
 ·exact ⟨v0,by kernel_rfl,h0⟩
theorem z9m (S:Setting) (v0:Value):peek (KO P) S (bindArgs (kFd zem "_law_plain" "_law_plain" vN "law_oy0352_01" 2731 788) ⟨[v0],([]:List Str).zip []⟩) = some [(Str.ofString "units",v0)]:=by kernel_rfl
theorem z8d (hB:B.K = KO P) (hk:B.K.In B.h₀):FnOk B 789 1 [] zvz (kFd zem "_law_plain" "_law_plain" vN "law_oy0352_01" 2731 788):=by
 refine zbf (S:=zem) (xs:=[Str.ofString "units"]) hB (by kernel_rfl) (by kernel_rfl) (by kernel_rfl) (fun s ρ as ws vs us X rv ru hn hl _=>?_) hk
 obtain ⟨a0,rfl⟩:=len1 hn
 obtain ⟨v0,rfl,h0⟩:=rv.one
 obtain rfl:=len0 hl
 obtain rfl:=ru.zero
 refine ⟨[(Str.ofString "units",v0)],kp_binds X (fun S=>z9m S v0),rfl,fun x v h=>?_⟩
 simp only [List.zip_cons_cons,List.zip_nil_left,List.zip_nil_right,List.cons_append,List.nil_append,List.mem_cons,List.not_mem_nil,or_false,Prod.mk.injEq] at h
 obtain ⟨rfl,rfl⟩:=h
 ·exact ⟨v0,by kernel_rfl,h0⟩
theorem z4s (S:Setting) (v0 v1 v2 v3:Value):peek (KO P) S (bindArgs (kFd zdl "_law_quoted" "_law_quoted" vN "law_oy0352_01" 2731 795) ⟨[v0,v1,v2,v3],([]:List Str).zip []⟩) = some [(Str.ofString "signs",v0),(Str.ofString "k",v1),(Str.ofString "mark",v2),(Str.ofString "shell",v3)]:=by kernel_rfl
theorem z3v (hB:B.K = KO P) (hk:B.K.In B.h₀):FnOk B 796 4 [] zpi (kFd zdl "_law_quoted" "_law_quoted" vN "law_oy0352_01" 2731 795):=by
 refine zbf (S:=zdl) (xs:=[Str.ofString "signs",Str.ofString "k",Str.ofString "mark",Str.ofString "shell"]) hB (by kernel_rfl) (by kernel_rfl) (by kernel_rfl) (fun s ρ as ws vs us X rv ru hn hl _=>?_) hk
 obtain ⟨a0,a1,a2,a3,rfl⟩:=len4 hn
 obtain ⟨v0,v1,v2,v3,rfl,h0,h1,h2,h3⟩:=rv.four
 obtain rfl:=len0 hl
 obtain rfl:=ru.zero
 refine ⟨[(Str.ofString "signs",v0),(Str.ofString "k",v1),(Str.ofString "mark",v2),(Str.ofString "shell",v3)],kp_binds X (fun S=>z4s S v0 v1 v2 v3),rfl,fun x v h=>?_⟩
 simp only [List.zip_cons_cons,List.zip_nil_left,List.zip_nil_right,List.cons_append,List.nil_append,List.mem_cons,List.not_mem_nil,or_false,Prod.mk.injEq] at h
 rcases h with ⟨rfl,rfl⟩ | ⟨rfl,rfl⟩ | ⟨rfl,rfl⟩ | ⟨rfl,rfl⟩
 ·exact ⟨v0,by kernel_rfl,h0⟩
 ·exact ⟨v1,by kernel_rfl,h1⟩
 ·exact ⟨v2,by kernel_rfl,h2⟩
 ·exact ⟨v3,by kernel_rfl,h3⟩
theorem z9g (S:Setting) (v0 v1 v2:Value):peek (KO P) S (bindArgs (kFd zff "_law_words" "_law_words" vN "law_oy0352_01" 2731 802) ⟨[v0,v1,v2],([]:List Str).zip []⟩) = some [(Str.ofString "signs",v0),(Str.ofString "noted",v1),(Str.ofString "shell",v2)]:=by kernel_rfl
theorem z77 (hB:B.K = KO P) (hk:B.K.In B.h₀):FnOk B 803 3 [] zvu (kFd zff "_law_words" "_law_words" vN "law_oy0352_01" 2731 802):=by
 refine zbf (S:=zff) (xs:=[Str.ofString "signs",Str.ofString "noted",Str.ofString "shell"]) hB (by kernel_rfl) (by kernel_rfl) (by kernel_rfl) (fun s ρ as ws vs us X rv ru hn hl _=>?_) hk
 obtain ⟨a0,a1,a2,rfl⟩:=len3 hn
 obtain ⟨v0,v1,v2,rfl,h0,h1,h2⟩:=rv.three
 obtain rfl:=len0 hl
 obtain rfl:=ru.zero
 refine ⟨[(Str.ofString "signs",v0),(Str.ofString "noted",v1),(Str.ofString "shell",v2)],kp_binds X (fun S=>z9g S v0 v1 v2),rfl,fun x v h=>?_⟩
 simp only [List.zip_cons_cons,List.zip_nil_left,List.zip_nil_right,List.cons_append,List.nil_append,List.mem_cons,List.not_mem_nil,or_false,Prod.mk.injEq] at h
 rcases h with ⟨rfl,rfl⟩ | ⟨rfl,rfl⟩ | ⟨rfl,rfl⟩
 ·exact ⟨v0,by kernel_rfl,h0⟩
 ·exact ⟨v1,by kernel_rfl,h1⟩
 ·exact ⟨v2,by kernel_rfl,h2⟩
end
section
variable {K:Wd} {P:Params}
theorem z27 {α:Type} {c:Prop} [Decidable c] {x z:α} {y:Option α} (h:(if c then some x else y) = some z):(c∧x = z)∨y = some z:=by
 by_cases q:c
 ·rw [if_pos q] at h; exact .inl ⟨q,Option.some.inj h⟩
 ·rw [if_neg q] at h; exact .inr h
theorem lkA_mem {l:List (Str×Addr)} {x:Str} {f:Addr} (h:lkA l x = some f):(x,f)∈l:=by
 induction l with
 | nil=>cases h
 | cons q r ih=>
   have h:(if q.1 = x then some q.2 else lkA r x) = some f:=h
   rcases ite_some h with ⟨q1,q2⟩ | ⟨_,q2⟩
   ·rw [← Option.some.inj q2,← q1]; exact .head _
   ·exact .tail _ (ih q2)
theorem z98 {C:Addr} {x:Str} {l:List Str} (h:l.all (z8x (KO P) C) = true) (hx:l.contains x = true) (h1:hasDictIn (KO P) C = true) (h2:findIn (KO P) (.ref C) "__setattr__" = some (some (.builtin "object.__setattr__"))) (h3:plainOver (KO P) C = true):
  plainGet (KO P) C x = true∧hasDictIn (KO P) C = true∧findIn (KO P) (.ref C) x = some none∧findIn (KO P) (.ref C) "__setattr__" = some (some (.builtin "object.__setattr__"))∧plainOver (KO P) C = true∧takerIn (KO P) C x = some none:=by
 have z:=all_of h hx
 unfold z8x at z
 rw [Bool.and_eq_true,Bool.and_eq_true] at z
 exact ⟨z.1.1,h1,zmh z.1.2,h2,h3,zmh z.2⟩
theorem z97 {C:Addr} {x:Str} {f:Addr} {l:List (Str×Addr)} (h:l.all (z7d (KO P) C) = true) (hx:lkA l x = some f):
  plainGet (KO P) C x = true∧findIn (KO P) (.ref C) x = some (some (.ref f))∧isFn (KO P) (.ref f) = true∧keepIn (KO P) (.ref f) = true:=by
 have z:=List.all_eq_true.mp h _ (lkA_mem hx)
 unfold z7d at z
 rw [Bool.and_eq_true,Bool.and_eq_true,Bool.and_eq_true] at z
 exact ⟨z.1.1.1,z3d z.1.1.2,z.1.2,z.2⟩
theorem okA_of (hP:K.F = KO P):OkA (prg K):=by
 have hK:(prg K).K = KO P:=hP
 refine ⟨fun C x h=>?_,fun C x f h=>?_,fun C x f h=>?_,fun a h=>?_⟩
 ·rw [hK]
  by_cases e:C = 765
  ·subst e; exact z98 (z8w P) h (zfb P).1 (zqb P).1 (zfb P).2.2.1
  ·have h:(if C = 765 then lexA.contains x else if C = 630 then sioA.contains x else false) = true:=h
   rw [if_neg e] at h
   by_cases e:C = 630
   ·subst e; exact z98 (z8v P) h (zfb P).2.1 (zqb P).2 (zfb P).2.2.2
   ·rw [if_neg e] at h; cases h
 ·rw [hK]
  obtain ⟨⟨rfl,rfl⟩,h⟩:=zaf (show (if C = 765∧x = "punctuation_chars" then some 696 else none) = some f from h)
  cases h
  obtain ⟨p1,p2,p3,p4,p5⟩:=zud P
  exact ⟨p1,(zfb P).1,697,_,p2,p3,p4,p5⟩
 ·rw [hK]
  rcases ite_some (show (if C = 765 then lkA lexM x else if C = 630 then lkA sioM x else none) = some f from h) with ⟨rfl,h⟩ | ⟨_,h⟩
  ·exact z97 (z7a P) h
  ·obtain ⟨rfl,h⟩:=zaf h
   exact z97 (z69 P) h
 ·rw [hK]
  exact all_of (z7p P) h
theorem okI_of (hP:K.F = KO P):OkI (prg K):=fun C h=>by
 have hK:(prg K).K = KO P:=hP
 rw [hK]
 have h:(C == 765) = true:=h
 obtain rfl:=beq_iff_eq.mp h
 exact zzl P
theorem okF_fn (hB:(prg K).K = KO P) (hk:(prg K).K.In (prg K).h₀):∀ a n ns fn,(prg K).fn a n ns = some fn→∃ fd,FnOk (prg K) a n ns fn fd:=fun a n ns fn h=>by
 have h:fnT a n ns = some fn:=h
 have hm:=z8p h
 have all:∀ q∈fnL,∃ fd,FnOk (prg K) q.1 q.2.1 q.2.2.1 q.2.2.2 fd:=(List.forall_mem_cons.mpr ⟨⟨_,zzr hB hk⟩,(List.forall_mem_cons.mpr ⟨⟨_,z8b hB hk⟩,(List.forall_mem_cons.mpr ⟨⟨_,z3w hB hk⟩,(List.forall_mem_cons.mpr ⟨⟨_,z8f hB hk⟩,(List.forall_mem_cons.mpr ⟨⟨_,z8a hB hk⟩,(List.forall_mem_cons.mpr ⟨⟨_,zor hB hk⟩,(List.forall_mem_cons.mpr ⟨⟨_,z8g hB hk⟩,(List.forall_mem_cons.mpr ⟨⟨_,fo_line hB hk⟩,(List.forall_mem_cons.mpr ⟨⟨_,fo_read hB hk⟩,(List.forall_mem_cons.mpr ⟨⟨_,zu6 hB hk⟩,(List.forall_mem_cons.mpr ⟨⟨_,z8e hB hk⟩,(List.forall_mem_cons.mpr ⟨⟨_,z8c hB hk⟩,(List.forall_mem_cons.mpr ⟨⟨_,zr5 hB hk⟩,(List.forall_mem_cons.mpr ⟨⟨_,zos hB hk⟩,(List.forall_mem_cons.mpr ⟨⟨_,fo_iter hB hk⟩,(List.forall_mem_cons.mpr ⟨⟨_,fo_nxt hB hk⟩,(List.forall_mem_cons.mpr ⟨⟨_,z79 hB hk⟩,(List.forall_mem_cons.mpr ⟨⟨_,z78 hB hk⟩,(List.forall_mem_cons.mpr ⟨⟨_,z8d hB hk⟩,(List.forall_mem_cons.mpr ⟨⟨_,z3v hB hk⟩,(List.forall_mem_cons.mpr ⟨⟨_,z77 hB hk⟩,(List.forall_mem_nil _)⟩)⟩)⟩)⟩)⟩)⟩)⟩)⟩)⟩)⟩)⟩)⟩)⟩)⟩)⟩)⟩)⟩)⟩)⟩)⟩)⟩)
 exact all _ hm
end
section
variable {B:Base} {P:Params}
theorem z2q (P:Params):makesIn (KO P) 765 = true∧findIn (KO P) (.ref 765) "__init__" = some (some (.ref 689))∧typeIn (KO P) (.ref 689) = some (.type "function"):=⟨by kernel_rfl,by kernel_rfl,by kernel_rfl⟩
theorem cls765 (hP:B.K = KO P) (hk:B.K.In B.h₀):ClsOk B 765 689:=by
 intro A s R vs kw _ keep hd hu hh hinit
 have X:(KO P).In s.heap:=by have:=hk.keeps keep; rw [hP] at this; exact this
 obtain ⟨m1,m2,m3⟩:=z2q P
 obtain ⟨h,g,d,t,os⟩:=s
 refine make_core (makes_of X m1) (looks_findIn X m2) (fun self=>bind_fn X self m3) (.inl rfl) ?_
 refine codeAny_mono (hinit _ _ (h.objs.size + 1) h.objs.size 0 t ?_ ?_ ?_ ?_ ?_ ?_ ?_ ?_ ?_ ?_) (fun r s' z=>?_)
 ·rfl
 ·exact hh
 ·exact Nat.add_le_add_left (Nat.le_of_ble_eq_true (by kernel_rfl)) _
 ·exact Nat.add_le_add_left (Nat.le_of_ble_eq_true (by kernel_rfl)) _
 ·exact fun b o e=>Heap.get?_push_of_some _ (Heap.get?_push_of_some _ e)
 ·exact Heap.get?_none_of_le (Nat.le_succ _)
 ·exact za1 h
 ·heap_get
 ·exact (Heap.get?_push_of_some _ (Heap.get?_push_size _ rfl))
 ·exact Nat.le_refl _
 ·rcases r with e | (v | _ | _ | _)
  ·exact z
  ·exact z
  ·exact z
  ·exact z
  ·exact z
noncomputable def z1z (K:Frag) (C:Addr):Bool:=match K.lookup C with
 | some ⟨_,_,.cls cd,_⟩=>!cd.abstract && !cd.hasDel && !cd.mro.isEmpty
 | _=>false
theorem zqv {K:Frag} {h:Heap} (X:K.In h) {C:Addr} (e:z1z K C = true):∃ oc od cd sl,h.get? C = some ⟨oc,od,.cls cd,sl⟩∧cd.abstract = false∧cd.hasDel = false∧cd.mro.isEmpty = false:=by
 unfold z1z at e
 cases ho:K.lookup C with
 | none=>rw [ho] at e; cases e
 | some o=>
   rw [ho] at e
   obtain ⟨oc,od,dt,sl⟩:=o
   cases dt with
   | cls cd=>
     have e:(!cd.abstract && !cd.hasDel && !cd.mro.isEmpty) = true:=e
     rw [Bool.and_eq_true,Bool.and_eq_true] at e
     exact ⟨oc,od,cd,sl,X _ _ ho,(Bool.not_eq_true' _).mp e.1.1,(Bool.not_eq_true' _).mp e.1.2,(Bool.not_eq_true' _).mp e.2⟩
   | _=>cases e
theorem zqa (P:Params):z1z (KO P) 630 = true∧specialIn (KO P) (.ref 630) "__call__" = some (some (.builtin "type.__call__"))∧instIn (KO P) (.ref 630) (.type "type") = some true∧findIn (KO P) (.ref 630) "__init__" = some (some (.ref 400))∧typeIn (KO P) (.ref 400) = some (.type "function")∧subIn (KO P) (.ref 630) (.ref 630) = some true:=
 ⟨by kernel_rfl,by kernel_rfl,by kernel_rfl,by kernel_rfl,by kernel_rfl,by kernel_rfl⟩
theorem z56 (P:Params) (S:Setting):peek (KO P) S (Bind.madeBy (.ref 630)) = some none∧peek (KO P) S (Bind.madeHere "object.__new__" (.ref 630)) = some ():=⟨by kernel_rfl,by kernel_rfl⟩
theorem sio_new (P:Params):typeIn (KO P) (.ref 630) = some (.type "type")∧readsIn (KO P) 630 (.type "type") = true∧findCls (KO P) (.ref 630) (.type "type") "__new__" = some (.get (.builtin "staticmethod.__get__") (.ref 127) .none (.ref 630))∧recIn (KO P) 127 "staticmethod" = some [.ref 123]∧handedIn (.ref 123) = true:=
 ⟨by kernel_rfl,by kernel_rfl,by kernel_rfl,by kernel_rfl,by kernel_rfl⟩
end
noncomputable def zi3 {α:Type} (K:Frag) (S:Setting) (t:Sem α):Addr→Sem α:=match peekA K S t with
 | some (_,g)=>g
 | none=>fun _=>t
theorem zjc {α:Type} {K:Frag} {M:Model} {A:Around} {E:Value→Shared→Prop} {Q:α→Shared→Prop} {s:Shared} {o:Obj} (X:K.In s.heap):∀ t:Sem α,(peekA K ⟨M.prog,M.w.params⟩ t).map (·.1) = some o→
  wpAny M A (zi3 K ⟨M.prog,M.w.params⟩ t s.heap.objs.size) Q E { s with heap:=s.heap.push o }→wpAny M A t Q E s:=by
 have key:∀ (t:Sem α) (g:Addr→Sem α),peekA K ⟨M.prog,M.w.params⟩ t = some (o,g)→wpAny M A (g s.heap.objs.size) Q E { s with heap:=s.heap.push o }→wpAny M A t Q E s:=by
  intro t
  induction t with
  | rule _ k ih=>intro g e q Γ p hΓ; exact ih () g e q Γ p hΓ
  | point _ k ih=>intro g e q Γ p hΓ; exact ih () g e q Γ p hΓ
  | ask k ih=>intro g e q Γ p hΓ; exact ih _ g e q Γ p hΓ
  | load a _ k ih=>
    intro g e q Γ p hΓ
    simp only [peekA] at e
    split at e
    ·rename_i ob ho; exact ⟨ob,X _ _ ho,ih ob g e q Γ p hΓ⟩
    ·cases e
  | alloc ob k _=>
    intro g e q
    have e:some (ob,k) = some (o,g):=e
    obtain ⟨e1,e2⟩:=Prod.mk.inj (Option.some.inj e)
    subst e1
    subst e2
    show wpAny M A (alloc ob >>= k) Q E s
    exact wpAny_bind (wpAny_alloc q)
  | _=>intro g e; cases e
 intro t e h
 obtain ⟨⟨o',g⟩,e1,rfl⟩:=Option.map_eq_some_iff.mp e
 refine key t g e1 ?_
 unfold zi3 at h
 rw [e1] at h
 exact h
noncomputable def fNew:FuncData:=kFd z0c "__new__" "IOBase.__new__" Value.none "io" 1865 122
section
variable {P:Params}
theorem nb1 (S:Setting) (v:Value):(peekA (KO P) S (bindArgs fNew ⟨[.ref 630,v],[]⟩)).map (·.1) = some ({ cls:=.type "tuple",data:=.seq #[v] }:Obj):=by kernel_rfl
theorem nb2 (S:Setting) (v:Value) (D:Addr):(peekA (KO P) S (zi3 (KO P) S (bindArgs fNew ⟨[.ref 630,v],[]⟩) D)).map (·.1) = some (dictOf [] 0):=by kernel_rfl
theorem nb3 (S:Setting) (v:Value) (D D2:Addr):zi3 (KO P) S (zi3 (KO P) S (bindArgs fNew ⟨[.ref 630,v],[]⟩) D) D2 = pure [(Str.ofString "cls",.ref 630),(Str.ofString "args",.ref D),(Str.ofString "kwargs",.ref D2)]:=by kernel_rfl
theorem z65 (P:Params):(KO P).lookup 123 = some ⟨.type "function",none,.func fNew,#[]⟩∧codeIn (KO P) fNew.code fNew.qualname = true∧zu4 (KO P) "BytesIO" = some (.top (.ref 383))∧zu4 (KO P) "StringIO" = some (.top (.ref 630))∧zu4 (KO P) "object" = some (.top (.type "object"))∧
  findCls (KO P) (.type "object") (.type "type") "__new__" = some (.val (.builtin "object.__new__")):=⟨by kernel_rfl,by kernel_rfl,by kernel_rfl,by kernel_rfl,by kernel_rfl,by kernel_rfl⟩
end
theorem z62:Manifest.isStub "object" = false:=by kernel_rfl
theorem zyr:handedIn (.builtin "object.__new__") = true:=by kernel_rfl
theorem gm_obj {prog:Program} {w:World} {A:Around} {K:Frag} {s:Shared} {h₀:Heap} {L:Addr} {m:Str→Option Value} {pl:Sem Bool} {Q:Value×List Value→Shared→Prop} {E:Value→Shared→Prop} (F:Fr h₀ L s.heap m) (X₀:K.In h₀)
  (e:findCls K (.type "object") (.type "type") (Str.ofString "__new__") = some (.val (.builtin "object.__new__"))) (h:Q (.builtin "object.__new__",[]) { s with toks:=s.toks + 1 }):wpAny (model prog w) A (getMethod (.type "object") (Str.ofString "__new__") pl) Q E s:=by
 refine method_type (K:=K) (T := "object") (name:=Str.ofString "__new__") (v:=.builtin "object.__new__") F X₀ ?_ ?_ e ?_ h
 ·exact PyProof.Rows.meta_object
 ·exact z62
 ·exact zyr
section
variable {prog:Program} {w:World} {A:Around} {P:Params} {R:Result→Shared→Prop} {h:Heap} {g:Array GenState} {d:Drawn} {t:Nat} {os:OsState}
theorem new_all (S:Setting) (D D2:Addr):(peek (KO P) S (checkBuiltinCall "object.__new__" ⟨[.ref 630],[]⟩),(peekA (KO P) S (Builtin.«object.__new__» ⟨[.ref 630],[]⟩)).map (·.1),(peekA (KO P) S (zi3 (KO P) S (Builtin.«object.__new__» ⟨[.ref 630],[]⟩) D)).map (·.1),peek (KO P) S (zi3 (KO P) S (zi3 (KO P) S (Builtin.«object.__new__» ⟨[.ref 630],[]⟩) D) D2)) =
  (some (),some emptyDict,some (instObj 630 D),some (PySem.Fin.done (.ret (.ref D2)))):=by kernel_rfl
theorem new_own (X:(KO P).In h) (hq:R (.ok (.ret (.ref (h.objs.size + 1)))) ⟨(h.push emptyDict).push (instObj 630 h.objs.size),g,d,t,os⟩):
  codeAny (model prog w) A (.call (.builtin "object.__new__") ⟨[.ref 630],[]⟩) R ⟨h,g,d,t,os⟩:=by
 have X1:(KO P).In (h.push emptyDict):=X.keeps fun b o e=>Heap.get?_push_of_some _ e
 have X2:(KO P).In ((h.push emptyDict).push (instObj 630 h.objs.size)):=X1.keeps fun b o e=>Heap.get?_push_of_some _ e
 refine codeAny_call_builtin_code (Code.quiet_builtin _ PySem.F.objNew.quiet) ?_
 obtain ⟨e0,e⟩:=Prod.mk.inj (new_all (P:=P) ⟨prog,w.params⟩ h.objs.size (h.push emptyDict).objs.size)
 obtain ⟨e1,e⟩:=Prod.mk.inj e
 obtain ⟨e2,e3⟩:=Prod.mk.inj e
 have L:Looks (model prog w) h (checkBuiltinCall "object.__new__" ⟨[.ref 630],[]⟩) ():=Looks.of_peek X e0
 refine L.at ?_
 refine codeAny_builtin PySem.F.objNew.entry ?_
 refine zjc X _ e1 ?_
 show wpAny (model prog w) _ (zi3 (KO P) ⟨prog,w.params⟩ (Builtin.«object.__new__» ⟨[.ref 630],[]⟩) h.objs.size) _ _ ⟨h.push emptyDict,g,d,t,os⟩
 generalize zi3 (KO P) ⟨prog,w.params⟩ (Builtin.«object.__new__» ⟨[.ref 630],[]⟩) h.objs.size = T at e2 e3 ⊢
 refine zjc X1 _ e2 ?_
 show wpAny (model prog w) _ (zi3 (KO P) ⟨prog,w.params⟩ T (h.push emptyDict).objs.size) _ _ ⟨(h.push emptyDict).push (instObj 630 h.objs.size),g,d,t,os⟩
 generalize zi3 (KO P) ⟨prog,w.params⟩ T (h.push emptyDict).objs.size = T2 at e3 ⊢
 have L3:Looks (model prog w) ((h.push emptyDict).push (instObj 630 h.objs.size)) T2 (PySem.Fin.done (.ret (.ref (h.push emptyDict).objs.size))):=Looks.of_peek X2 e3
 refine L3.at ?_
 show R (.ok (.ret (.ref (h.push emptyDict).objs.size))) _
 rw [Heap.size_push]
 exact hq
noncomputable def sc_new:Scope:=zbj z0c
theorem z17:sc_new.kind = .function∧sc_new.names.lookup (Str.ofString "cls") = some .local∧sc_new.names.lookup (Str.ofString "BytesIO") = some .globalImplicit∧sc_new.names.lookup (Str.ofString "StringIO") = some .globalImplicit∧sc_new.names.lookup (Str.ofString "object") = some .globalImplicit∧
  zwo sc_new [Str.ofString "cls",Str.ofString "args",Str.ofString "kwargs"] = true:=⟨by kernel_rfl,by kernel_rfl,by kernel_rfl,by kernel_rfl,by kernel_rfl,by kernel_rfl⟩
noncomputable def wallS:List Stmt:=match zar z0c with
 | .If _ b _ _::_=>b
 | _=>[]
theorem z66:∃ wl:List Stmt,zar z0c = [.If (.BoolOp .And [.Compare (.Name "cls" ⟨77,11,77,14⟩) [.IsNot] [.Name "BytesIO" ⟨77,22,77,29⟩] ⟨77,11,77,29⟩,.Compare (.Name "cls" ⟨77,34,77,37⟩) [.IsNot] [.Name "StringIO" ⟨77,45,77,53⟩] ⟨77,34,77,53⟩] ⟨77,11,77,53⟩) wl [] ⟨77,8,78,20⟩,
  .Return (some (.Call (.Attribute (.Name "object" ⟨79,15,79,21⟩) "__new__" ⟨79,15,79,29⟩) [.Name "cls" ⟨79,30,79,33⟩] [] ⟨79,15,79,34⟩)) ⟨79,8,79,34⟩]:=⟨wallS,by kernel_rfl⟩
theorem new_ns (P:Params):nsIn (KO P) mainGlobals "BytesIO" = some (some (.ref 383))∧nsIn (KO P) mainGlobals "StringIO" = some (some (.ref 630))∧nsIn (KO P) mainGlobals "object" = some none∧bootBuiltins "object" = some (.type "object"):=⟨by kernel_rfl,by kernel_rfl,by kernel_rfl,by kernel_rfl⟩
theorem zs2 {M:Model} {env:Env} {o:Expr} {x:Str} {apos pos:Pos} {es:List Expr} {s:Shared} {Q:Value→Shared→Prop} {E:Value→Shared→Prop} (hm:okM o apos pos es = true)
  (h:wpAny M A (eval o env) (fun ov s1=>∃ p s2,(∀ (pl:Sem Bool) Q',Q' p s2→wpAny M A (getMethod ov x pl) Q' E s1)∧wpAny M A (callWith pos p.1 p.2 (backTo pos (starEach es env)) []) Q E s2) E s):
  wpAny M A (eval (.Call (.Attribute o x apos) es [] pos) env) Q E s:=by
 obtain ⟨h1,h2,h3,h4⟩:=zno hm
 rw [arm_eval_Call,zb8 h1]
 refine wpAny_bind (wpAny_mono h (fun ov s1 h=>wpAny_bind (wpAny_standAt ?_)) fun _ _ e=>e)
 obtain ⟨p,s2,hg,hc⟩:=h
 unfold methodCall
 have few:methodCallForm (es.length + ([]:List Keyword).length) (backTo pos (starEach es env)) (backToKw pos (keywordEach [] env)) = true:=by
  unfold methodCallForm
  rw [zht h4]
  show (true && true && decide (es.length + 0 + _ < 30)) = true
  simp only [Bool.true_and,decide_eq_true_eq]
  show es.length + 0 + 0 < 30
  omega
 rw [few]
 refine wpAny_bind (wpAny_holding (hg _ _ ?_))
 refine wpAny_bind ?_
 unfold methodCallPos
 rw [h2]
 exact wpAny_pure hc
theorem okM_new:okM (.Name "object" ⟨79,15,79,21⟩) ⟨79,15,79,29⟩ ⟨79,15,79,34⟩ [.Name "cls" ⟨79,30,79,33⟩] = true:=by kernel_rfl
theorem sio_cls (P:Params):∃ ob,(KO P).lookup 630 = some ob∧ob.cls = .type "type" := ⟨ko630 P,by kernel_rfl,by kernel_rfl⟩
theorem z4o (P:Params):∃ ob,(KO P).lookup 383 = some ob∧ob.cls = .type "type" := ⟨ko383 P,by kernel_rfl,by kernel_rfl⟩
theorem new630 {mg mb:Str→Option Value} (X:(KO P).In h) (T:TopS mg mb h) (hP:w.params = P) (v:Value) (hroom:A.depth < 1000)
  (hq:∀ h' x dx tk,(∀ b o,h.get? b = some o→h'.get? b = some o)→h.get? x = none→h.get? dx = none→h'.get? x = some (instObj 630 dx)→h'.get? dx = some emptyDict→t≤tk→R (.ok (.ret (.ref x))) ⟨h',g,d,tk,os⟩):
  codeAny (model prog w) A (.call (.ref 123) ⟨[.ref 630,v],[]⟩) R ⟨h,g,d,t,os⟩:=by
 obtain ⟨q1,q2,q3,q4,q5,q6⟩:=z65 P
 obtain ⟨n1,n2,n3,n4,n5,n6⟩:=z17
 simp only [zwo,Bool.and_eq_true,Bool.not_eq_true',beq_iff_eq,List.all_eq_true,bne_iff_ne,ne_eq] at n6
 obtain ⟨⟨⟨⟨g1,g2⟩,g3⟩,g4⟩,g5⟩:=n6
 refine codeAny_call_function (fd:=fNew) (body:=zar z0c) hroom (X _ _ q1) rfl g2 g3 rfl (codeRec_of X q2) ?_
 refine zjc X _ (nb1 _ v) ?_
 have X1:(KO P).In (h.push { cls:=.type "tuple",data:=.seq #[v] }):=X.keeps fun b o e=>Heap.get?_push_of_some _ e
 refine zjc X1 _ (nb2 _ v _) ?_
 rw [nb3]
 refine wpAny_pure ?_
 have kp:∀ b o,h.get? b = some o→((h.push { cls:=.type "tuple",data:=.seq #[v] }).push (dictOf [] 0)).get? b = some o:=fun b o e=>Heap.get?_push_of_some _ (Heap.get?_push_of_some _ e)
 have hlt:h.objs.size < ((h.push { cls:=.type "tuple",data:=.seq #[v] }).push (dictOf [] 0)).objs.size:=by rw [Heap.size_push,Heap.size_push]; omega
 generalize (h.push { cls:=.type "tuple",data:=.seq #[v] }).push (dictOf [] 0) = hb at *
 refine wpAny_newFunctionEnv g1 (fun x hx=>g5 x.1 ?_) (fun h1 hns hsb=>⟨(T.nolimit.keeps kp).fresh _ hsb,codeAny_func ?_⟩) g4
 ·simp only [List.mem_cons,List.not_mem_nil,or_false] at hx ⊢
  rcases hx with rfl | rfl | rfl <;> simp
 have kp1:∀ b o,hb.get? b = some o→h1.get? b = some o:=fun b o e=>hsb.extBut b o (Nat.ne_of_lt (Heap.lt_size e)) (Heap.get?_push_of_some _ e)
 have kp2:∀ b o,h.get? b = some o→h1.get? b = some o:=fun b o e=>kp1 _ _ (kp _ _ e)
 have X2:(KO P).In h1:=X.keeps kp2
 have T2:=T.keeps kp2
 have F:Fr h hb.objs.size h1 _:=⟨hns,kp2,Nat.le_of_lt hlt⟩
 have esc:(newEnv fNew.scope hb.objs.size fNew.globals fNew.closure (fNew.qualname ++ ".<locals>.") (some 123) fNew.code none fNew.builtins).scope = sc_new:=by kernel_rfl
 have eloc:(newEnv fNew.scope hb.objs.size fNew.globals fNew.closure (fNew.qualname ++ ".<locals>.") (some 123) fNew.code none fNew.builtins).locals = hb.objs.size:=by kernel_rfl
 have egl:(newEnv fNew.scope hb.objs.size fNew.globals fNew.closure (fNew.qualname ++ ".<locals>.") (some 123) fNew.code none fNew.builtins).globals = mainGlobals:=by kernel_rfl
 have ebl:(newEnv fNew.scope hb.objs.size fNew.globals fNew.closure (fNew.qualname ++ ".<locals>.") (some 123) fNew.code none fNew.builtins).builtins = builtinsNs:=by kernel_rfl
 dsimp only at hns hsb ⊢
 generalize newEnv fNew.scope hb.objs.size fNew.globals fNew.closure (fNew.qualname ++ ".<locals>.") (some 123) fNew.code none fNew.builtins = env at *
 have ek:env.scope.kind = .function:=by rw [esc]; exact n1
 have ld:∀ {A:Around} {tk:Nat} {Q:Value→Shared→Prop} {E:Value→Shared→Prop},Q (.ref 630) ⟨h1,g,d,tk,os⟩→wpAny (model prog w) A (loadName env "cls") Q E ⟨h1,g,d,tk,os⟩:=fun q=>
  wpAny_loadName_local ek (by show env.scope.names.lookup _ = _; rw [esc]; exact n2) (by rw [eloc]; exact hns) rfl q
 have ns:=new_ns P
 have lg:∀ {A:Around} {tk:Nat} {x:Str} {u:Value} {Q:Value→Shared→Prop} {E:Value→Shared→Prop},sc_new.names.lookup x = some .globalImplicit→nsIn (KO P) mainGlobals x = some (some u)→Q u ⟨h1,g,d,tk,os⟩→wpAny (model prog w) A (loadName env x) Q E ⟨h1,g,d,tk,os⟩:=fun a b q=>
  ks_loadName_global ek (by show env.scope.names.lookup _ = _; rw [esc]; exact a) (loadGlobal_global (by rw [egl]; exact T2.g) (mg_of X2 T2.g b) q)
 have lb:∀ {A:Around} {tk:Nat} {Q:Value→Shared→Prop} {E:Value→Shared→Prop},Q (.type "object") ⟨h1,g,d,tk,os⟩→wpAny (model prog w) A (loadName env "object") Q E ⟨h1,g,d,tk,os⟩:=fun q=>
  ks_loadName_global ek (by show env.scope.names.lookup _ = _; rw [esc]; exact n5) (loadGlobal_builtin (by rw [egl]; exact T2.g) (mg_none_of X2 T2.g ns.2.2.1) (by rw [ebl]; exact T2.b) ((T2.builtins _ (by decide +kernel)).trans ns.2.2.2) q)
 obtain ⟨wl,hwl⟩:=z66
 rw [hwl]
 obtain ⟨ob,hob,_⟩:=z4o P
 obtain ⟨oc,od,cd,sl,hC,e1,e2,_⟩:=zqv X2 (zqa P).1
 obtain ⟨o6,ho6,hc6⟩:=sio_cls P
 have gm:∀ {A:Around} {tk:Nat} {pl:Sem Bool} {Q':Value×List Value→Shared→Prop} {E:Value→Shared→Prop},Q' (.builtin "object.__new__",[]) ⟨h1,g,d,tk + 1,os⟩→wpAny (model prog w) A (getMethod (.type "object") "__new__" pl) Q' E ⟨h1,g,d,tk,os⟩:=fun q=>
  gm_obj (s:=⟨h1,g,d,_,os⟩) F X q6 q
 refine wpAny_noRaise (wpAny_execs_cons (wpAny_If (wpAny_isTrue_BoolOp ?_)))
 rw [zdk]
 refine wpAny_bind (wpAny_isTrue_Compare1 (wpAny_Name (ld (wpAny_Name (lg n3 ns.1 (wpAny_isNot_ref_other (by decide) (X2 _ _ ho6) (X2 _ _ hob) (by rw [hc6]; decide) (wpAny_truthy_bool ?_))) (by decide))) (by decide)) rfl)
 dsimp only
 rw [zdk]
 refine wpAny_bind (wpAny_isTrue_Compare1 (wpAny_Name (ld (wpAny_Name (lg n4 ns.2.1 (wpAny_isNot_ref_self (wpAny_truthy_bool ?_))) (by decide))) (by decide)) rfl)
 dsimp only
 refine wpAny_pure ?_
 rw [if_neg (by decide)]
 refine wpAny_execs_nil ?_
 refine wpAny_execs_cons (wpAny_Return_some ?_)
 refine zs2 okM_new ?_
 refine wpAny_Name (lb ?_) (by decide)
 refine ⟨(.builtin "object.__new__",[]),⟨h1,g,d,_,os⟩,fun pl Q' q=>gm q,?_⟩
 refine Calls.callWith_builtin (zbx rfl) (zb7 rfl (wpAny_items_cons (wpAny_Name (ld (wpAny_items_nil ?_)) (by decide))))
 refine wpAny_call (new_own X2 ?_)
 have nn:∀ k,h1.objs.size≤k→h.get? k = none:=fun k hk=>by
  cases q:h.get? k with
  | none=>rfl
  | some o=>exact absurd (Heap.lt_size (kp2 _ _ q)) (Nat.not_lt.mpr hk)
 refine hq _ (h1.objs.size + 1) h1.objs.size _ (fun b o e=>Heap.get?_push_of_some _ (Heap.get?_push_of_some _ (kp2 b o e))) ?_ ?_ ?_ ?_ ?_
 ·exact nn _ (Nat.le_succ _)
 ·exact nn _ (Nat.le_refl _)
 ·heap_get
 ·exact Heap.get?_push_of_some _ (Heap.get?_push_size _ rfl)
 ·exact Nat.le_trans (Nat.le_add_right _ _) (Nat.le_succ _)
theorem cls630 {B:Base} (hP:B.K = KO B.w.params) (hfn:B.fn = fnT) (hk:B.K.In B.h₀) (hT:TopS B.mg B.mb B.h₀):ClsOk B 630 400:=by
 intro A s R vs kw hf keep hd hu hh hinit
 have X:(KO B.w.params).In s.heap:=by have:=hk.keeps keep; rw [hP] at this; exact this
 have T:=hT.keeps keep
 obtain ⟨⟨v,rfl⟩,rfl⟩:(∃ v,vs = [v])∧kw = []:=by
  rw [hfn] at hf
  have e:∀ n ns,fnT 400 n ns = if 400 = 400∧n = 2∧ns = ([]:List Str) then some zph else none:=fun n ns=>by kernel_rfl
  rw [e] at hf
  by_cases q:400 = 400∧vs.length + 1 = 2∧kw.map (·.1) = []
  ·exact ⟨List.length_eq_one_iff.mp (Nat.succ.inj q.2.1),List.map_eq_nil_iff.mp q.2.2⟩
  ·rw [if_neg q] at hf; cases hf
 obtain ⟨h,g,d,t,os⟩:=s
 obtain ⟨f1,f2,f3,f4,f5,f6⟩:=zqa B.w.params
 obtain ⟨n1,n2,n3,n4,n5⟩:=sio_new B.w.params
 obtain ⟨oc,od,cd,sl,hC,e1,e2,e4⟩:=zqv X f1
 have call:Looks (model B.prog B.w) h (specialOf (.ref 630) "__call__") (some (.builtin "type.__call__")):=looks_specialIn X f2
 have typ:Looks (model B.prog B.w) h (isInstance (.ref 630) (.type "type")) true:=looks_instIn X f3
 have made:Looks (model B.prog B.w) h (Bind.madeBy (.ref 630)) none:=Looks.of_peek X (z56 B.w.params _).1
 refine codeAny_of_tree ?_
 show wpAny _ _ (callAny (.ref 630) _) _ _ _
 refine nd_load hC ?_
 show wpAny _ _ (callAny.viaDunder (.ref 630) _) _ _ _
 unfold callAny.viaDunder
 refine wpAny_bind (call.at ?_)
 dsimp only
 rw [tc_bind]
 refine wpAny_bind (wpAny_pure (wpAny_bind (wpAny_pure ?_)))
 refine wpAny_pure (a:=Fin.again (.call (.builtin "type.__call__") ⟨[.ref 630,v],[]⟩)) (And.intro rfl ?_)
 refine codeAny_call_builtin_at (Code.quiet_builtin _ (by decide +kernel)) entry_typeCall (check_slot tc_kind tc_split typ (tc_args _ _ _) ?_)
 unfold Builtin.«type.__call__»
 have hm:Looks (model B.prog B.w) h (mroOf (.ref 630)) cd.mro:=((Looks.ld (part:=none) hC).andThen .now).andThen .now
 repeat (first | rw [if_neg (show ¬ cd.mro.isEmpty = true by rw [e4]; exact Bool.false_ne_true)] | with_reducible refine cls_bind (C:=630) X n2 n3 (wpAny_call (sm_get (s:={ heap:=h,gens:=g,drawn:=d,toks:=t + 1,os:=os }) X n4 (handed_on n5 ?_))) | with_reducible refine wpAny_call ?_ | lk)
 refine new630 X T rfl v ?_ (fun h' x dx tk kp nx ndx gx gdx tt=>?_)
 ·have:(Code.builtin "type.__call__" ⟨[.ref 630,v],[]⟩).weight≤2:=Nat.le_of_ble_eq_true (by kernel_rfl)
  show A.depth + _ < 1000
  omega
 have X':=X.keeps kp
 have t1:Looks (model B.prog B.w) h' (typeOf (.ref x)) (.ref 630):=(Looks.ld gx).andThen .now
 have s1:Looks (model B.prog B.w) h' (isSubtype (.ref 630) (.ref 630)) true:=looks_subIn X' f6
 have i1:Looks (model B.prog B.w) h' (typeLookup (.ref 630) "__init__") (some (.ref 400)):=looks_findIn X' f4
 have b1:Looks (model B.prog B.w) h' (bindSpecial (.ref 400) (.ref x)) (.ref 400,[.ref x]):=bind_fn X' (.ref x) f5
 unfold isInstance callSpecial? specialOf
 repeat (first | with_reducible refine wpAny_call ?_ | lk)
 refine codeAny_mono (hinit _ h' x dx 0 tk rfl hh ?_ ?_ kp nx ndx gx gdx (Nat.le_of_succ_le tt)) fun r s' z=>?_
 ·exact Nat.add_le_add_left (Nat.le_of_ble_eq_true (by kernel_rfl)) _
 ·exact Nat.add_le_add_left (Nat.le_of_ble_eq_true (by kernel_rfl)) _
 rcases r with e | (u | _ | _ | _) <;> first | exact z | exact z.elim | skip
 obtain ⟨rfl,z⟩:=z
 exact wpAny_pure (wpAny_pure z)
theorem ok_of {K:Wd} (hP:K.F = KO K.w.params) (hk:K.F.In K.h₀) (hT:TopS K.mg K.mb K.h₀):Ok (prg K):=by
 refine ⟨⟨hk,hT,fun x v h=>?_⟩,okA_of hP,⟨okF_fn hP hk,fun a fi h=>?_⟩,okI_of hP⟩
 ·show zu4 K.F x = some v
  rw [hP]
  exact List.map_inj_left.mp (gl_all K.w.params) _ (z2l h)
 have h:(if a = 765 then some 689 else if a = 630 then some 400 else none) = some fi:=h
 rcases z27 h with ⟨rfl,rfl⟩ | h
 ·exact cls765 (B:=prg K) hP hk
 rcases z27 h with ⟨rfl,rfl⟩ | h
 ·exact cls630 (B:=prg K) hP rfl hk hT
 ·cases h
end
noncomputable abbrev wOf (w:World) (h₀:Heap) (mg mb:Str→Option Value):Wd:=⟨KO w.params,thePw,w,h₀,mg,mb⟩
noncomputable abbrev bOf (w:World) (h₀:Heap) (mg mb:Str→Option Value):Base:=prg (wOf w h₀ mg mb)
noncomputable def fLaw:FuncData:=kFd zhh "law" "law" Value.none "law_oy0352_01" 2731 807
theorem z7o (a:Addr):bindArgs fLaw ⟨[.ref a],[]⟩ = pure [(Str.ofString "script",.ref a)]:=by kernel_rfl
theorem law_obj (P:Params):(KO P).lookup 808 = some ⟨.type "function",none,.func fLaw,#[]⟩:=by kernel_rfl
theorem z7n (P:Params):codeIn (KO P) fLaw.code fLaw.qualname = true:=by kernel_rfl
theorem zru (L:Nat):(callEnvC fLaw L 808).cells.lookup (Str.ofString "script") = some (L + 1)∧(callEnvC fLaw L 808).cells.lookup (Str.ofString "own") = some (L + 2)∧((cellsFrom (L + 1) fLaw.scope.names []).lookup (Str.ofString "script")).isSome = true:=⟨by kernel_rfl,by kernel_rfl,by kernel_rfl⟩
theorem zg0:sc_law.names.lookup (Str.ofString "script") = some .cell∧sc_law.names.lookup (Str.ofString "own") = some .cell:=⟨by kernel_rfl,by kernel_rfl⟩
theorem law_cm (L a:Nat):bindC (callEnvC fLaw L 808).kindOf [(Str.ofString "script",.ref a)] (fun _=>none) (Str.ofString "script") = some (.ref a)∧bindC (callEnvC fLaw L 808).kindOf [(Str.ofString "script",.ref a)] (fun _=>none) (Str.ofString "own") = none:=⟨by kernel_rfl,by kernel_rfl⟩
noncomputable def zxo:Expr→Option Int
 | .Constant (.int i) _ _=>some i
 | _=>none
theorem zve {e:Expr} {i:Int} (h:zxo e = some i):∃ k p,e = .Constant (.int i) k p:=by
 cases e with
 | Constant c k p=>cases c with
   | int j=>cases h; exact ⟨_,_,rfl⟩
   | _=>cases h
 | _=>cases h
noncomputable def ownE:List Expr:=[.Constant (.int 7) 0 ⟨864,11,864,12⟩,.Constant (.int 12) 0 ⟨864,14,864,16⟩,.Constant (.int 9) 0 ⟨864,18,864,19⟩,.Constant (.int 3) 0 ⟨864,21,864,22⟩,.Constant (.int 1) 0 ⟨864,24,864,25⟩,.Constant (.int 28) 0 ⟨864,27,864,29⟩,.Constant (.int 2) 0 ⟨864,31,864,32⟩,.Constant (.int 1) 0 ⟨864,34,864,35⟩,.Constant (.int 3) 0 ⟨864,37,864,38⟩,.Constant (.int 4) 0 ⟨864,40,864,41⟩,.Constant (.int 1) 0 ⟨864,43,864,44⟩,.Constant (.int 12) 0 ⟨864,46,864,48⟩,.Constant (.int 26) 0 ⟨864,50,864,52⟩,.Constant (.int 3775) 0 ⟨864,54,864,58⟩]
theorem law_st0:zar zhh = .Assign [.Name "own" ⟨864,4,864,7⟩] (.List ownE ⟨864,10,864,59⟩) ⟨864,4,864,59⟩::(lwA++[lwT1,lwT2,lwR]):=by kernel_rfl
theorem ints_ok {M:Model} {A:Around} {E:Value→Shared→Prop} {env:Env} {pos:Pos} (es:List Expr):∀ (is:List Int) (s:Shared) (Q:List Value→Shared→Prop),es.map zxo = is.map some→(∀ ws tk,VRs [] (is.map .int) ws→s.toks + is.length≤tk→Q ws { s with toks:=tk })→wpAny M A (spliced (backTo pos (starEach es env))) Q E s:=by
 induction es with
 | nil=>
   intro is s Q h hq
   cases is with
   | nil=>exact wpAny_items_nil (hq [] s.toks trivial (Nat.le_refl _))
   | cons=>cases h
 | cons e es ih=>
   intro is s Q h hq
   cases is with
   | nil=>cases h
   | cons i is=>
     obtain ⟨h1,h2⟩:=List.cons.inj h
     obtain ⟨k,p,rfl⟩:=zve h1
     exact wpAny_items_cons (wpAny_Constant_int (ih is _ _ h2 fun ws tk r t=>hq (.int i s.toks::ws) tk ⟨⟨_,rfl⟩,r⟩ (Nat.le_trans (Nat.le_of_eq (Nat.succ_add_eq_add_succ s.toks is.length).symm) t))) rfl
theorem ownE_is:ownE.map zxo = OWN.map some:=by kernel_rfl
theorem sw_name {x:Str} {p:Pos} {e:Expr} {env:Env}:swappedStores [.Name x p] e env = pure none:=rfl
theorem ae_name {x:Str} {p:Pos} {env:Env}:(assignEach [.Name x p] env).map (·.2) = [assign (.Name x p) env]:=rfl
theorem ic_list {es:List Expr} {p:Pos}:zb5 (.List es p) = false:=rfl
theorem z2u {B:Base} {A:Around} {env:Env} {s:Shared} {p p2 p3:Pos} {Q:Shared→Prop} {E:Value→Shared→Prop} {es:List Expr} {is:List Int} (he:es.map zxo = is.map some) (hn:is.length≤sizeLine)
  (h:∀ ws tk,VRs [] (is.map .int) ws→s.toks + is.length≤tk→wpAny (model B.prog B.w) A (storeName env "own" (.ref s.heap.objs.size)) (fun _=>Q) E { s with heap:=s.heap.push (listOf ws.toArray 0),toks:=tk }):
  wpAny (model B.prog B.w) A (exec (.Assign [.Name "own" p] (.List es p2) p3) env) (fun f s'=>f = .next∧Q s') E s:=by
 refine zcy ic_list sw_name ae_name (wpAny_List (ints_ok es is s _ he fun ws tk r t=>⟨?_,?_⟩))
 ·rw [← r.len,List.length_map]; exact hn
 rw [PySem.assign_Name]
 refine wpAny_bind (wpAny_standAt ?_)
 unfold bindName
 exact wpAny_bind (wpAny_holding (wpAny_point (wpAny_bind (wpAny_mono (h ws tk r t) (fun _ s' q=>wpAny_point ⟨rfl,q⟩) fun _ _ q=>q))))
section
variable {w:World} {h₀:Heap} {mg mb:Str→Option Value} {s:Shared} {a:Addr} {vs:List Value} {n:Nat} {script:List Int}
theorem z7m (hO:Ok (bOf w h₀ mg mb)) {A:Around} {env:Env} {ρ:List Cell} {H:Hp} {o:Obj} (S:Sx (bOf w h₀ mg mb) A env [] s ρ H 7 sc_law (lk [("own",.obj 1),("script",.obj 0)])) (hH0:H[0]? = some (.fix o (script.map .int))) (hH1:H[1]? = some (.list (OWN.map .int))) (hr:ρ[0]? = some (a,a)):
  wpAny (model thePw w) A (execs (lwA++[lwT1,lwT2,lwR]) env) (fun f s'=>f = .ret (.bool true)∧(∀ b x,h₀.get? b = some x→s'.heap.get? b = some x)∧s'.heap.get? a = some o∧s'.gens = s.gens∧s'.os = s.os) (fun e s'=>wpAny (model thePw w) A (noteFrame e env) (fun _ _=>False) (fun _ _=>False) s') s:=by
 have h:=law_all (gw_KO (wOf w h₀ mg mb)) (gl_KO _) (gq_KO rfl) 0 0 1 script H (fun p H'=>p.1 = .ret (.bool true)∧H'[0]? = some (.fix o (script.map .int))) (fun _ _=>False) hH0 hH1 fun _ _ h=>⟨rfl,h⟩
 refine wpAny_mono (h hO (A:=A) (env:=env) (outer:=[]) (s:=s) (ρ:=ρ) ⟨S,(Ext.refl _ _).l,S.c.ff,S.c.si.keep⟩) (fun f s4 p=>?_) fun e s4 p=>?_
 ·obtain ⟨x,m2,H2,ρ4,r,N,hx,hf⟩:=p
  obtain rfl:x = .ret (.bool true):=hx
  obtain ⟨v',rfl,rel⟩:=r
  have hob:=N.cx.c.si.hr.obj 0 (a,a) _ (N.ext.p.get hr) hf
  obtain ⟨_,g,_⟩:=hob
  exact ⟨by rw [show v' = .bool true from rel],N.cx.c.si.keep,g,N.ext.gens,N.ext.os⟩
 ·exact wpAny_mono p.2 (fun _ _ z=>by cases z with | mk _ _ _ q=>exact q) fun _ _ z=>z
theorem law_run (hO:Ok (bOf w h₀ mg mb)) (keep:∀ b o,h₀.get? b = some o→s.heap.get? b = some o) {o:Obj} (ha:s.heap.get? a = some o) (hlist:∀ h':Heap,h'.get? a = some o→h'.IsList a vs.toArray) (hv:VRs [(a,a)] (script.map .int) vs) (hl:script.length≤63) (h0:h₀.get? a = none):
  wpAny (model thePw w) callerA (PySem.call (.ref 808) [.ref a]) (fun v s'=>v = .bool true∧(∀ b o,h₀.get? b = some o→s'.heap.get? b = some o)∧s'.heap.get? a = some o∧s'.gens = s.gens∧s'.os = s.os) (fun _ _=>False) s:=by
 have I0:SI (bOf w h₀ mg mb) [(a,a)] [.fix o (script.map .int)] s:=by
  refine ⟨keep,⟨rfl,fun i c o' h1 h2=>?_,fun i j c e h1 h2 hij=>?_⟩,fun c hc=>?_⟩
  ·have hi:i = 0:=by have:=(List.getElem?_eq_some_iff.mp h1).1; simp at this; lia
   subst hi
   obtain rfl:(a,a) = c:=Option.some.inj h1
   obtain rfl:O.fix o (script.map .int) = o':=Option.some.inj h2
   exact ⟨⟨rfl,by simp only [List.length_map,cap]; lia⟩,ha,vs,hlist,hv⟩
  ·have hi:i = 0:=by have:=(List.getElem?_eq_some_iff.mp h1).1; simp at this; lia
   have hj:j = 0:=by have:=(List.getElem?_eq_some_iff.mp h2).1; simp at this; lia
   lia
  ·obtain rfl:=List.mem_singleton.mp hc
   exact ⟨h0,h0⟩
 have K:=KIn hO.k I0
 have T:=hO.k.top.keeps keep
 refine wpAny_call (codeAny_call_cells (fd:=fLaw) (o:=⟨.type "function",none,.func fLaw,#[]⟩) (body:=zar zhh) (binds:=[(Str.ofString "script",.ref a)]) (by show 1 + claimMargin < recursionLimit; decide +kernel) (K _ _ (law_obj w.params)) rfl T.nolimit (codeRec_of K (z7n w.params)) rfl (z7o a) rfl
  (fun x hx=>?_) (fun s₁ X=>?_) (by kernel_rfl) (by kernel_rfl) (by kernel_rfl))
 ·obtain rfl:=List.mem_singleton.mp hx
  exact .inr ⟨zg0.1,(zru _).2.2⟩
 obtain ⟨h',tk,rfl,kp⟩:=X.done
 have hk':∀ b o,h₀.get? b = some o→h'.get? b = some o:=fun b o e=>kp b o (keep b o e)
 have q1:=I0.same (s':={ s with heap:=h',toks:=tk }) kp rfl rfl
 have hL:=za1 s.heap
 have offL:=I0.offNone hL
 have oldL:=I0.oldNone hL
 obtain ⟨cS,cO,_⟩:=zru s.heap.objs.size
 obtain ⟨mS,mO⟩:=law_cm s.heap.objs.size a
 have none_above:∀ k,s.heap.objs.size≤k→s.heap.get? k = none:=fun k hk=>Heap.get?_none_of_le hk
 obtain ⟨oS,hS,dS⟩:=X.cell _ _ cS
 rw [mS] at dS
 have isO:=X.cell _ _ cO
 rw [mO] at isO
 have ns:=X.toInCall.ns
 rw [law_st0]
 have own_is:=ownE_is
 generalize ownE = es at *
 have esc:(callEnvC fLaw s.heap.objs.size 808).scope = sc_law:=by kernel_rfl
 have eloc:(callEnvC fLaw s.heap.objs.size 808).locals = s.heap.objs.size:=by kernel_rfl
 have efr:(callEnvC fLaw s.heap.objs.size 808).frame = some s.heap.objs.size:=by kernel_rfl
 have egl:(callEnvC fLaw s.heap.objs.size 808).globals = mainGlobals:=by kernel_rfl
 have ebl:(callEnvC fLaw s.heap.objs.size 808).builtins = builtinsNs:=by kernel_rfl
 have ekd:sc_law.kind = .function:=by kernel_rfl
 generalize callEnvC fLaw s.heap.objs.size 808 = env at *
 have hlt:a < s.heap.objs.size:=Heap.lt_size ha
 have hcl:s.heap.objs.size + 2 < h'.objs.size:=isO.lt
 refine wpAny_mono (E:=fun e s'=>wpAny (model thePw w) (callerA.deeper env) (noteFrame e env) (fun _ _=>False) (fun _ _=>False) s') ?_ (fun _ _ q=>q) (fun e s' z=>by unfold leaving; exact wpAny_bind (wpAny_mono z (fun _ _ z=>z.elim) fun _ _ z=>z.elim))
 refine (wpAny_execs_cons (wpAny_mono (z2u (B:=bOf w h₀ mg mb) (Q:=_) (E:=_) own_is (by decide +kernel) fun ws tk2 r2 t2=>wpAny_storeName_cell (by rw [esc]; exact ekd) (by show env.scope.names.lookup _ = _; rw [esc]; exact zg0.2) cO (isO.keeps fun b o e=>Heap.get?_push_of_some _ e) fun h2 hc2 hs2=>?_) (fun f s' q=>by obtain ⟨rfl,q⟩:=q; exact q) fun _ _ q=>q))
 have kp2:∀ b o,b≠s.heap.objs.size + 2→h'.get? b = some o→h2.get? b = some o:=fun b o n e=>(hs2.2 b n).trans (Heap.get?_push_of_some _ e)
 have i2:=q1.1.add (s':={ heap:=h'.push (listOf ws.toArray 0),gens:=s.gens,drawn:=s.drawn,toks:=tk2,os:=s.os }) (c:=(h'.objs.size,h'.objs.size)) (o:=.list (OWN.map .int)) (fun b o e=>Heap.get?_push_of_some _ e) rfl rfl (za1 h') (za1 h') ⟨⟨rfl,by decide +kernel⟩,ws,0,Heap.get?_push_size _ rfl,r2.mono ⟨[(a,a),(h'.objs.size,h'.objs.size)],rfl⟩⟩
 have nl:∀ j:Nat,j≤2→s.heap.objs.size + j≠a∧s.heap.objs.size + j≠h'.objs.size:=fun j hj=>⟨Nat.ne_of_gt (Nat.lt_of_lt_of_le hlt (Nat.le_add_right _ _)),Nat.ne_of_lt (Nat.lt_of_le_of_lt (Nat.add_le_add_left hj _) hcl)⟩
 have offc:∀ k,k≠a→k≠h'.objs.size→Off [(a,a),(h'.objs.size,h'.objs.size)] k:=fun k n1 n2 c hc=>by
  rcases List.mem_cons.mp hc with rfl | hc
  ·exact ⟨n1,n1⟩
  ·obtain rfl:=List.mem_singleton.mp hc
   exact ⟨n2,n2⟩
 have i3:SI (bOf w h₀ mg mb) [(a,a),(h'.objs.size,h'.objs.size)] [.fix o (script.map .int),.list (OWN.map .int)] { heap:=h2,gens:=s.gens,drawn:=s.drawn,toks:=tk2,os:=s.os }:=
  i2.1.locals (k:=tk2) (I0.oldNone (none_above _ (Nat.le_add_right _ _))) (offc _ (nl 2 (by decide)).1 (nl 2 (by decide)).2) hs2
 obtain ⟨oO,hO2,dO⟩:=hc2
 have nsL:h2.Ns env.locals _:=(ns.keeps fun b o e=>Heap.get?_push_of_some _ e).sameBut hs2 (by rw [eloc]; exact Nat.ne_of_lt (Nat.lt_add_of_pos_right (by decide)))
 have LRx:LR (bOf w h₀ mg mb) [(a,a),(h'.objs.size,h'.objs.size)] env (lk [("own",.obj 1),("script",.obj 0)]) h2:=by
  refine ⟨⟨_,nsL,fun x v hx=>?_⟩,by rw [eloc]; exact oldL,by rw [eloc]; exact offc _ (nl 0 (by decide)).1 (nl 0 (by decide)).2⟩
  have hx':=z2l hx
  simp only [List.mem_cons,List.not_mem_nil,or_false,Prod.mk.injEq] at hx'
  rcases hx' with ⟨rfl,rfl⟩ | ⟨rfl,rfl⟩
  ·exact .inr ⟨by rw [esc]; exact zg0.2,_,oO,_,cO,hO2,dO,⟨_,rfl,rfl⟩,offc _ (nl 2 (by decide)).1 (nl 2 (by decide)).2⟩
  ·exact .inr ⟨by rw [esc]; exact zg0.1,_,oS,_,cS,kp2 _ _ (Nat.ne_of_lt (Nat.lt_succ_self _)) hS,dS,⟨_,rfl,rfl⟩,offc _ (nl 1 (by decide)).1 (nl 1 (by decide)).2⟩
 have FFx:FF (bOf w h₀ mg mb) [(a,a),(h'.objs.size,h'.objs.size)] [env] h2:=fun e he=>by
  obtain rfl:=List.mem_singleton.mp he
  obtain ⟨o,es,ep,ho,hd,_⟩:=nsL
  rw [eloc] at ho
  exact ⟨by rw [esc,ekd]; decide,s.heap.objs.size,o,efr,ho,⟨es,ep,hd⟩,oldL,offc _ (nl 0 (by decide)).1 (nl 0 (by decide)).2⟩
 have S:Sx (bOf w h₀ mg mb) (callerA.deeper env) env [] { heap:=h2,gens:=s.gens,drawn:=s.drawn,toks:=tk2,os:=s.os } [(a,a),(h'.objs.size,h'.objs.size)] [.fix o (script.map .int),.list (OWN.map .int)] 7 sc_law (lk [("own",.obj 1),("script",.obj 0)]):=
  ⟨⟨esc,⟨by rw [esc]; exact ekd,egl,ebl⟩,rfl,⟨by show 1 + claimMargin + 1 + 4 * 7 + 8 < 1000; decide +kernel,by show 4 + 3 + 40 * 7 + 100 < 9900; lia,rfl⟩,i3,LRx,FFx,Nat.le_trans (Nat.le_add_left 1 (tk + 13)) t2⟩,by rw [efr,eloc],nm0⟩
 refine wpAny_mono (z7m hO S rfl rfl rfl) (fun f s' p=>?_) fun _ _ p=>p
 obtain ⟨rfl,p⟩:=p
 exact ⟨rfl,p⟩
end
theorem zuh {h:Heap} {a b:Addr} {m:Str→Option Value} {o:Obj} (ho:h.get? a = some o) (hd:∀ es n,o.data≠.dict es n) (x:h.Ns b m):(hideAll h [a]).Ns b m:=by
 obtain ⟨ob,es,ep,h1,h2,r⟩:=x
 refine ⟨ob,es,ep,hideAll_get _ h1 fun q=>?_,h2,r⟩
 obtain rfl:=List.mem_singleton.mp q
 rw [ho] at h1; cases h1
 exact hd _ _ h2
noncomputable def znq (o:Obj):Bool:=match o.cls with
 | .type n=>n != "list"
 | _=>true
noncomputable def sizeO (o:Obj):Nat:=match o.data with
 | .seq v _=>v.size
 | _=>0
theorem k_lists (P:Params):((KO P).all fun p=>p.1 == 42 || znq p.2) = true:=by kernel_rfl
theorem k_map (P:Params):(KO P).lookup 42 = some (ko42 P)∧sizeO (ko42 P) = 256:=⟨by kernel_rfl,by kernel_rfl⟩
theorem law_ns (P:Params):nsIn (KO P) mainGlobals (Str.ofString "law") = some (some (.ref 808)):=by kernel_rfl
theorem z7x {ρ:List Cell} {vs:List Value} {ns:List Int} (h:IntsAre vs ns):VRs ρ (ns.map .int) vs:=by
 induction h with
 | nil=>trivial
 | cons n t _ ih=>exact ⟨⟨t,rfl⟩,ih⟩
theorem law_entry {w:World} {s:Shared} {q:Program} {loose:List Str} {mean:ExcName→Option Value} {mg mb:Str→Option Value} {a f:Addr} {vs:List Value} {ns:List Int} (KX:(KO w.params).In s.heap) (T:Top q loose mean mg mb s.heap)
  (hL:s.heap.IsList a vs.toArray) (hI:IntsAre vs ns) (hl:¬ 63 < ns.length) (hmg:mg (Str.ofString "law") = some (.ref f)):
  wpAny (model thePw w) callerA (PySem.call (.ref f) [.ref a]) (fun v s'=>v = .bool true∧(∀ b o,s.heap.get? b = some o→s'.heap.get? b = some o)∧s'.gens = s.gens∧s'.os = s.os) (fun _ _=>False) s:=by
 have e8:=mg_of KX T.g (law_ns w.params)
 rw [hmg] at e8
 obtain rfl:f = 808:=by injection e8 with e8; injection e8
 obtain ⟨o,ho,hc,n,hd⟩:=hL
 have hv:VRs [(a,a)] (ns.map .int) vs:=z7x hI
 have hlen:=hv.len
 rw [List.length_map] at hlen
 have hnd:∀ es n,o.data≠.dict es n:=fun es n e=>by rw [hd] at e; cases e
 have hk:(KO w.params).In (hideAll s.heap [a]):=fun b x e=>hideAll_get _ (KX b x e) fun hm=>by
  obtain rfl:=List.mem_singleton.mp hm
  have hx:=KX b x e
  rw [ho] at hx; cases hx
  have hb:=List.all_eq_true.mp (k_lists w.params) _ (zje e)
  have hn:znq o = false:=by unfold znq; rw [hc]; rfl
  simp only [hn,Bool.or_false,beq_iff_eq] at hb
  subst hb
  rw [(k_map w.params).1] at e
  cases e
  have hs:=(k_map w.params).2
  unfold sizeO at hs
  rw [hd] at hs
  have hs:vs.toArray.size = 256:=hs
  rw [List.size_toArray] at hs
  lia
 have hT:TopS mg mb (hideAll s.heap [a]):=⟨zuh ho hnd T.g,zuh ho hnd T.b,by obtain ⟨mc,h1,h2⟩:=T.nolimit; exact ⟨mc,zuh ho hnd h1,h2⟩,T.builtins⟩
 have hO:Ok (bOf w (hideAll s.heap [a]) mg mb):=ok_of (K:=wOf w (hideAll s.heap [a]) mg mb) rfl hk hT
 refine wpAny_mono (law_run hO (fun b x e=>of_hideAll _ e) ho (fun h' e=>⟨o,e,hc,n,hd⟩) hv (by lia) (hideAll_none _ (.head _))) (fun v s' p=>?_) fun _ _ p=>p
 obtain ⟨p1,p2,p3,p4,p5⟩:=p
 refine ⟨p1,fun b x e=>?_,p4,p5⟩
 by_cases q:b = a
 ·subst q
  rw [ho] at e; cases e
  exact p3
 ·exact p2 _ _ (hideAll_get _ e fun hm=>q (List.mem_singleton.mp hm))
theorem h_body:behindTheImports thePw = hL1++(hL2++(hL3++[])):=by kernel_rfl
noncomputable def hK:Hook:=kHook KO KA ka_eq
theorem h_left:LeftO thePw hQ zxd (fun _=>true) hK.obs hK.val 44576:=by
 refine left_of (H₀:=hH0) (gs₀:=Array.mk []) (d₀:=hdr0) (k₀:=htk0) (m₀:=29) (ann:=some (.ref 6)) (M:=12 + (1 + (9700 + (7900 + (5200 + 3))))) h_open h_size (fun w os=>?_) (by kernel_rfl)
 obtain ⟨⟨fl,sT,c,p⟩,e,eq⟩:=Option.map_eq_some_iff.mp (congrFun (h_three w) os)
 simp only [F3,Prod.mk.injEq] at eq
 obtain ⟨rfl,⟨rfl,rfl⟩,l1,l2,l3⟩:=eq
 refine ⟨sT.abs,?_,l1,l2,l3⟩
 have r3:=piece_app (rest:=[]) (segRun_of e) (fin_run sT.abs)
 have r2:=piece_app (segRun_of (congrFun (h_two w) os)) r3
 have r1:=piece_app (segRun_of (congrFun (h_one w) os)) r2
 rw [← h_body] at r1
 exact go_top (h_pre w os) (piece_block (h_block w os) r1)
end
end Mine
open Mine
set_option maxHeartbeats 8000000 in
theorem PySem.Challenge.cw_oy0352_01_holds : PySem.Challenge.rw_oy0352_01.Holds := by
 w_on
 refine holds_law said_ fun said=>?_
 refine holds_open (q:=hQ) (loose:=zxd) (Xt:=fun _=>true) (XP:=fun _ _=>True) (Yf:=hK.obs) (Ya:=hK.val) (YP:=hK.says) (N:=44576) h_left hK.of hK.keeps (fun _ _=>trivial) (fun _ _ _ _ _=>trivial) (by rfl) (by rfl) (by rfl) (fun s e=>recFacts_of (by rfl)) (by rfl) (by first | assumption | decide +kernel) (by decide +kernel) ⟨rfl,rfl,rfl,rfl,rfl,by decide +kernel⟩ ?hw ?hc
 case hw=>w_witness2
 intro w s₀ s₁ mg mb G Y fa o pm cd doc dV kV ho hd hcd hD hmg hg args vals as hpre hlay hrd hwl hlo
 have KX:(KO w.params).In s₁.heap:=kIn_of (K:=KO) (as:=KA) (e:=ka_eq) Y
 have hmg':mg (Str.ofString "law") = some (.ref fa):=hmg
 clear hd hcd hD ho hmg
 refine Ground.open G ?_
 intro T B D TE TW
 wrow_args hpre hlay hrd hwl hlo
 rename_i hL _ _ _ hI _ hc _
 refine wpAny_mono (law_entry KX T hL hI (by omega) hmg') (fun v s' p=>?_) fun _ _ p=>p.elim
 obtain ⟨rfl,k,hgens,hos⟩:=p
 refine ⟨.inl ⟨.bool true,.bool true,[],rfl,fun cls=>?_,.bool true,?_,fun _=>⟨List.nodup_nil,fun a h=>by cases h⟩⟩,.of_keep k,hos,AllBare.of_eq (hgens.trans hg)⟩
 ·rfl
 ·wrow_post
